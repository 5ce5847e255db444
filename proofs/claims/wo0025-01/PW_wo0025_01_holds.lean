import PyProof.Rows.All
import Wide.All
import OpenK.AllK
import Wide.FinOn
import Lean
import PySem.Challenge.RW_wo0025_01
set_option Elab.async false
section
open PySem PySem.W PyProof.Rows
namespace Mine
set_option maxRecDepth 100000
set_option maxHeartbeats 8000000
theorem said : PySem.Challenge.rw_wo0025_01.wellSaid = true := by
  unfold OpenLaw.wellSaid
  repeat' with_reducible refine look_both ?_ ?_
  all_goals try (unfold OpenRow.wellSaid; repeat' with_reducible refine look_both ?_ ?_)
  all_goals try (unfold OpenRow.partSaid; repeat' with_reducible refine look_both ?_ ?_)
  all_goals try (unfold looksOpen; repeat' with_reducible refine look_both ?_ ?_)
  all_goals decide +kernel
/-- the head is left whole: only the heap is written out here -/
theorem lite {p : Prop} (hw : True) (hc : p) : p := (And.intro hw hc).2
local macro_rules | `(tactic| o_law) => `(tactic| refine holds_law said fun _ => ?_)
local macro_rules | `(tactic| o_head $_) => `(tactic| apply lite)
local macro_rules | `(tactic| w_witness2) => `(tactic| trivial)
open_top hd for PySem.Challenge.rw_wo0025_01
end Mine
end
section
open PySem PySem.Spec PySem.Calls PySem.W PyProof.Rows PySem.Flt
namespace Mine
/-- the greatest of three, as max gives it -/
noncomputable def max3 (x y z : UInt64) : UInt64 :=
  let m := if (Float64.cmp x y == some .lt) = true then y else x
  if (Float64.cmp m z == some .lt) = true then z else m
noncomputable def min3 (x y z : UInt64) : UInt64 :=
  let m := if (Float64.cmp y x == some .lt) = true then y else x
  if (Float64.cmp z m == some .lt) = true then z else m
section
variable {prog : Program} {w : World} {A : Around} {E : Value → Shared → Prop} {s : Shared} {Q : Value → Shared → Prop} {a b c : Value}
noncomputable def maxV (a b c : Value) : Value := let m := if ltV a b then b else a; if ltV m c then c else m
noncomputable def minV (a b c : Value) : Value := let m := if ltV b a then b else a; if ltV c m then c else m
theorem max_three_num (hh : A.handled = none) (ha : NumV a) (hb : NumV b) (hc : NumV c)
    (h : ∀ h' tk, (∀ d o, s.heap.get? d = some o → h'.get? d = some o) → Q (maxV a b c) { s with heap := h', toks := tk }) :
    wpAny (model prog w) A (call (.builtin "max") [a, b, c]) Q E s := by
  have hT : (s.heap.push { cls := .type "tuple", data := .seq #[a, b, c] }).IsTuple s.heap.objs.size #[a, b, c] := ⟨_, Heap.get?_push_size _ rfl, rfl, 0, rfl⟩
  refine call_max_three (wpAny_pyIter_tuple hT ?_)
  have hsz : (s.heap.push { cls := .type "tuple", data := .seq #[a, b, c] }).objs.size = s.heap.objs.size + 1 := Heap.size_push ..
  refine ⟨_, [_, s.heap.objs.size], [_], _, _, _, _, rfl, Walks.tuple (A := A.in1) hh _ s.heap.objs.size (by rw [hsz]; exact Nat.ne_of_lt (Nat.lt_succ_self _)) #[a, b, c],
    ⟨⟨_, Heap.get?_push_size _ rfl, rfl, rfl⟩, hT.push _⟩, fun d hd => ?_, by simp, cmpOf_gt #[a, b, c] (by simp [ha, hb, hc]), fun v h' tk hP hk => ?_⟩
  · show d < ((s.heap.push _).push _).objs.size
    rw [Heap.size_push, hsz]
    rcases List.mem_cons.mp hd with rfl | hd
    · rw [hsz]; exact Nat.lt_succ_self _
    · rcases List.mem_cons.mp hd with rfl | hd
      · exact Nat.lt_succ_of_lt (Nat.lt_succ_self _)
      · cases hd
  · have hold : ∀ d o, s.heap.get? d = some o → h'.get? d = some o := fun d o e => by
      refine hk d o (fun hm => ?_) (Heap.get?_push_of_some _ (Heap.get?_push_of_some _ e))
      rcases List.mem_cons.mp hm with e1 | hm
      · have := Heap.lt_size e; rw [e1, hsz] at this; exact Nat.lt_irrefl _ (Nat.lt_of_succ_lt this)
      · cases hm
    have := h h' tk hold
    have hv : v = maxV a b c := by
      unfold maxV
      cases h1 : ltV a b <;> cases h2 : ltV b c <;> cases h3 : ltV a c <;> simp [argBest, h1, h2, h3] at hP ⊢ <;> simp [hP]
    rw [hv]; exact this
theorem min_three_num (hh : A.handled = none) (ha : NumV a) (hb : NumV b) (hc : NumV c)
    (h : ∀ h' tk, (∀ d o, s.heap.get? d = some o → h'.get? d = some o) → Q (minV a b c) { s with heap := h', toks := tk }) :
    wpAny (model prog w) A (call (.builtin "min") [a, b, c]) Q E s := by
  have hT : (s.heap.push { cls := .type "tuple", data := .seq #[a, b, c] }).IsTuple s.heap.objs.size #[a, b, c] := ⟨_, Heap.get?_push_size _ rfl, rfl, 0, rfl⟩
  refine call_min_three (wpAny_pyIter_tuple hT ?_)
  have hsz : (s.heap.push { cls := .type "tuple", data := .seq #[a, b, c] }).objs.size = s.heap.objs.size + 1 := Heap.size_push ..
  refine ⟨_, [_, s.heap.objs.size], [_], _, _, _, _, rfl, Walks.tuple (A := A.in1) hh _ s.heap.objs.size (by rw [hsz]; exact Nat.ne_of_lt (Nat.lt_succ_self _)) #[a, b, c],
    ⟨⟨_, Heap.get?_push_size _ rfl, rfl, rfl⟩, hT.push _⟩, fun d hd => ?_, by simp, cmpOf_lt #[a, b, c] (by simp [ha, hb, hc]), fun v h' tk hP hk => ?_⟩
  · show d < ((s.heap.push _).push _).objs.size
    rw [Heap.size_push, hsz]
    rcases List.mem_cons.mp hd with rfl | hd
    · rw [hsz]; exact Nat.lt_succ_self _
    · rcases List.mem_cons.mp hd with rfl | hd
      · exact Nat.lt_succ_of_lt (Nat.lt_succ_self _)
      · cases hd
  · have hold : ∀ d o, s.heap.get? d = some o → h'.get? d = some o := fun d o e => by
      refine hk d o (fun hm => ?_) (Heap.get?_push_of_some _ (Heap.get?_push_of_some _ e))
      rcases List.mem_cons.mp hm with e1 | hm
      · have := Heap.lt_size e; rw [e1, hsz] at this; exact Nat.lt_irrefl _ (Nat.lt_of_succ_lt this)
      · cases hm
    have := h h' tk hold
    have hv : v = minV a b c := by
      unfold minV
      cases h1 : ltV b a <;> cases h2 : ltV c b <;> cases h3 : ltV c a <;> simp [argBest, h1, h2, h3] at hP ⊢ <;> simp [hP]
    rw [hv]; exact this
theorem max_three_fff {x y z : UInt64} {t u v : Tok} {h₀ : Heap} {L : Addr} {m : Str → Option Value} {news : List (Addr × Obj)}
    (hh : A.handled = none) (F : Fr h₀ L s.heap m) (N : News h₀ L s.heap news)
    (h : ∀ h' tk v, Fr h₀ L h' m → News h₀ L h' news → Q (.float (max3 x y z) v) { s with heap := h', toks := tk }) :
    wpAny (model prog w) A (call (.builtin "max") [.float x t, .float y u, .float z v]) Q E s :=
  max_three_num hh (.float x t) (.float y u) (.float z v) fun h' tk kp => by
    have e : ∃ q, maxV (.float x t) (.float y u) (.float z v) = .float (max3 x y z) q := by
      unfold maxV max3
      cases h1 : Float64.cmp x y == some .lt <;> cases h2 : Float64.cmp y z == some .lt <;> cases h3 : Float64.cmp x z == some .lt <;> simp [ltV, h1, h2, h3]
    obtain ⟨q, e⟩ := e
    rw [e]
    exact h h' tk q (F.grownK kp) (N.grown kp)
theorem min_three_fff {x y z : UInt64} {t u v : Tok} {h₀ : Heap} {L : Addr} {m : Str → Option Value} {news : List (Addr × Obj)}
    (hh : A.handled = none) (F : Fr h₀ L s.heap m) (N : News h₀ L s.heap news)
    (h : ∀ h' tk v, Fr h₀ L h' m → News h₀ L h' news → Q (.float (min3 x y z) v) { s with heap := h', toks := tk }) :
    wpAny (model prog w) A (call (.builtin "min") [.float x t, .float y u, .float z v]) Q E s :=
  min_three_num hh (.float x t) (.float y u) (.float z v) fun h' tk kp => by
    have e : ∃ q, minV (.float x t) (.float y u) (.float z v) = .float (min3 x y z) q := by
      unfold minV min3
      cases h1 : Float64.cmp y x == some .lt <;> cases h2 : Float64.cmp z y == some .lt <;> cases h3 : Float64.cmp z x == some .lt <;> simp [ltV, h1, h2, h3]
    obtain ⟨q, e⟩ := e
    rw [e]
    exact h h' tk q (F.grownK kp) (N.grown kp)
end
end Mine
end
section
open PySem PySem.Spec PySem.Calls PySem.W PyProof.Rows PySem.Flt
namespace Mine
/-- what rgb_to_hsv reckons -/
noncomputable def hsvF (r g b : UInt64) : UInt64 × UInt64 × UInt64 :=
  if (Float64.cmp (min3 r g b) (max3 r g b) == some .eq) = true then (0, 0, max3 r g b) else
  let range := Float64.sub (max3 r g b) (min3 r g b)
  let rc := Float64.div (Float64.sub (max3 r g b) r) range
  let gc := Float64.div (Float64.sub (max3 r g b) g) range
  let bc := Float64.div (Float64.sub (max3 r g b) b) range
  let h := if (Float64.cmp r (max3 r g b) == some .eq) = true then Float64.sub bc gc
    else if (Float64.cmp g (max3 r g b) == some .eq) = true then Float64.sub (Float64.add 4611686018427387904 rc) bc
    else Float64.sub (Float64.add 4616189618054758400 gc) rc
  ((Float64.divmod (Float64.div h 4618441417868443648) 4607182418800017408).snd, Float64.div range (max3 r g b), max3 r g b)
section
variable {r g b : UInt64}
theorem hsvF_grey (h : (Float64.cmp (min3 r g b) (max3 r g b) == some .eq) = true) : hsvF r g b = (0, 0, max3 r g b) := by unfold hsvF; rw [if_pos h]
theorem hsvF_r (h : (Float64.cmp (min3 r g b) (max3 r g b) == some .eq) = false) (h1 : (Float64.cmp r (max3 r g b) == some .eq) = true) :
    hsvF r g b = ((Float64.divmod (Float64.div (Float64.sub (Float64.div (Float64.sub (max3 r g b) b) (Float64.sub (max3 r g b) (min3 r g b))) (Float64.div (Float64.sub (max3 r g b) g) (Float64.sub (max3 r g b) (min3 r g b)))) 4618441417868443648) 4607182418800017408).snd, Float64.div (Float64.sub (max3 r g b) (min3 r g b)) (max3 r g b), max3 r g b) := by
  simp only [hsvF, h, h1, Bool.false_eq_true, if_false, if_true]
theorem hsvF_g (h : (Float64.cmp (min3 r g b) (max3 r g b) == some .eq) = false) (h1 : (Float64.cmp r (max3 r g b) == some .eq) = false) (h2 : (Float64.cmp g (max3 r g b) == some .eq) = true) :
    hsvF r g b = ((Float64.divmod (Float64.div (Float64.sub (Float64.add 4611686018427387904 (Float64.div (Float64.sub (max3 r g b) r) (Float64.sub (max3 r g b) (min3 r g b)))) (Float64.div (Float64.sub (max3 r g b) b) (Float64.sub (max3 r g b) (min3 r g b)))) 4618441417868443648) 4607182418800017408).snd, Float64.div (Float64.sub (max3 r g b) (min3 r g b)) (max3 r g b), max3 r g b) := by
  simp only [hsvF, h, h1, h2, Bool.false_eq_true, if_false, if_true]
theorem hsvF_b (h : (Float64.cmp (min3 r g b) (max3 r g b) == some .eq) = false) (h1 : (Float64.cmp r (max3 r g b) == some .eq) = false) (h2 : (Float64.cmp g (max3 r g b) == some .eq) = false) :
    hsvF r g b = ((Float64.divmod (Float64.div (Float64.sub (Float64.add 4616189618054758400 (Float64.div (Float64.sub (max3 r g b) g) (Float64.sub (max3 r g b) (min3 r g b)))) (Float64.div (Float64.sub (max3 r g b) r) (Float64.sub (max3 r g b) (min3 r g b)))) 4618441417868443648) 4607182418800017408).snd, Float64.div (Float64.sub (max3 r g b) (min3 r g b)) (max3 r g b), max3 r g b) := by
  simp only [hsvF, h, h1, h2, Bool.false_eq_true, if_false, if_true]
end
/-- the whole part of the sixths, as int(h * 6.0) gives it -/
noncomputable def iH (h : UInt64) : Int := toInt Float64.truncOf (Float64.mul h 4618441417868443648)
/-- rgb_to_hsv does not divide by nought -/
def HsvOk (r g b : UInt64) : Prop := (Float64.cmp (min3 r g b) (max3 r g b) == some .eq) = false → ¬ Float64.isZero (max3 r g b) = true ∧ ¬ Float64.isZero (Float64.sub (max3 r g b) (min3 r g b)) = true
/-- hsv_to_rgb's int does not raise -/
def RgbOk (h x _v : UInt64) : Prop := (Float64.cmp x 0 == some .eq) = false → Float64.isFinite (Float64.mul h 4618441417868443648) = true ∧ (iH h).natAbs < 2 ^ 64
/-- a paint's part as a float -/
noncomputable def fl (r : Int) : UInt64 := Float64.div (Float64.ofInt r) 4661225614328463360
/-- a float's part as a whole number -/
noncomputable def ci (x : UInt64) : Int := toInt Float64.truncOf (Float64.add (Float64.mul x 4661225614328463360) 4602678819172646912)
/-- what hsv_to_rgb reckons -/
noncomputable def rgbF (h x v : UInt64) : UInt64 × UInt64 × UInt64 :=
  if (Float64.cmp x 0 == some .eq) = true then (v, v, v) else
  let f := Float64.sub (Float64.mul h 4618441417868443648) (Float64.ofInt (iH h))
  let p := Float64.mul v (Float64.sub 4607182418800017408 x)
  let q := Float64.mul v (Float64.sub 4607182418800017408 (Float64.mul x f))
  let t := Float64.mul v (Float64.sub 4607182418800017408 (Float64.mul x (Float64.sub 4607182418800017408 f)))
  let j := (iH h).fmod 6
  if j = 0 then (v, t, p) else if j = 1 then (q, v, p) else if j = 2 then (p, v, t) else if j = 3 then (p, q, v) else if j = 4 then (t, p, v) else (v, p, q)
section
variable {h x v : UInt64}
theorem rgbF_grey (e : (Float64.cmp x 0 == some .eq) = true) : rgbF h x v = (v, v, v) := by unfold rgbF; rw [if_pos e]
theorem rgbF_j (k : Int) (e : (Float64.cmp x 0 == some .eq) = false) (hk : (toInt Float64.truncOf (Float64.mul h 4618441417868443648)).fmod 6 = k) :
    rgbF h x v =
      let f := Float64.sub (Float64.mul h 4618441417868443648) (Float64.ofInt (toInt Float64.truncOf (Float64.mul h 4618441417868443648)))
      let p := Float64.mul v (Float64.sub 4607182418800017408 x)
      let q := Float64.mul v (Float64.sub 4607182418800017408 (Float64.mul x f))
      let t := Float64.mul v (Float64.sub 4607182418800017408 (Float64.mul x (Float64.sub 4607182418800017408 f)))
      if k = 0 then (v, t, p) else if k = 1 then (q, v, p) else if k = 2 then (p, v, t) else if k = 3 then (p, q, v) else if k = 4 then (t, p, v) else (v, p, q) := by
  subst hk
  unfold rgbF
  rw [if_neg (by simp [e])]
  rfl
theorem fin_nan {x : UInt64} (h : Float64.isFinite x = true) (q : Float64.isNaN x = true) : False := by
  unfold Float64.isFinite at h
  unfold Float64.isNaN at q
  cases e : Float64.decode x <;> simp [e] at h q
theorem fin_inf {x : UInt64} (h : Float64.isFinite x = true) (q : Float64.isInf x = true) : False := by
  unfold Float64.isFinite at h
  unfold Float64.isInf at q
  cases e : Float64.decode x <;> simp [e] at h q
theorem big_no {n : Nat} (h : n < 2 ^ 64) : ¬ 2 ^ 1024 - 2 ^ 970 ≤ n := fun q => by
  have e : 2 ^ 64 ≤ 2 ^ 1024 - 2 ^ 970 := by decide +kernel
  exact absurd (Nat.le_trans e q) (Nat.not_le.mpr h)
theorem six_no {n : Int} (h0 : n.fmod 6 ≠ 0) (h1 : n.fmod 6 ≠ 1) (h2 : n.fmod 6 ≠ 2) (h3 : n.fmod 6 ≠ 3) (h4 : n.fmod 6 ≠ 4) (h5 : n.fmod 6 ≠ 5) : False := by
  rw [Int.fmod_eq_emod_of_nonneg _ (by decide)] at *
  lia
end
end Mine
namespace Mine
/-- rgb_to_hls goes by its first branch, and divides by nought nowhere -/
def HlsOk (r g b : UInt64) : Prop := (Float64.cmp (min3 r g b) (max3 r g b) == some .eq) = false →
  (Float64.cmp (Float64.div (Float64.add (max3 r g b) (min3 r g b)) 4611686018427387904) 4602678819172646912 == some .lt || Float64.cmp (Float64.div (Float64.add (max3 r g b) (min3 r g b)) 4611686018427387904) 4602678819172646912 == some .eq) = true ∧
    ¬ Float64.isZero (Float64.add (max3 r g b) (min3 r g b)) = true ∧ ¬ Float64.isZero (Float64.sub (max3 r g b) (min3 r g b)) = true
end Mine
end
section
open PySem PySem.Spec PySem.Calls PySem.W PyProof.Rows PySem.Flt PyProof.Rows.LCg
set_option maxRecDepth 100000
namespace Mine
/-- one ledger lies within the other -/
def Sub (a b : List (Addr × Obj)) : Prop := ∀ p ∈ a, p ∈ b
theorem Sub.mem {a b : List (Addr × Obj)} {p : Addr × Obj} (h : Sub a b) (hp : p ∈ a) : p ∈ b := h p hp
theorem Sub.apply {a b : List (Addr × Obj)} {p : Addr × Obj} (hp : p ∈ a) (h : Sub a b) : p ∈ b := h p hp
/-- an element's end: what it has made stands ahead of the ledger -/
inductive EltEnd (h₀ : Heap) (L : Addr) (m : Str → Option Value) (s : Shared) (nw : List (Addr × Obj)) (rest : Value → List (Addr × Obj) → Prop) (y : Value) (s₂ : Shared) : Prop
  | mk (h' : Heap) (tk : Nat) (pre : List (Addr × Obj)) (e : s₂ = { s with heap := h', toks := tk }) (F : Fr h₀ L h' m) (N : News h₀ L h' (pre ++ nw)) (off : ∀ p ∈ pre, ∀ q ∈ nw, q.1 ≠ p.1) (r : rest y pre)
section
variable {h₀ : Heap} {L : Addr} {m : Str → Option Value} {s : Shared} {nw : List (Addr × Obj)} {rest : Value → List (Addr × Obj) → Prop} {y : Value} {h' : Heap} {tk : Nat}
theorem EltEnd.none (F : Fr h₀ L h' m) (N : News h₀ L h' nw) (r : rest y []) : EltEnd h₀ L m s nw rest y { s with heap := h', toks := tk } :=
  ⟨h', tk, [], rfl, F, N, fun _ h => (nomatch h), r⟩
theorem EltEnd.one {a : Addr} {o : Obj} (F : Fr h₀ L h' m) (N : News h₀ L h' ((a, o) :: nw)) (l : ∀ p ∈ nw, p.1 < a) (r : rest y [(a, o)]) : EltEnd h₀ L m s nw rest y { s with heap := h', toks := tk } :=
  ⟨h', tk, [(a, o)], rfl, F, N, fun p hp q hq => by rw [List.mem_singleton.mp hp]; exact Nat.ne_of_lt (l q hq), r⟩
end
section
variable (prog : Program) (w : World) (A : Around) (h₀ : Heap) (L : Addr) (m : Str → Option Value) (env : Env) (elt : Expr) (scope : Scope) (cl : List (Str × Addr)) (s : Shared) (bnd : Nat → List (Str × Value) → Prop)
def LRest (Fin : List Value → List (Addr × Obj) → Prop) : Nat → Nat → List Value → List (Addr × Obj) → Prop
  | 0, _, ys, news => Fin ys news
  | k + 1, i, ys, news => ∀ bs C oC mC D h tk nw (E' : Value → Shared → Prop), bnd i bs → NsObj oC mC → (∀ p ∈ bs, mC p.1 = some p.2) → Fr h₀ L h m → News h₀ L h nw → (C, oC) ∈ nw → (D, lst ys) ∈ nw → Sub news nw →
      wpAny (model prog w) A (eval elt (compEnvC scope cl C env)) (EltEnd h₀ L m { s with heap := h, toks := tk } nw fun y pre => LRest Fin k (i + 1) (ys ++ [y]) (pre ++ news)) E' { s with heap := h, toks := tk }
def DRest (ks : Nat → Str) (Fin : List (Str × Value) → List (Addr × Obj) → Prop) : Nat → Nat → List (Str × Value) → List (Addr × Obj) → Prop
  | 0, _, kvs, news => Fin kvs news
  | k + 1, i, kvs, news => ∀ bs C oC mC D oD h tk nw (E' : Value → Shared → Prop), bnd i bs → NsObj oC mC → (∀ p ∈ bs, mC p.1 = some p.2) → Fr h₀ L h m → News h₀ L h nw → (C, oC) ∈ nw → (D, oD) ∈ nw → oD.IsDictOf (PySem.strKind prog w) kvs → Sub news nw →
      wpAny (model prog w) A (eval elt (compEnvC scope cl C env)) (EltEnd h₀ L m { s with heap := h, toks := tk } nw fun y pre => DRest ks Fin k (i + 1) (stored kvs (ks i) y) (pre ++ news)) E' { s with heap := h, toks := tk }
end
section
variable {prog : Program} {w : World} {A : Around} {E : Value → Shared → Prop} {s : Shared} {h₀ : Heap} {L : Addr} {m : Str → Option Value} {env : Env}
theorem dict_loop {kx vx target iter : Expr} {scope : Scope} {pos : Pos} {it : Value} {D : Addr} {env : Env} {R : Result → Shared → Prop} (I : Nat → Shared → Prop)
    (turn : ∀ n s, I n s → wpAny (model prog w) A (pyNext it) (fun r s₁ => match r with
      | none => R (.ok .next) s₁
      | some v => wpAny (model prog w) A (letOwnedTupleGo target it v) (fun _ s₀ => wpAny (model prog w) A (assign target env v) (fun _ s₂ =>
          wpAny (model prog w) A (eval kx env) (fun kv s₄ => wpAny (model prog w) A (eval vx env) (fun vv s₅ =>
            wpAny (model prog w) A (dictSet D kv vv) (fun _ s₆ => ∃ m, m < n ∧ I m s₆) (notedBy (model prog w) A env fun e s' => R (.error e) s') s₅) (notedBy (model prog w) A env fun e s' => R (.error e) s') s₄) (notedBy (model prog w) A env fun e s' => R (.error e) s') s₂)
          (notedBy (model prog w) A env fun e s' => R (.error e) s') s₀) (notedBy (model prog w) A env fun e s' => R (.error e) s') s₁) (notedBy (model prog w) A env fun e s' => R (.error e) s') s)
    (n : Nat) (h : I n s) : codeAny (model prog w) A (.compLoop (.DictComp kx vx [⟨target, iter, [], 0⟩] scope pos) 0 it (.ref D) env) R s := by
  refine codeAny_loop rfl I (fun n s hI => ?_) n h
  show wpAny _ A ((compTurn (.DictComp kx vx [⟨target, iter, [], 0⟩] scope pos) 0 it (.ref D) env).onRaise (fun x => do noteFrame x env; theTreesLotGoes x)) _ _ s
  refine wpAny_noted ?_
  rw [compTurn_dict]
  refine wpAny_bind (wpAny_standAt (wpAny_bind (wpAny_mono (turn n s hI) (fun r s₁ h₁ => ?_) fun _ _ h' => h')))
  cases r with
  | none => exact wpAny_pure h₁
  | some v =>
    refine wpAny_bind (wpAny_mono h₁ (fun _ s₀ h₀' => ?_) fun _ _ h' => h')
    refine wpAny_bind (wpAny_mono h₀' (fun _ s₂ h₂ => ?_) fun _ _ h' => h')
    refine wpAny_bind (wpAny_tests_nil ?_)
    exact wpAny_bind (wpAny_bind (wpAny_mono h₂ (fun kv s₄ h₄ => wpAny_bind (wpAny_holding (wpAny_mono h₄ (fun vv s₅ h₅ => wpAny_bind (wpAny_standAt (wpAny_holding (wpAny_mono h₅ (fun _ s₆ h₆ => wpAny_pure ⟨rfl, h₆⟩) fun _ _ h' => h')))) fun _ _ h' => h'))) fun _ _ h' => h'))
/-- the iterator as the blocks ask it -/
structure Src (prog : Program) (w : World) (A : Around) (h₀ : Heap) (L : Addr) (env : Env) (scope : Scope) (cl : List (Str × Addr)) (target : Expr) (I : Addr) (fp wr : List Addr) (n : Nat) (P Md : Nat → Value → Heap → Prop) (St : Nat → Heap → Prop)
    (bnd : Nat → List (Str × Value) → Prop) : Prop where
  turns : KTurns prog w A target I fp wr n P Md St
  self : ∀ (s : Shared) (Q : Value → Shared → Prop) (E : Value → Shared → Prop), St 0 s.heap → Q (.ref I) s → wpAny (model prog w) A (pyIter (.ref I)) Q E s
  alive : ∀ i h, St i h → ∀ b ∈ wr, ∃ o, h.get? b = some o
  fits : n ≤ sizeLine
  notL : L ∉ fp
  fresh : ∀ b ∈ wr, h₀.get? b = none
  bind : ∀ i v C (s : Shared) mC (Q : Unit → Shared → Prop) (E : Value → Shared → Prop), P i v s.heap → s.heap.Ns C mC →
    (∀ bs h' tk mC', bnd i bs → h'.Ns C mC' → (∀ p ∈ bs, mC' p.1 = some p.2) → (∀ c o, c ≠ C → s.heap.get? c = some o → h'.get? c = some o) → Q () { s with heap := h', toks := tk }) →
    wpAny (model prog w) A (assign target (compEnvC scope cl C env) v) Q E s
inductive LInv (prog : Program) (w : World) (A : Around) (h₀ : Heap) (L : Addr) (m : Str → Option Value) (env : Env) (elt : Expr) (scope : Scope) (cl : List (Str × Addr)) (s₂ : Shared) (bnd : Nat → List (Str × Value) → Prop) (Fin : List Value → List (Addr × Obj) → Prop) (n : Nat) (St : Nat → Heap → Prop) (wr : List Addr) (C D : Addr) (k : Nat) (s' : Shared) : Prop
  | mk (h' : Heap) (tk i : Nat) (ys : List Value) (mC : Str → Option Value) (news' : List (Addr × Obj)) (e : s' = { s₂ with heap := h', toks := tk }) (hi : i ≤ n) (hk : k = n + 1 - i) (hl : ys.length = i) (st : St i h') (F : Fr h₀ L h' m) (hn : h'.Ns C mC) (N : News h₀ L h' ((D, lst ys) :: news'))
      (off : ∀ p ∈ news', p.1 ∉ wr ∧ p.1 ≠ C ∧ p.1 ≠ D) (r : LRest prog w A h₀ L m env elt scope cl s₂ bnd Fin (n - i) i ys news')
theorem block_list {elt iter target : Expr} {scope : Scope} {cl : List (Str × Addr)} {pos : Pos} {s₂ : Shared} {I : Addr} {fp wr : List Addr} {n : Nat} {P Md : Nat → Value → Heap → Prop} {St : Nat → Heap → Prop} {bnd : Nat → List (Str × Value) → Prop} {news : List (Addr × Obj)}
    {Fin : List Value → List (Addr × Obj) → Prop} {RR : Value → Addr → Result → Shared → Prop}
    (W : Src prog w A h₀ L env scope cl target I fp wr n P Md St bnd)
    (hcell : ∀ y ∈ scope.names, y.2 ≠ .cell) (hkind : scope.kind = .function) (hst : St 0 s₂.heap) (hfp : ∀ b ∈ fp, b < s₂.heap.objs.size)
    (F : Fr h₀ L s₂.heap m) (N : News h₀ L s₂.heap news) (hnw : ∀ p ∈ news, p.1 ∉ wr)
    (R : LRest prog w A h₀ L m env elt scope cl s₂ bnd Fin n 0 [] news)
    (hRR : ∀ D C h tk mC ys news', Fr h₀ L h m → News h₀ L h ((D, lst ys) :: news') → h.Ns C mC → h₀.get? C = none → C ≠ L → C ≠ D → (∀ p ∈ news', p.1 ≠ C ∧ p.1 ≠ D) → Fin ys news' → RR (.ref D) C (.ok .next) { s₂ with heap := h, toks := tk }) :
    wpAny (model prog w) A (newList []) (fun acc s₃ => wpAny (model prog w) A (newFunctionEnv scope env.globals cl [] env.qual none .none (some env)) (fun cenv s₄ =>
      codeAny (model prog w) A (.compStart (.ListComp elt [⟨target, iter, [], 0⟩] scope pos) 0 (.ref I) acc { cenv with scope := relabel scope env }) (RR acc cenv.locals) s₄) E s₃) E s₂ := by
  refine wpAny_newObj_type (wpAny_newFunctionEnv hcell (by intro y hy; simp at hy) (fun h₁ hns₁ hsb₁ => ?_) hkind)
  dsimp only at hns₁ hsb₁ ⊢
  generalize hH2 : s₂.heap.push { cls := .type "list", dict := none, data := .seq ([] : List Value).toArray } = H2 at hns₁ hsb₁ ⊢
  have hC : H2.objs.size = s₂.heap.objs.size + 1 := by rw [← hH2, Heap.size_push]
  have hDC : s₂.heap.objs.size ≠ H2.objs.size := by rw [hC]; exact Nat.ne_of_lt (Nat.lt_succ_self _)
  have below : ∀ b, b < s₂.heap.objs.size → b ≠ H2.objs.size ∧ b ≠ s₂.heap.objs.size := fun b hb => ⟨by rw [hC]; exact Nat.ne_of_lt (Nat.lt_succ_of_lt hb), Nat.ne_of_lt hb⟩
  have hDf : s₂.heap.objs.size ∉ fp := fun hm => Nat.lt_irrefl _ (hfp _ hm)
  have hCf : H2.objs.size ∉ fp := fun hm => by have := hfp _ hm; rw [hC] at this; exact Nat.lt_irrefl _ (Nat.lt_of_succ_lt this)
  have old : ∀ b o, s₂.heap.get? b = some o → h₁.get? b = some o := fun b o e => hsb₁.extBut b o (below b (Heap.lt_size e)).1 (Heap.get?_push_of_some _ (hH2 ▸ Heap.get?_push_of_some _ e))
  have hacc : h₁.get? s₂.heap.objs.size = some (lst []) := hsb₁.extBut _ _ hDC (Heap.get?_push_of_some _ (hH2 ▸ Heap.get?_push_size _ rfl))
  have hst₁ : St 0 h₁ := W.turns.frame _ _ _ hst fun b _ o e => old b o e
  have fresh₀ : ∀ a, s₂.heap.objs.size ≤ a → h₀.get? a = none := fun a ha => by
    cases e : h₀.get? a with
    | none => rfl
    | some o' => exact absurd (Heap.lt_size (F.keep a o' e)) (Nat.not_lt.mpr ha)
  have hD₀ : h₀.get? s₂.heap.objs.size = none := fresh₀ _ (Nat.le_refl _)
  have hC₀ : h₀.get? H2.objs.size = none := fresh₀ _ (by rw [hC]; exact Nat.le_succ _)
  have hLlt : L < s₂.heap.objs.size := F.ns.lt
  have hDL : s₂.heap.objs.size ≠ L := Ne.symm (below L hLlt).2
  have hCL : H2.objs.size ≠ L := Ne.symm (below L hLlt).1
  generalize hD : s₂.heap.objs.size = D at *
  generalize hCC : H2.objs.size = C at *
  have hCw : C ∉ wr := fun h => hCf (W.turns.sub _ h)
  have hDw : D ∉ wr := fun h => hDf (W.turns.sub _ h)
  have hLw : L ∉ wr := fun h => W.notL (W.turns.sub _ h)
  have oldw : ∀ b o, h₀.get? b = some o → b ∉ wr := fun b o e hb => by rw [W.fresh b hb] at e; cases e
  have loop : ∀ s₃ : Shared, s₃ = { s₂ with heap := h₁, toks := s₂.toks + ([] : List (Str × Value)).length } →
      codeAny (model prog w) A (.compLoop (.ListComp elt [⟨target, iter, [], 0⟩] scope pos) 0 (.ref I) (.ref D) (compEnvC scope cl C env)) (RR (.ref D) C) s₃ := by
    rintro s₃ rfl
    refine kcp_loop
      (LInv prog w A h₀ L m env elt scope cl s₂ bnd Fin n St wr C D) ?_ (n + 1)
      ⟨h₁, _, 0, [], _, news, rfl, Nat.zero_le _, rfl, rfl, hst₁, F.keeps old, hns₁, fun p hp => ?_, fun p hp => ⟨hnw p hp, (below _ (hD ▸ Heap.lt_size (N p hp).1)).1, (below _ (hD ▸ Heap.lt_size (N p hp).1)).2⟩, R⟩
    · rintro k s' ⟨h', tk, i, ys, mC, news', rfl, hi, rfl, hyl, hst', F', hn', N', off', R'⟩
      by_cases hlt : i < n
      · obtain ⟨j, hj⟩ : ∃ j, n - i = j + 1 := ⟨n - i - 1, by lia⟩
        rw [hj] at R'
        refine W.turns.item i _ _ _ hlt hst' fun v h₂ tk₂ hMd hk₂ => ?_
        refine W.turns.go i v _ _ _ hMd fun h₃ hP hst₃ hk₃ => ?_
        have up₃ : ∀ c o, c ∉ wr → h'.get? c = some o → h₃.get? c = some o := fun c o hc e => hk₃ c o hc (hk₂ c o hc e)
        refine W.bind i v C _ mC _ _ hP (hn'.at' fun o e => up₃ _ o hCw e) fun bs h₄ tk₄ mC' hb hn₄ hbs hk₄ => ?_
        have up₄ : ∀ c o, c ∉ wr → c ≠ C → h'.get? c = some o → h₄.get? c = some o := fun c o h1 h2 e => hk₄ c o h2 (up₃ c o h1 e)
        have hst₄ : St (i + 1) h₄ := W.turns.frame _ _ _ hst₃ fun b hb o e => hk₄ b o (fun q => hCf (q ▸ hb)) e
        obtain ⟨oC, heC, hoC⟩ := ns_obj hn₄
        have F₄ : Fr h₀ L h₄ m := ⟨F'.ns.at' fun o e => up₄ _ o hLw (Ne.symm hCL) e, fun c o e => up₄ c o (oldw c o e) (fun q => by rw [q, hC₀] at e; cases e) (F'.keep c o e), F'.above⟩
        have No : News h₀ L h₄ (PyProof.Rows.ownOf h₀ fp h₄) := news_ownOf W.notL
        have N₄ : News h₀ L h₄ ((C, oC) :: (D, lst ys) :: (PyProof.Rows.ownOf h₀ fp h₄ ++ news')) := fun q hq => by
          rcases List.mem_cons.mp hq with rfl | hq
          · exact ⟨heC, hCL, hC₀⟩
          · rcases List.mem_cons.mp hq with rfl | hq
            · have z := N' _ List.mem_cons_self
              exact ⟨up₄ _ _ hDw hDC z.1, z.2⟩
            · rcases List.mem_append.mp hq with hq | hq
              · exact No q hq
              · have z := N' q (List.mem_cons_of_mem _ hq)
                exact ⟨up₄ _ _ (off' q hq).1 (off' q hq).2.1 z.1, z.2⟩
        refine wpAny_mono (R' bs C oC mC' D h₄ tk₄ _ _ hb hoC hbs F₄ N₄ List.mem_cons_self (List.mem_cons_of_mem _ List.mem_cons_self) fun p hp => List.mem_cons_of_mem _ (List.mem_cons_of_mem _ (List.mem_append_right _ hp))) (fun y s₅ h₅ => ?_) fun _ _ e => e
        obtain ⟨h₅, tk₅, pre, rfl, F₅, N₅, off₅, R₅⟩ := h₅
        have zC := (N₅ (C, oC) (List.mem_append_right _ List.mem_cons_self)).1
        have zD := (N₅ (D, lst ys) (List.mem_append_right _ (List.mem_cons_of_mem _ List.mem_cons_self))).1
        have hst₅ : St (i + 1) h₅ := W.turns.frame _ _ _ hst₄ fun b hb o e => by
          cases hn : h₀.get? b with
          | some o₀ =>
            have q := F₄.keep b o₀ hn
            rw [e] at q
            cases q
            exact F₅.keep b o hn
          | none => exact (N₅ _ (List.mem_append_right _ (List.mem_cons_of_mem _ (List.mem_cons_of_mem _ (List.mem_append_left _ (mem_ownOf hb hn e)))))).1
        refine append_at (hsz := by show ys.toArray.size ≤ sizeLine; rw [List.size_toArray, hyl]; exact Nat.le_trans hi W.fits) zD fun h₆ hs₆ hD₆ => ?_
        refine ⟨n + 1 - (i + 1), by (clear W hcell hkind hst F N hnw R hRR hH2 old hst₁ hD hfp hDf hacc fresh₀ hD₀ hLlt hDL hCC hns₁ hsb₁ hCf hC₀ hCL hC hDC below hCw hDw hLw oldw hyl hst' F' hn' N' off' hlt R' hj hMd hk₂ hP hst₃ hk₃ up₃ hb hn₄ hbs hk₄ up₄ hst₄ heC hoC F₄ No N₄ F₅ N₅ off₅ R₅ zC zD hst₅ hs₆ hD₆; lia), h₆, tk₅, i + 1, ys ++ [y], _, pre ++ news', rfl, hlt, rfl, by rw [List.length_append, List.length_singleton, hyl], W.turns.frame _ _ _ hst₅ fun b hb o e => hs₆.extBut b o (fun q => hDf (q ▸ hb)) e, F₅.change hs₆ hDL hD₀,
          (hoC.ns zC).sameBut hs₆ (Ne.symm hDC), fun q hq => ?_, fun q hq => ?_, ?_⟩
        · rcases List.mem_cons.mp hq with rfl | hq
          · exact ⟨hD₆.trans (congrArg some (lst_snoc ys y)), hDL, hD₀⟩
          · rcases List.mem_append.mp hq with hq | hq
            · have z := N₅ q (List.mem_append_left _ hq)
              exact ⟨hs₆.extBut _ _ (Ne.symm (off₅ q hq (D, lst ys) (List.mem_cons_of_mem _ List.mem_cons_self))) z.1, z.2⟩
            · have z := N₅ q (List.mem_append_right _ (List.mem_cons_of_mem _ (List.mem_cons_of_mem _ (List.mem_append_right _ hq))))
              exact ⟨hs₆.extBut _ _ (off' q hq).2.2 z.1, z.2⟩
        · rcases List.mem_append.mp hq with hq | hq
          · refine ⟨fun hw => ?_, Ne.symm (off₅ q hq (C, oC) List.mem_cons_self), Ne.symm (off₅ q hq (D, lst ys) (List.mem_cons_of_mem _ List.mem_cons_self))⟩
            obtain ⟨o, e⟩ := W.alive _ _ hst₄ _ hw
            exact off₅ q hq (q.1, o) (List.mem_cons_of_mem _ (List.mem_cons_of_mem _ (List.mem_append_left _ (mem_ownOf (W.turns.sub _ hw) (W.fresh _ hw) e)))) rfl
          · exact off' q hq
        · rw [show n - (i + 1) = j by grind]
          exact R₅
      · obtain rfl : i = n := Nat.le_antisymm hi (Nat.not_lt.mp hlt)
        rw [Nat.sub_self] at R'
        refine W.turns.done _ _ _ hst' fun h₂ tk₂ hk₂ => ?_
        refine hRR _ _ h₂ tk₂ _ ys news' ⟨F'.ns.at' fun o e => hk₂ _ o hLw e, fun c o e => hk₂ c o (oldw c o e) (F'.keep c o e), F'.above⟩ (fun q hq => ?_) (hn'.at' fun o e => hk₂ _ o hCw e) hC₀ hCL (Ne.symm hDC) (fun p hp => (off' p hp).2) R'
        have z := N' q hq
        refine ⟨hk₂ _ _ ?_ z.1, z.2⟩
        rcases List.mem_cons.mp hq with rfl | hq
        · exact hDw
        · exact (off' q hq).1
    · rcases List.mem_cons.mp hp with rfl | hp
      · exact ⟨hacc, hDL, hD₀⟩
      · exact ⟨old _ _ (N p hp).1, (N p hp).2⟩
  exact codeAny_compStart_list (loop _ rfl) (W.self _ _ _ hst₁ (loop _ rfl))
inductive DInv (prog : Program) (w : World) (A : Around) (h₀ : Heap) (L : Addr) (m : Str → Option Value) (env : Env) (elt : Expr) (scope : Scope) (cl : List (Str × Addr)) (s₂ : Shared) (bnd : Nat → List (Str × Value) → Prop) (ks : Nat → Str) (Fin : List (Str × Value) → List (Addr × Obj) → Prop) (n : Nat) (St : Nat → Heap → Prop) (wr : List Addr) (C D : Addr) (k : Nat) (s' : Shared) : Prop
  | mk (h' : Heap) (tk i : Nat) (ys : List (Str × Value)) (oD : Obj) (mC : Str → Option Value) (news' : List (Addr × Obj)) (e : s' = { s₂ with heap := h', toks := tk }) (hi : i ≤ n) (hk : k = n + 1 - i) (hl : ys.length ≤ i) (st : St i h') (F : Fr h₀ L h' m) (hn : h'.Ns C mC) (N : News h₀ L h' ((D, oD) :: news')) (hd : oD.IsDictOf (PySem.strKind prog w) ys)
      (off : ∀ p ∈ news', p.1 ∉ wr ∧ p.1 ≠ C ∧ p.1 ≠ D) (r : DRest prog w A h₀ L m env elt scope cl s₂ bnd ks Fin (n - i) i ys news')
theorem block_dict {elt iter target : Expr} {kx : Str} {kp : Pos} {ks : Nat → Str} {scope : Scope} {cl : List (Str × Addr)} {pos : Pos} {s₂ : Shared} {I : Addr} {fp wr : List Addr} {n : Nat} {P Md : Nat → Value → Heap → Prop} {St : Nat → Heap → Prop} {bnd : Nat → List (Str × Value) → Prop} {news : List (Addr × Obj)}
    {Fin : List (Str × Value) → List (Addr × Obj) → Prop} {RR : Value → Addr → Result → Shared → Prop}
    (W : Src prog w A h₀ L env scope cl target I fp wr n P Md St bnd)
    (hkx : scope.names.lookup kx = some .local) (hkd : (kx == ("__debug__" : Str)) = false) (hks : ∀ i bs, bnd i bs → ∃ t, (kx, Value.str (ks i) t) ∈ bs) (hcell : ∀ y ∈ scope.names, y.2 ≠ .cell) (hkind : scope.kind = .function) (hst : St 0 s₂.heap) (hfp : ∀ b ∈ fp, b < s₂.heap.objs.size)
    (F : Fr h₀ L s₂.heap m) (N : News h₀ L s₂.heap news) (hnw : ∀ p ∈ news, p.1 ∉ wr)
    (R : DRest prog w A h₀ L m env elt scope cl s₂ bnd ks Fin n 0 [] news)
    (hRR : ∀ D C h tk mC ys oD news', Fr h₀ L h m → News h₀ L h ((D, oD) :: news') → oD.IsDictOf (PySem.strKind prog w) ys → h.Ns C mC → h₀.get? C = none → C ≠ L → C ≠ D → L < D → (∀ p ∈ news', p.1 ≠ C ∧ p.1 ≠ D) → Fin ys news' → RR (.ref D) C (.ok .next) { s₂ with heap := h, toks := tk }) :
    wpAny (model prog w) A newDict (fun acc s₃ => wpAny (model prog w) A (newFunctionEnv scope env.globals cl [] env.qual none .none (some env)) (fun cenv s₄ =>
      codeAny (model prog w) A (.compStart (.DictComp (.Name kx kp) elt [⟨target, iter, [], 0⟩] scope pos) 0 (.ref I) acc { cenv with scope := relabel scope env }) (RR acc cenv.locals) s₄) E s₃) E s₂ := by
  refine wpAny_newObj_type (wpAny_newFunctionEnv hcell (by intro y hy; simp at hy) (fun h₁ hns₁ hsb₁ => ?_) hkind)
  dsimp only at hns₁ hsb₁ ⊢
  have hnew : (s₂.heap.push { cls := .type "dict", dict := none, data := .dict #[] }).DictOf (PySem.strKind prog w) s₂.heap.objs.size [] := Heap.DictOf.new s₂.heap
  generalize hH2 : s₂.heap.push { cls := .type "dict", dict := none, data := .dict #[] } = H2 at hns₁ hsb₁ hnew ⊢
  have hC : H2.objs.size = s₂.heap.objs.size + 1 := by rw [← hH2, Heap.size_push]
  have hDC : s₂.heap.objs.size ≠ H2.objs.size := by rw [hC]; exact Nat.ne_of_lt (Nat.lt_succ_self _)
  have below : ∀ b, b < s₂.heap.objs.size → b ≠ H2.objs.size ∧ b ≠ s₂.heap.objs.size := fun b hb => ⟨by rw [hC]; exact Nat.ne_of_lt (Nat.lt_succ_of_lt hb), Nat.ne_of_lt hb⟩
  have hDf : s₂.heap.objs.size ∉ fp := fun hm => Nat.lt_irrefl _ (hfp _ hm)
  have hCf : H2.objs.size ∉ fp := fun hm => by have := hfp _ hm; rw [hC] at this; exact Nat.lt_irrefl _ (Nat.lt_of_succ_lt this)
  have old : ∀ b o, s₂.heap.get? b = some o → h₁.get? b = some o := fun b o e => hsb₁.extBut b o (below b (Heap.lt_size e)).1 (Heap.get?_push_of_some _ (hH2 ▸ Heap.get?_push_of_some _ e))
  have hacc : h₁.DictOf (PySem.strKind prog w) s₂.heap.objs.size [] := hnew.at fun o e => hsb₁.extBut _ _ hDC (Heap.get?_push_of_some _ e)
  obtain ⟨oD₀, heD₀, hoD₀⟩ := Heap.dictOf_iff.mp hacc
  have hst₁ : St 0 h₁ := W.turns.frame _ _ _ hst fun b _ o e => old b o e
  have fresh₀ : ∀ a, s₂.heap.objs.size ≤ a → h₀.get? a = none := fun a ha => by
    cases e : h₀.get? a with
    | none => rfl
    | some o' => exact absurd (Heap.lt_size (F.keep a o' e)) (Nat.not_lt.mpr ha)
  have hD₀ : h₀.get? s₂.heap.objs.size = none := fresh₀ _ (Nat.le_refl _)
  have hC₀ : h₀.get? H2.objs.size = none := fresh₀ _ (by rw [hC]; exact Nat.le_succ _)
  have hLlt : L < s₂.heap.objs.size := F.ns.lt
  have hDL : s₂.heap.objs.size ≠ L := Ne.symm (below L hLlt).2
  have hCL : H2.objs.size ≠ L := Ne.symm (below L hLlt).1
  generalize hD : s₂.heap.objs.size = D at *
  generalize hCC : H2.objs.size = C at *
  have hCw : C ∉ wr := fun h => hCf (W.turns.sub _ h)
  have hDw : D ∉ wr := fun h => hDf (W.turns.sub _ h)
  have hLw : L ∉ wr := fun h => W.notL (W.turns.sub _ h)
  have oldw : ∀ b o, h₀.get? b = some o → b ∉ wr := fun b o e hb => by rw [W.fresh b hb] at e; cases e
  have loop : ∀ s₃ : Shared, s₃ = { s₂ with heap := h₁, toks := s₂.toks + ([] : List (Str × Value)).length } →
      codeAny (model prog w) A (.compLoop (.DictComp (.Name kx kp) elt [⟨target, iter, [], 0⟩] scope pos) 0 (.ref I) (.ref D) (compEnvC scope cl C env)) (RR (.ref D) C) s₃ := by
    rintro s₃ rfl
    refine dict_loop
      (DInv prog w A h₀ L m env elt scope cl s₂ bnd ks Fin n St wr C D) ?_ (n + 1)
      ⟨h₁, _, 0, [], oD₀, _, news, rfl, Nat.zero_le _, rfl, Nat.le_refl _, hst₁, F.keeps old, hns₁, fun p hp => ?_, hoD₀, fun p hp => ⟨hnw p hp, (below _ (hD ▸ Heap.lt_size (N p hp).1)).1, (below _ (hD ▸ Heap.lt_size (N p hp).1)).2⟩, R⟩
    · rintro k s' ⟨h', tk, i, ys, oD, mC, news', rfl, hi, rfl, hyl, hst', F', hn', N', hoD, off', R'⟩
      by_cases hlt : i < n
      · obtain ⟨j, hj⟩ : ∃ j, n - i = j + 1 := ⟨n - i - 1, by lia⟩
        rw [hj] at R'
        refine W.turns.item i _ _ _ hlt hst' fun v h₂ tk₂ hMd hk₂ => ?_
        refine W.turns.go i v _ _ _ hMd fun h₃ hP hst₃ hk₃ => ?_
        have up₃ : ∀ c o, c ∉ wr → h'.get? c = some o → h₃.get? c = some o := fun c o hc e => hk₃ c o hc (hk₂ c o hc e)
        refine W.bind i v C _ mC _ _ hP (hn'.at' fun o e => up₃ _ o hCw e) fun bs h₄ tk₄ mC' hb hn₄ hbs hk₄ => ?_
        have up₄ : ∀ c o, c ∉ wr → c ≠ C → h'.get? c = some o → h₄.get? c = some o := fun c o h1 h2 e => hk₄ c o h2 (up₃ c o h1 e)
        have hst₄ : St (i + 1) h₄ := W.turns.frame _ _ _ hst₃ fun b hb o e => hk₄ b o (fun q => hCf (q ▸ hb)) e
        obtain ⟨oC, heC, hoC⟩ := ns_obj hn₄
        have F₄ : Fr h₀ L h₄ m := ⟨F'.ns.at' fun o e => up₄ _ o hLw (Ne.symm hCL) e, fun c o e => up₄ c o (oldw c o e) (fun q => by rw [q, hC₀] at e; cases e) (F'.keep c o e), F'.above⟩
        have No : News h₀ L h₄ (PyProof.Rows.ownOf h₀ fp h₄) := news_ownOf W.notL
        have N₄ : News h₀ L h₄ ((C, oC) :: (D, oD) :: (PyProof.Rows.ownOf h₀ fp h₄ ++ news')) := fun q hq => by
          rcases List.mem_cons.mp hq with rfl | hq
          · exact ⟨heC, hCL, hC₀⟩
          · rcases List.mem_cons.mp hq with rfl | hq
            · have z := N' _ List.mem_cons_self
              exact ⟨up₄ _ _ hDw hDC z.1, z.2⟩
            · rcases List.mem_append.mp hq with hq | hq
              · exact No q hq
              · have z := N' q (List.mem_cons_of_mem _ hq)
                exact ⟨up₄ _ _ (off' q hq).1 (off' q hq).2.1 z.1, z.2⟩
        obtain ⟨kt, hkt⟩ := hks i bs hb
        refine ldVarK hn₄ (hbs _ hkt) ?_ (by simp [compEnvC, relabel, hkind]) (lookup_relabel_local hkx) hkd
        refine wpAny_mono (R' bs C oC mC' D oD h₄ tk₄ _ _ hb hoC hbs F₄ N₄ List.mem_cons_self (List.mem_cons_of_mem _ List.mem_cons_self) hoD fun p hp => List.mem_cons_of_mem _ (List.mem_cons_of_mem _ (List.mem_append_right _ hp))) (fun y s₅ h₅ => ?_) fun _ _ e => e
        obtain ⟨h₅, tk₅, pre, rfl, F₅, N₅, off₅, R₅⟩ := h₅
        have zC := (N₅ (C, oC) (List.mem_append_right _ List.mem_cons_self)).1
        have zD := (N₅ (D, oD) (List.mem_append_right _ (List.mem_cons_of_mem _ List.mem_cons_self))).1
        have hst₅ : St (i + 1) h₅ := W.turns.frame _ _ _ hst₄ fun b hb o e => by
          cases hn : h₀.get? b with
          | some o₀ =>
            have q := F₄.keep b o₀ hn
            rw [e] at q
            cases q
            exact F₅.keep b o hn
          | none => exact (N₅ _ (List.mem_append_right _ (List.mem_cons_of_mem _ (List.mem_cons_of_mem _ (List.mem_append_left _ (mem_ownOf hb hn e)))))).1
        refine wpAny_dictSet_pairs (knd := PySem.strKind prog w) (k := ks i) (hsz := Nat.le_trans hyl (Nat.le_trans hi W.fits)) (by show (Value.str (ks i) kt).isStr (ks i) = true; simp [Value.isStr]) (Heap.dictOf_iff.mpr ⟨oD, zD, hoD⟩) fun h₆ hl₆ hs₆ => ?_
        obtain ⟨oD₆, hD₆, hoD₆⟩ := Heap.dictOf_iff.mp hl₆
        have hlen := stored_length_le ys (ks i) y
        refine ⟨n + 1 - (i + 1), by (clear W hkx hkd hks hcell hkind hst F N hnw R hRR hH2 old hoD₀ hst₁ hD hfp hnew hDf hacc heD₀ fresh₀ hD₀ hLlt hDL hCC hns₁ hsb₁ hCf hC₀ hCL hC hDC below hCw hDw hLw oldw hyl hst' F' hn' N' hoD off' hlt R' hj hMd hk₂ hP hst₃ hk₃ up₃ hb hn₄ hbs hk₄ up₄ hst₄ heC hoC F₄ No N₄ hkt F₅ N₅ off₅ R₅ zC zD hst₅ hl₆ hs₆ hD₆ hoD₆ hlen; lia), h₆, _, i + 1, stored ys (ks i) y, oD₆, _, pre ++ news', rfl, hlt, rfl, by lia, W.turns.frame _ _ _ hst₅ fun b hb o e => hs₆.extBut b o (fun q => hDf (q ▸ hb)) e, F₅.change hs₆ hDL hD₀,
          (hoC.ns zC).sameBut hs₆ (Ne.symm hDC), fun q hq => ?_, hoD₆, fun q hq => ?_, ?_⟩
        · rcases List.mem_cons.mp hq with rfl | hq
          · exact ⟨hD₆, hDL, hD₀⟩
          · rcases List.mem_append.mp hq with hq | hq
            · have z := N₅ q (List.mem_append_left _ hq)
              exact ⟨hs₆.extBut _ _ (Ne.symm (off₅ q hq (D, oD) (List.mem_cons_of_mem _ List.mem_cons_self))) z.1, z.2⟩
            · have z := N₅ q (List.mem_append_right _ (List.mem_cons_of_mem _ (List.mem_cons_of_mem _ (List.mem_append_right _ hq))))
              exact ⟨hs₆.extBut _ _ (off' q hq).2.2 z.1, z.2⟩
        · rcases List.mem_append.mp hq with hq | hq
          · refine ⟨fun hw => ?_, Ne.symm (off₅ q hq (C, oC) List.mem_cons_self), Ne.symm (off₅ q hq (D, oD) (List.mem_cons_of_mem _ List.mem_cons_self))⟩
            obtain ⟨o, e⟩ := W.alive _ _ hst₄ _ hw
            exact off₅ q hq (q.1, o) (List.mem_cons_of_mem _ (List.mem_cons_of_mem _ (List.mem_append_left _ (mem_ownOf (W.turns.sub _ hw) (W.fresh _ hw) e)))) rfl
          · exact off' q hq
        · rw [show n - (i + 1) = j by grind]
          exact R₅
      · obtain rfl : i = n := Nat.le_antisymm hi (Nat.not_lt.mp hlt)
        rw [Nat.sub_self] at R'
        refine W.turns.done _ _ _ hst' fun h₂ tk₂ hk₂ => ?_
        refine hRR _ _ h₂ tk₂ _ ys oD news' ⟨F'.ns.at' fun o e => hk₂ _ o hLw e, fun c o e => hk₂ c o (oldw c o e) (F'.keep c o e), F'.above⟩ (fun q hq => ?_) hoD (hn'.at' fun o e => hk₂ _ o hCw e) hC₀ hCL (Ne.symm hDC) hLlt (fun p hp => (off' p hp).2) R'
        have z := N' q hq
        refine ⟨hk₂ _ _ ?_ z.1, z.2⟩
        rcases List.mem_cons.mp hq with rfl | hq
        · exact hDw
        · exact (off' q hq).1
    · rcases List.mem_cons.mp hp with rfl | hp
      · exact ⟨heD₀, hDL, hD₀⟩
      · exact ⟨old _ _ (N p hp).1, (N p hp).2⟩
  exact codeAny_compStart_dict (loop _ rfl) (W.self _ _ _ hst₁ (loop _ rfl))
/-- what the source hands to the block -/
inductive LSrc (prog : Program) (w : World) (A : Around) (h₀ : Heap) (L : Addr) (m : Str → Option Value) (env : Env) (elt target : Expr) (scope : Scope) (cl : List (Str × Addr)) (Fin : Shared → List Value → List (Addr × Obj) → Prop) (it : Value) (s₂ : Shared) : Prop
  | mk (I : Addr) (fp wr : List Addr) (n : Nat) (P Md : Nat → Value → Heap → Prop) (St : Nat → Heap → Prop) (bnd : Nat → List (Str × Value) → Prop) (news : List (Addr × Obj)) (e : it = .ref I) (W : Src prog w A h₀ L env scope cl target I fp wr n P Md St bnd) (st : St 0 s₂.heap) (hfp : ∀ b ∈ fp, b < s₂.heap.objs.size) (F : Fr h₀ L s₂.heap m) (N : News h₀ L s₂.heap news) (off : ∀ p ∈ news, p.1 ∉ wr)
    (r : LRest prog w A h₀ L m env elt scope cl s₂ bnd (Fin s₂) n 0 [] news)
inductive DSrc (prog : Program) (w : World) (A : Around) (h₀ : Heap) (L : Addr) (m : Str → Option Value) (env : Env) (kx : Str) (elt target : Expr) (scope : Scope) (cl : List (Str × Addr)) (Fin : Shared → List (Str × Value) → List (Addr × Obj) → Prop) (it : Value) (s₂ : Shared) : Prop
  | mk (I : Addr) (fp wr : List Addr) (n : Nat) (P Md : Nat → Value → Heap → Prop) (St : Nat → Heap → Prop) (bnd : Nat → List (Str × Value) → Prop) (ks : Nat → Str) (news : List (Addr × Obj)) (e : it = .ref I) (W : Src prog w A h₀ L env scope cl target I fp wr n P Md St bnd) (key : ∀ i bs, bnd i bs → ∃ t, (kx, Value.str (ks i) t) ∈ bs) (st : St 0 s₂.heap) (hfp : ∀ b ∈ fp, b < s₂.heap.objs.size) (F : Fr h₀ L s₂.heap m) (N : News h₀ L s₂.heap news) (off : ∀ p ∈ news, p.1 ∉ wr)
    (r : DRest prog w A h₀ L m env elt scope cl s₂ bnd ks (Fin s₂) n 0 [] news)
def LFinE (h₀ : Heap) (L : Addr) (m : Str → Option Value) (Q : Value → Shared → Prop) (s : Shared) (ys : List Value) (news : List (Addr × Obj)) : Prop :=
  ∀ D h tk, Fr h₀ L h m → News h₀ L h ((D, lst ys) :: news) → (∀ p ∈ news, p.1 ≠ D) → Q (.ref D) { s with heap := h, toks := tk }
def LFinA (h₀ : Heap) (L : Addr) (m : Str → Option Value) (y : Str) (Q : Flow → Shared → Prop) (s : Shared) (ys : List Value) (news : List (Addr × Obj)) : Prop :=
  ∀ D h tk, Fr h₀ L h (fun z => if z = y then some (.ref D) else m z) → News h₀ L h ((D, lst ys) :: news) → (∀ p ∈ news, p.1 ≠ D) → Q .next { s with heap := h, toks := tk }
def DFinE (prog : Program) (w : World) (h₀ : Heap) (L : Addr) (m : Str → Option Value) (Q : Value → Shared → Prop) (s : Shared) (ys : List (Str × Value)) (news : List (Addr × Obj)) : Prop :=
  ∀ D oD h tk, Fr h₀ L h m → News h₀ L h ((D, oD) :: news) → oD.IsDictOf (PySem.strKind prog w) ys → L < D → (∀ p ∈ news, p.1 ≠ D) → Q (.ref D) { s with heap := h, toks := tk }
def DFinA (prog : Program) (w : World) (h₀ : Heap) (L : Addr) (m : Str → Option Value) (y : Str) (Q : Flow → Shared → Prop) (s : Shared) (ys : List (Str × Value)) (news : List (Addr × Obj)) : Prop :=
  ∀ D oD h tk, Fr h₀ L h (fun z => if z = y then some (.ref D) else m z) → News h₀ L h ((D, oD) :: news) → oD.IsDictOf (PySem.strKind prog w) ys → L < D → (∀ p ∈ news, p.1 ≠ D) → Q .next { s with heap := h, toks := tk }
theorem news_same {h h'' : Heap} {C : Addr} {l : List (Addr × Obj)} (hs : Heap.SameBut C h h'') (N : News h₀ L h l) (off : ∀ p ∈ l, p.1 ≠ C) : News h₀ L h'' l := fun p hp => ⟨hs.extBut _ _ (off p hp) (N p hp).1, (N p hp).2⟩
theorem off_cons {C D : Addr} {o : Obj} {l : List (Addr × Obj)} (h : C ≠ D) (off : ∀ p ∈ l, p.1 ≠ C ∧ p.1 ≠ D) : ∀ p ∈ (D, o) :: l, p.1 ≠ C := fun p hp => by
  rcases List.mem_cons.mp hp with rfl | hp
  · exact Ne.symm h
  · exact (off p hp).1
theorem ListComp_M {elt iter target : Expr} {scope : Scope} {cl : List (Str × Addr)} {pos : Pos} {Q : Value → Shared → Prop}
    (hclos : closureFor scope env = pure cl) (hcell : ∀ y ∈ scope.names, y.2 ≠ .cell) (hkind : scope.kind = .function)
    (hnames : ∀ y ∈ scope.names, y.2 = .local → scope.names.lookup y.1 = some .local)
    (h : wpAny (model prog w) A (eval iter env) (fun xv s₁ => wpAny (model prog w) A (pyIter xv) (LSrc prog w A h₀ L m env elt target scope cl (LFinE h₀ L m Q)) E s₁) E s)
    (hs : ∀ x, foldedSetIterable iter env x = pure x) :
    wpAny (model prog w) A (eval (.ListComp elt [⟨target, iter, [], 0⟩] scope pos) env) Q E s := by
  rw [eval_ListComp]
  refine wpAny_comprehension_free (use := none) rfl hs hclos hkind hnames (wpAny_mono h (fun xv s₁ h₁ => wpAny_mono h₁ (fun it s₂ h₂ => ?_) fun _ _ e => e) fun _ _ e => e)
  obtain ⟨I, fp, wr, n, P, Md, St, bnd, news, rfl, W, hst, hfp, F, N, hnw, R⟩ := h₂
  refine block_list W hcell hkind hst hfp F N hnw R ?_
  intro D C h' tk mC ys news' F' N' hn hC₀ hCL hCD off fin
  exact ⟨mC, hn, fun h'' hs'' => fin D h'' tk (F'.change hs'' hCL hC₀) (news_same hs'' N' (off_cons hCD off)) fun p hp => (off p hp).2⟩
theorem Assign_ListComp_M {elt iter target : Expr} {y : Str} {py : Pos} {scope : Scope} {cl : List (Str × Addr)} {pos spos : Pos} {Q : Flow → Shared → Prop} (hLe : env.locals = L)
    (hsw : swapsWith (.ListComp elt [⟨target, iter, [], 0⟩] scope pos) (some (.Name y py)) spos.line env = pure true)
    (hclos : closureFor scope env = pure cl) (hcell : ∀ z ∈ scope.names, z.2 ≠ .cell) (hkind : scope.kind = .function)
    (hnames : ∀ z ∈ scope.names, z.2 = .local → scope.names.lookup z.1 = some .local)
    (hy : env.kindOf y = some .local) (hp : (env.scope.kind == .class || (env.scope.kind == .module && env.locals != env.globals)) = false)
    (h : wpAny (model prog w) A (eval iter env) (fun xv s₁ => wpAny (model prog w) A (pyIter xv) (LSrc prog w A h₀ L m env elt target scope cl (LFinA h₀ L m y Q)) E s₁) E s)
    (hs : ∀ x, foldedSetIterable iter env x = pure x) :
    wpAny (model prog w) A (exec (.Assign [.Name y py] (.ListComp elt [⟨target, iter, [], 0⟩] scope pos) spos) env) Q E s := by
  subst hLe
  rw [exec_Assign_Name_used _ _ _ _ hsw]
  refine wpAny_bind (wpAny_standAt (wpAny_bind ?_))
  show wpAny _ A (do let _ ← comprehension (.ListComp elt [⟨target, iter, [], 0⟩] scope pos) scope env _ (newList []) false (eval iter env) (some (assign (.Name y py) env))) _ _ s
  refine wpAny_bind (wpAny_mono (wpAny_comprehension_free (use := some (assign (.Name y py) env)) (Q := fun _ s' => Q .next s') rfl hs hclos hkind hnames
    (wpAny_mono h (fun xv s₁ h₁ => wpAny_mono h₁ (fun it s₂ h₂ => ?_) fun _ _ e => e) fun _ _ e => e)) (fun _ s' hq => wpAny_pure (wpAny_pure hq)) fun _ _ e => e)
  obtain ⟨I, fp, wr, n, P, Md, St, bnd, news, rfl, W, hst, hfp, F, N, hnw, R⟩ := h₂
  refine block_list W hcell hkind hst hfp F N hnw R ?_
  intro D C h' tk mC ys news' F' N' hn hC₀ hCL hCD off fin
  show wpAny _ A (assign (.Name y py) env (.ref D)) _ _ _
  refine wpAny_assign_Name (wpAny_storeName_local hy F'.ns (fun h₂ hn₂ hs₂ => ?_) hp)
  have hL₀ : h₀.get? env.locals = none := Heap.get?_none_of_le F'.above
  have F₂ : Fr h₀ env.locals h₂ (fun z => if z = y then some (.ref D) else m z) := ⟨hn₂, fun b o e => hs₂.extBut b o (fun q => by rw [q, hL₀] at e; cases e) (F'.keep b o e), F'.above⟩
  have N₂ : News h₀ env.locals h₂ ((D, lst ys) :: news') := news_same hs₂ N' fun p hp => (N' p hp).2.1
  exact ⟨mC, hn.sameBut hs₂ hCL, fun h'' hs'' => fin D h'' _ (F₂.change hs'' hCL hC₀) (news_same hs'' N₂ (off_cons hCD off)) fun p hp => (off p hp).2⟩
theorem DictComp_M {elt iter target : Expr} {kx : Str} {kp : Pos} {scope : Scope} {cl : List (Str × Addr)} {pos : Pos} {Q : Value → Shared → Prop}
    (hkx : scope.names.lookup kx = some .local) (hkd : (kx == ("__debug__" : Str)) = false) (hclos : closureFor scope env = pure cl) (hcell : ∀ y ∈ scope.names, y.2 ≠ .cell) (hkind : scope.kind = .function)
    (hnames : ∀ y ∈ scope.names, y.2 = .local → scope.names.lookup y.1 = some .local)
    (h : wpAny (model prog w) A (eval iter env) (fun xv s₁ => wpAny (model prog w) A (pyIter xv) (DSrc prog w A h₀ L m env kx elt target scope cl (DFinE prog w h₀ L m Q)) E s₁) E s)
    (hs : ∀ x, foldedSetIterable iter env x = pure x) :
    wpAny (model prog w) A (eval (.DictComp (.Name kx kp) elt [⟨target, iter, [], 0⟩] scope pos) env) Q E s := by
  rw [arm_eval_DictComp]
  refine wpAny_comprehension_free (use := none) rfl hs hclos hkind hnames (wpAny_mono h (fun xv s₁ h₁ => wpAny_mono h₁ (fun it s₂ h₂ => ?_) fun _ _ e => e) fun _ _ e => e)
  obtain ⟨I, fp, wr, n, P, Md, St, bnd, ks, news, rfl, W, hks, hst, hfp, F, N, hnw, R⟩ := h₂
  refine block_dict W hkx hkd hks hcell hkind hst hfp F N hnw R ?_
  intro D C h' tk mC ys oD news' F' N' hoD hn hC₀ hCL hCD hLD off fin
  exact ⟨mC, hn, fun h'' hs'' => fin D oD h'' tk (F'.change hs'' hCL hC₀) (news_same hs'' N' (off_cons hCD off)) hoD hLD fun p hp => (off p hp).2⟩
theorem Assign_DictComp_M {elt iter target : Expr} {kx : Str} {kp : Pos} {y : Str} {py : Pos} {scope : Scope} {cl : List (Str × Addr)} {pos spos : Pos} {Q : Flow → Shared → Prop} (hLe : env.locals = L)
    (hsw : swapsWith (.DictComp (.Name kx kp) elt [⟨target, iter, [], 0⟩] scope pos) (some (.Name y py)) spos.line env = pure true)
    (hkx : scope.names.lookup kx = some .local) (hkd : (kx == ("__debug__" : Str)) = false) (hclos : closureFor scope env = pure cl) (hcell : ∀ z ∈ scope.names, z.2 ≠ .cell) (hkind : scope.kind = .function)
    (hnames : ∀ z ∈ scope.names, z.2 = .local → scope.names.lookup z.1 = some .local)
    (hy : env.kindOf y = some .local) (hp : (env.scope.kind == .class || (env.scope.kind == .module && env.locals != env.globals)) = false)
    (h : wpAny (model prog w) A (eval iter env) (fun xv s₁ => wpAny (model prog w) A (pyIter xv) (DSrc prog w A h₀ L m env kx elt target scope cl (DFinA prog w h₀ L m y Q)) E s₁) E s)
    (hs : ∀ x, foldedSetIterable iter env x = pure x) :
    wpAny (model prog w) A (exec (.Assign [.Name y py] (.DictComp (.Name kx kp) elt [⟨target, iter, [], 0⟩] scope pos) spos) env) Q E s := by
  subst hLe
  rw [exec_Assign_Name_used _ _ _ _ hsw]
  refine wpAny_bind (wpAny_standAt (wpAny_bind ?_))
  show wpAny _ A (do let _ ← comprehension (.DictComp (.Name kx kp) elt [⟨target, iter, [], 0⟩] scope pos) scope env _ newDict false (eval iter env) (some (assign (.Name y py) env))) _ _ s
  refine wpAny_bind (wpAny_mono (wpAny_comprehension_free (use := some (assign (.Name y py) env)) (Q := fun _ s' => Q .next s') rfl hs hclos hkind hnames
    (wpAny_mono h (fun xv s₁ h₁ => wpAny_mono h₁ (fun it s₂ h₂ => ?_) fun _ _ e => e) fun _ _ e => e)) (fun _ s' hq => wpAny_pure (wpAny_pure hq)) fun _ _ e => e)
  obtain ⟨I, fp, wr, n, P, Md, St, bnd, ks, news, rfl, W, hks, hst, hfp, F, N, hnw, R⟩ := h₂
  refine block_dict W hkx hkd hks hcell hkind hst hfp F N hnw R ?_
  intro D C h' tk mC ys oD news' F' N' hoD hn hC₀ hCL hCD hLD off fin
  show wpAny _ A (assign (.Name y py) env (.ref D)) _ _ _
  refine wpAny_assign_Name (wpAny_storeName_local hy F'.ns (fun h₂ hn₂ hs₂ => ?_) hp)
  have hL₀ : h₀.get? env.locals = none := Heap.get?_none_of_le F'.above
  have F₂ : Fr h₀ env.locals h₂ (fun z => if z = y then some (.ref D) else m z) := ⟨hn₂, fun b o e => hs₂.extBut b o (fun q => by rw [q, hL₀] at e; cases e) (F'.keep b o e), F'.above⟩
  have N₂ : News h₀ env.locals h₂ ((D, oD) :: news') := news_same hs₂ N' fun p hp => (N' p hp).2.1
  exact ⟨mC, hn.sameBut hs₂ hCL, fun h'' hs'' => fin D oD h'' _ (F₂.change hs'' hCL hC₀) (news_same hs'' N₂ (off_cons hCD off)) hoD hLD fun p hp => (off p hp).2⟩
end
end Mine
end
section
open PySem PySem.Spec PySem.Calls PySem.W PyProof.Rows PySem.Flt PyProof.Rows.LCg
set_option maxRecDepth 100000
namespace Mine
section
variable {prog : Program} {w : World} {A : Around} {E : Value → Shared → Prop} {s : Shared}
/-- what may be walked: its iterator is one new object -/
structure Itb (prog : Program) (w : World) (v : Value) (bs : List Addr) (n : Nat) (P : Nat → Value → Prop) (ok : Heap → Prop) : Prop where
  keep : ∀ h h', ok h → (∀ b o, h.get? b = some o → h'.get? b = some o) → ok h'
  below : ∀ h, ok h → ∀ b ∈ bs, ∃ o, h.get? b = some o
  iter : ∀ (A : Around) (s : Shared) (Q : Value → Shared → Prop) (E : Value → Shared → Prop), A.handled = none → ok s.heap →
    (∀ o St, o.isFreed = false → (∀ A' : Around, A'.handled = none → Draws prog w A' s.heap.objs.size (s.heap.objs.size :: bs) n P St) → St 0 (s.heap.push o) → Q (.ref s.heap.objs.size) { s with heap := s.heap.push o }) →
    wpAny (model prog w) A (pyIter v) Q E s
theorem Itb.list (l : Addr) (items : Array Value) : Itb prog w (.ref l) [l] items.size (fun i v => items[i]? = some v) (fun h => h.IsList l items) where
  keep := fun h h' x k => x.at fun o e => k l o e
  below := fun h x b hb => by rw [List.mem_singleton.mp hb]; exact ⟨_, x.choose_spec.1⟩
  iter := fun A s Q E hh x hQ => by
    have hlt : l < s.heap.objs.size := Heap.lt_size x.choose_spec.1
    exact wpAny_pyIter_list x (hQ _ _ rfl (fun A' hA => Draws.list hA _ l (Nat.ne_of_lt hlt) items) ⟨⟨_, Heap.get?_push_size _ rfl, rfl, rfl⟩, x.push _⟩)
theorem Itb.str (x : Str) (t : Tok) : Itb prog w (.str x t) [] x.cps.size (fun i v => ∃ c u, x.cps[i]? = some c ∧ v = .str ⟨#[c]⟩ u) (fun _ => True) where
  keep := fun _ _ _ _ => trivial
  below := fun _ _ _ hb => nomatch hb
  iter := fun A s Q E hh _ hQ => by
    cases ha : x.cps.all (· < 128)
    · exact wpAny_pyIter_wide ha (hQ _ _ rfl (fun A' hA => Draws.strWide hA _ x t) ⟨_, Heap.get?_push_size _ rfl, rfl, rfl⟩)
    · exact wpAny_pyIter_ascii ha (hQ _ _ rfl (fun A' hA => Draws.strAscii hA _ x t) ⟨_, Heap.get?_push_size _ rfl, rfl, rfl⟩)
structure ZApart (z TI TO i1 i2 : Addr) (fp1 fp2 : List Addr) : Prop where
  TIz : TI ≠ z
  TOz : TO ≠ z
  i1z : i1 ≠ z
  i2z : i2 ≠ z
  TITO : TI ≠ TO
  TIi1 : TI ≠ i1
  TIi2 : TI ≠ i2
  TOi1 : TO ≠ i1
  TOi2 : TO ≠ i2
  i12 : i1 ≠ i2
  z1 : z ∉ fp1
  z2 : z ∉ fp2
  TO1 : TO ∉ fp1
  TO2 : TO ∉ fp2
  i1f : i1 ∈ fp1
  i2f : i2 ∈ fp2
  i21 : i2 ∉ fp1
  i12f : i1 ∉ fp2
theorem zipD_item {z TI TO i1 i2 : Addr} {fp1 fp2 : List Addr} {n k : Nat} {P1 P2 : Nat → Value → Prop} {S1 S2 : Nat → Heap → Prop} {a b : Value} {Q : Value → Shared → Prop} (hh : A.handled = none) (D : ZApart z TI TO i1 i2 fp1 fp2)
    (D1 : ∀ A' : Around, A'.handled = none → Draws prog w A' i1 fp1 n P1 S1) (D2 : ∀ A' : Around, A'.handled = none → Draws prog w A' i2 fp2 n P2 S2) (hk : k < n)
    (hz : IsZip s.heap z TI TO .none) (hTI : IsPair s.heap TI (.ref i1) (.ref i2)) (hTO : IsPair s.heap TO a b) (h1 : S1 k s.heap) (h2 : S2 k s.heap)
    (hQ : ∀ x y h' tk, P1 k x → P2 k y → IsZip h' z TI TO (rawInt s.heap.objs.size) → IsPair h' TO x y → S1 (k + 1) h' → S2 (k + 1) h' → IsPair h' s.heap.objs.size x y → h'.objs.size = s.heap.objs.size + 1 →
      (∀ c o, c ≠ z → c ≠ TO → c ≠ i1 → c ≠ i2 → s.heap.get? c = some o → h'.get? c = some o) → Q (.ref s.heap.objs.size) { s with heap := h', toks := tk }) :
    wpAny (model prog w) A (Builtin.«zip.__next__» ⟨[.ref z], []⟩) (fun fin s' => ∃ v, fin = .done (.ret v) ∧ Q v s') E s := by
  obtain ⟨hp, g, d, tk₀, os⟩ := s
  show wpAny _ _ (field (.ref z) 2 >>= _) _ _ _
  refine wpAny_bind (wpAny_field hz rfl (x := .bool false) rfl ?_)
  show wpAny _ _ (field (.ref z) 3 >>= _) _ _ _
  refine wpAny_bind (wpAny_field hz rfl (x := .ref TI) rfl ?_)
  refine wpAny_bind (wpAny_seqItems hTI rfl ?_)
  show wpAny _ _ (Builtin.SmallTypes.ownedTupleIsFree (.ref z) >>= _) _ _ _
  refine wpAny_bind ?_
  unfold Builtin.SmallTypes.ownedTupleIsFree
  refine wpAny_bind (wpAny_field hz rfl (x := .none) rfl (wpAny_pure ?_))
  simp only [if_true]
  refine wpAny_bind (wpAny_rule ?_)
  refine wpAny_bind (wpAny_field hz rfl (x := .ref TO) rfl ?_)
  refine wpAny_bind (wpAny_setField_rec hz (by simp) fun h₁ hz₁ hs₁ => ?_)
  replace hz₁ : IsZip h₁ z TI TO .ellipsis := hz₁
  replace hs₁ : Heap.SameBut z hp h₁ := hs₁
  refine wpAny_bind ?_
  simp only [List.zipIdx_cons, List.zipIdx_nil, List.forIn_cons, List.forIn_nil]
  refine wpAny_bind (wpAny_bind (wpAny_onRaise ?_))
  show wpAny _ _ (Builtin.SmallTypes.nextOf (.ref i1) >>= _) _ _ ⟨h₁, g, d, tk₀, os⟩
  have h1₁ : S1 k h₁ := (D1 A hh).frame _ _ _ h1 fun c hc o e => hs₁.extBut _ _ (fun q => D.z1 (q ▸ hc)) e
  have h2₁ : S2 k h₁ := (D2 A hh).frame _ _ _ h2 fun c hc o e => hs₁.extBut _ _ (fun q => D.z2 (q ▸ hc)) e
  refine wpAny_bind ((D1 _ hh).item k _ _ _ hk h1₁ fun x h₂ tk₂ hPx h1₂ hs₂ => wpAny_pure ?_)
  replace hs₂ : Heap.SameBut i1 h₁ h₂ := hs₂
  have h2₂ : S2 k h₂ := (D2 A hh).frame _ _ _ h2₁ fun c hc o e => hs₂.extBut _ _ (fun q => D.i12f (q ▸ hc)) e
  have hTO₂ : IsPair h₂ TO a b := hs₂.extBut _ _ D.TOi1 (hs₁.extBut _ _ D.TOz hTO)
  refine wpAny_bind (wpAny_seqItems hTO₂ rfl ?_)
  refine wpAny_bind (wpAny_updateSeq_pair hTO₂ fun h₃ hTO₃ hs₃ => ?_)
  replace hTO₃ : IsPair h₃ TO x b := hTO₃
  replace hs₃ : Heap.SameBut TO h₂ h₃ := hs₃
  refine wpAny_bind (wpAny_letGo (wpAny_pure ?_))
  have h1₃ : S1 (k + 1) h₃ := (D1 A hh).frame _ _ _ h1₂ fun c hc o e => hs₃.extBut _ _ (fun q => D.TO1 (q ▸ hc)) e
  have h2₃ : S2 k h₃ := (D2 A hh).frame _ _ _ h2₂ fun c hc o e => hs₃.extBut _ _ (fun q => D.TO2 (q ▸ hc)) e
  refine wpAny_bind (wpAny_bind (wpAny_onRaise ?_))
  show wpAny _ _ (Builtin.SmallTypes.nextOf (.ref i2) >>= _) _ _ ⟨h₃, g, d, tk₂, os⟩
  refine wpAny_bind ((D2 _ hh).item k _ _ _ hk h2₃ fun y h₄ tk₄ hPy h2₄ hs₄ => wpAny_pure ?_)
  replace hs₄ : Heap.SameBut i2 h₃ h₄ := hs₄
  have h1₄ : S1 (k + 1) h₄ := (D1 A hh).frame _ _ _ h1₃ fun c hc o e => hs₄.extBut _ _ (fun q => D.i21 (q ▸ hc)) e
  have hTO₄ : IsPair h₄ TO x b := hs₄.extBut _ _ D.TOi2 hTO₃
  refine wpAny_bind (wpAny_seqItems hTO₄ rfl ?_)
  refine wpAny_bind (wpAny_updateSeq_pair hTO₄ fun h₅ hTO₅ hs₅ => ?_)
  replace hTO₅ : IsPair h₅ TO x y := hTO₅
  replace hs₅ : Heap.SameBut TO h₄ h₅ := hs₅
  refine wpAny_bind (wpAny_letGo (wpAny_pure (wpAny_pure ?_)))
  have h1₅ : S1 (k + 1) h₅ := (D1 A hh).frame _ _ _ h1₄ fun c hc o e => hs₅.extBut _ _ (fun q => D.TO1 (q ▸ hc)) e
  have h2₅ : S2 (k + 1) h₅ := (D2 A hh).frame _ _ _ h2₄ fun c hc o e => hs₅.extBut _ _ (fun q => D.TO2 (q ▸ hc)) e
  refine wpAny_bind (wpAny_seqItems hTO₅ rfl ?_)
  refine wpAny_bind (wpAny_newTuple ?_)
  have hsz : h₅.objs.size = hp.objs.size := by rw [hs₅.1, hs₄.1, hs₃.1, hs₂.1, hs₁.1]
  have hz₅ : IsZip h₅ z TI TO .ellipsis := hs₅.extBut _ _ D.TOz.symm (hs₄.extBut _ _ D.i2z.symm (hs₃.extBut _ _ D.TOz.symm (hs₂.extBut _ _ D.i1z.symm hz₁)))
  have hk₅ : ∀ c o, c ≠ z → c ≠ TO → c ≠ i1 → c ≠ i2 → hp.get? c = some o → h₅.get? c = some o := fun c o c1 c2 c3 c4 e =>
    hs₅.extBut _ _ c2 (hs₄.extBut _ _ c4 (hs₃.extBut _ _ c2 (hs₂.extBut _ _ c3 (hs₁.extBut _ _ c1 e))))
  have hzlt : z < h₅.objs.size := Heap.lt_size hz₅
  show wpAny _ _ (Builtin.SmallTypes.ownedTupleHandOut (.ref z) (.ref h₅.objs.size) >>= _) _ _ _
  refine wpAny_bind ?_
  unfold Builtin.SmallTypes.ownedTupleHandOut
  have hz₆ : IsZip (h₅.push { cls := .type "tuple", data := .seq #[x, y] }) z TI TO .ellipsis := Heap.get?_push_of_some _ hz₅
  refine wpAny_bind (wpAny_setField_rec hz₆ (by simp) fun h₇ hz₇ hs₇ => ?_)
  replace hz₇ : IsZip h₇ z TI TO (rawInt h₅.objs.size) := hz₇
  refine wpAny_setField_rec hz₇ (by simp) fun h₈ hz₈ hs₈ => ?_
  replace hz₈ : IsZip h₈ z TI TO (rawInt h₅.objs.size) := hz₈
  have up : ∀ c o, c ≠ z → h₅.get? c = some o → h₈.get? c = some o := fun c o c1 e => hs₈.extBut _ _ c1 (hs₇.extBut _ _ c1 (Heap.get?_push_of_some _ e))
  have hT₈ : IsPair h₈ h₅.objs.size x y := hs₈.extBut _ _ (Nat.ne_of_gt hzlt) (hs₇.extBut _ _ (Nat.ne_of_gt hzlt) (Heap.get?_push_size _ rfl))
  have hz8 : h₈.objs.size = h₅.objs.size + 1 := by rw [hs₈.1, hs₇.1, Heap.size_push]
  rw [hsz] at hz₈ hT₈ hz8
  refine wpAny_pure ⟨_, rfl, ?_⟩
  show Q (.ref h₅.objs.size) _
  rw [hsz]
  exact hQ x y h₈ tk₄ hPx hPy hz₈ (up _ _ D.TOz hTO₅) ((D1 A hh).frame _ _ _ h1₅ fun c hc o e => up c o (fun q => D.z1 (q ▸ hc)) e) ((D2 A hh).frame _ _ _ h2₅ fun c hc o e => up c o (fun q => D.z2 (q ▸ hc)) e) hT₈ hz8 fun c o c1 c2 c3 c4 e => up c o c1 (hk₅ c o c1 c2 c3 c4 e)
theorem zipD_end {z TI TO i1 i2 : Addr} {fp1 fp2 : List Addr} {n : Nat} {P1 : Nat → Value → Prop} {S1 : Nat → Heap → Prop} {Q : Fin → Shared → Prop} (hh : A.handled = none) (D : ZApart z TI TO i1 i2 fp1 fp2)
    (D1 : ∀ A' : Around, A'.handled = none → Draws prog w A' i1 fp1 n P1 S1)
    (hz : IsZip s.heap z TI TO .none) (hTI : IsPair s.heap TI (.ref i1) (.ref i2)) (h1 : S1 n s.heap)
    (hE : ∀ h' e, (∀ c o, c ≠ z → c ≠ TO → c ≠ i1 → c ≠ i2 → s.heap.get? c = some o → h'.get? c = some o) → (∃ o, h'.get? e = some o ∧ o.cls = .type "StopIteration") → E (.ref e) { s with heap := h' }) :
    wpAny (model prog w) A (Builtin.«zip.__next__» ⟨[.ref z], []⟩) Q E s := by
  show wpAny _ _ (field (.ref z) 2 >>= _) _ _ _
  refine wpAny_bind (wpAny_field hz rfl (x := .bool false) rfl ?_)
  show wpAny _ _ (field (.ref z) 3 >>= _) _ _ _
  refine wpAny_bind (wpAny_field hz rfl (x := .ref TI) rfl ?_)
  refine wpAny_bind (wpAny_seqItems hTI rfl ?_)
  show wpAny _ _ (Builtin.SmallTypes.ownedTupleIsFree (.ref z) >>= _) _ _ _
  refine wpAny_bind ?_
  unfold Builtin.SmallTypes.ownedTupleIsFree
  refine wpAny_bind (wpAny_field hz rfl (x := .none) rfl (wpAny_pure ?_))
  simp only [if_true]
  refine wpAny_bind (wpAny_rule ?_)
  refine wpAny_bind (wpAny_field hz rfl (x := .ref TO) rfl ?_)
  refine wpAny_bind (wpAny_setField_rec hz (by simp) fun h₁ hz₁ hs₁ => ?_)
  replace hz₁ : IsZip h₁ z TI TO .ellipsis := hz₁
  refine wpAny_bind ?_
  simp only [List.zipIdx_cons, List.zipIdx_nil, List.forIn_cons, List.forIn_nil]
  refine wpAny_bind (wpAny_bind (wpAny_onRaise ?_))
  show wpAny _ _ (Builtin.SmallTypes.nextOf (.ref i1) >>= _) _ _ _
  refine wpAny_bind ((D1 _ hh).done _ _ _ ((D1 A hh).frame _ _ _ h1 fun c hc o e => hs₁.extBut _ _ (fun q => D.z1 (q ▸ hc)) e) fun h₂ e hs₂ he => ?_)
  obtain ⟨oe, hoe, hce⟩ := he
  have hz₂ : IsZip h₂ z TI TO .ellipsis := hs₂ _ _ D.i1z.symm hz₁
  have hez : e ≠ z := fun x => by subst x; rw [hz₂] at hoe; cases hoe; simp at hce
  refine wpAny_setField_rec hz₂ (by simp) fun h₃ _ hs₃ => hE h₃ e (fun c o c1 _ c3 _ x => hs₃.extBut _ _ c1 (hs₂ _ _ c3 (hs₁.extBut _ _ c1 x))) ⟨oe, hs₃.extBut _ _ hez hoe, hce⟩
theorem WalksT.zipD (hh : A.handled = none) {z TI TO i1 i2 : Addr} {fp1 fp2 : List Addr} {n : Nat} {P1 P2 : Nat → Value → Prop} {S1 S2 : Nat → Heap → Prop} (D : ZApart z TI TO i1 i2 fp1 fp2)
    (D1 : ∀ A' : Around, A'.handled = none → Draws prog w A' i1 fp1 n P1 S1) (D2 : ∀ A' : Around, A'.handled = none → Draws prog w A' i2 fp2 n P2 S2) :
    WalksT prog w A z (z :: TI :: TO :: (fp1 ++ fp2)) [z, TO, i1, i2] n
      (fun i vals => ∃ x y, P1 i x ∧ P2 i y ∧ vals = #[x, y])
      (fun i h => IsZip h z TI TO .none ∧ IsPair h TI (.ref i1) (.ref i2) ∧ (∃ a b, IsPair h TO a b) ∧ S1 i h ∧ S2 i h)
      (fun i T h => IsZip h z TI TO (rawInt T) ∧ IsPair h TI (.ref i1) (.ref i2) ∧ (∃ a b, IsPair h TO a b) ∧ S1 (i + 1) h ∧ S2 (i + 1) h ∧ T ≠ z ∧ T ≠ TO ∧ T ≠ i1 ∧ T ≠ i2) where
  sub := fun c hc => by
    have := D.i1f
    have := D.i2f
    simp at hc ⊢
    rcases hc with rfl | rfl | rfl | rfl <;> simp [*]
  frame := fun i h h' hst hk => by
    obtain ⟨hz, hTI, ⟨a, b, hTO⟩, h1, h2⟩ := hst
    exact ⟨hk z (by simp) _ hz, hk TI (by simp) _ hTI, ⟨a, b, hk TO (by simp) _ hTO⟩, (D1 A hh).frame _ _ _ h1 fun c hc o e => hk c (by simp [hc]) o e, (D2 A hh).frame _ _ _ h2 fun c hc o e => hk c (by simp [hc]) o e⟩
  item := fun i s Q E hi hst hQ => by
    obtain ⟨hz, hTI, ⟨a, b, hTO⟩, h1, h2⟩ := hst
    have hT : s.TypeIs (.ref z) "zip" := ⟨_, hz, rfl⟩
    unfold pyNext
    have lt : ∀ {c o}, s.heap.get? c = some o → s.heap.objs.size ≠ c := fun e => Nat.ne_of_gt (Heap.lt_size e)
    refine wpAny_bind (wpAny_attempt (wpAny_callSpecial?_slot (name := Str.ofString "__next__") hT F.slot_zip_next
      (wpAny_call_entry F.slot_zip_next hT F.entry_zip_next
        (zipD_item hh D D1 D2 hi hz hTI hTO h1 h2 fun x y h' tk p1 p2 a1 a2 a3 a4 a5 a6 hk => wpAny_pure ?_) (F.args_zip_next_1 _))))
    obtain ⟨o1, e1⟩ := (D1 A hh).live _ _ h1
    obtain ⟨o2, e2⟩ := (D2 A hh).live _ _ h2
    exact hQ s.heap.objs.size #[x, y] h' tk ⟨x, y, p1, p2, rfl⟩ (Nat.le_refl _) ⟨_, a5, rfl, _, rfl⟩
      ⟨a1, hk _ _ D.TIz D.TITO D.TIi1 D.TIi2 hTI, ⟨_, _, a2⟩, a3, a4, lt hz, lt hTO, lt e1, lt e2⟩
      fun c o hc e => hk c o (fun x => hc (by simp [x])) (fun x => hc (by simp [x])) (fun x => hc (by simp [x])) (fun x => hc (by simp [x])) e
  go := fun elts k pos i T s Q E hm hQ => by
    obtain ⟨hz, hTI, ⟨a, b, hTO⟩, h1, h2, _⟩ := hm
    refine wpAny_letOwnedTupleGo_zip hz fun h' hz' hs' => hQ h' ⟨hz', hs'.extBut _ _ D.TIz hTI, ⟨a, b, hs'.extBut _ _ D.TOz hTO⟩, (D1 A hh).frame _ _ _ h1 fun c hc o e => hs'.extBut _ _ (fun q => D.z1 (q ▸ hc)) e,
      (D2 A hh).frame _ _ _ h2 fun c hc o e => hs'.extBut _ _ (fun q => D.z2 (q ▸ hc)) e⟩ fun c o hc e => hs'.extBut _ _ (fun x => hc (by simp [x])) e
  apart := fun i T h hm hT => by
    obtain ⟨_, _, _, _, _, t1, t2, t3, t4⟩ := hm
    simp at hT
    rcases hT with rfl | rfl | rfl | rfl
    · exact t1 rfl
    · exact t2 rfl
    · exact t3 rfl
    · exact t4 rfl
  done := fun s Q E hst hQ => by
    obtain ⟨hz, hTI, _, h1, _⟩ := hst
    have hT : s.TypeIs (.ref z) "zip" := ⟨_, hz, rfl⟩
    unfold pyNext
    refine wpAny_bind (wpAny_attempt (wpAny_callSpecial?_slot (name := Str.ofString "__next__") hT F.slot_zip_next
      (wpAny_call_entry F.slot_zip_next hT F.entry_zip_next (zipD_end hh D D1 hz hTI h1 fun h' e hk he => ?_) (F.args_zip_next_1 _))))
    obtain ⟨o, ho, hc⟩ := he
    refine wpAny_bind (wpAny_isInstance (T := "StopIteration") (b := true) ⟨o, ho, hc⟩ isSubtype_stop ?_)
    exact wpAny_pure (hQ _ s.toks fun c o hc e => hk c o (fun x => hc (by simp [x])) (fun x => hc (by simp [x])) (fun x => hc (by simp [x])) (fun x => hc (by simp [x])) e)
  self := fun i s Q E hst hQ => wpAny_pyIter_zip hst.1 hQ
end
end Mine
end
section
open PySem PySem.Spec PySem.Calls PySem.W PyProof.Rows PySem.Flt PyProof.Rows.LCg
set_option maxRecDepth 100000
namespace Mine
section
variable {prog : Program} {w : World} {A : Around} {E : Value → Shared → Prop} {s : Shared}
theorem nextOf_tuple_item {it t : Addr} {i : Nat} {items : Array Value} {x : Value} {Q : Value → Shared → Prop} (hit : s.heap.IsTupleIter it t i)
    (ht : s.heap.IsTuple t items) (hx : items[i]? = some x)
    (hQ : ∀ h', h'.IsTupleIter it t (i + 1) → Heap.SameBut it s.heap h' → Q x { s with heap := h' }) :
    wpAny (model prog w) A (Builtin.SmallTypes.nextOf (.ref it)) Q E s := by
  obtain ⟨o, ho, hc, hd⟩ := id hit
  obtain ⟨ol, hol, _, nl, hdl⟩ := ht
  unfold Builtin.SmallTypes.nextOf
  refine wpAny_bind (wpAny_callSpecial?_slot (name := Str.ofString "__next__") hit.typeIs F.slot_tuple_iterator_next
    (wpAny_call_entry F.slot_tuple_iterator_next hit.typeIs F.entry_tuple_iterator_next ?_ (F.args_tuple_iterator_next_1 _)))
  show wpAny _ _ (field (.ref it) 0 >>= _) _ _ s
  refine wpAny_bind (wpAny_field ho hd (x := .ref t) rfl ?_)
  show wpAny _ _ (if (Value.ref t == Value.none) = true then _ else _) _ _ s
  rw [if_neg (show ¬ ((Value.ref t == Value.none) = true) from Bool.false_ne_true)]
  show wpAny _ _ (field (.ref it) 1 >>= _) _ _ s
  refine wpAny_bind (wpAny_field ho hd (x := .int i 0) rfl ?_)
  show wpAny _ _ (seqItems? (.ref t) >>= _) _ _ s
  refine wpAny_bind (wpAny_seqItems hol hdl ?_)
  simp only [Int.toNat_natCast, hx]
  refine wpAny_bind (wpAny_setField ho hd (by simp) (wpAny_pure ⟨x, rfl, wpAny_pure (hQ _ ?_ (Heap.SameBut.update ..))⟩))
  exact ⟨_, Heap.get?_update_self _ ho (Obj.isFreed_of_fields (Obj.data_mapFields hd _)), (Obj.cls_mapFields ..).trans hc, by
    rw [Obj.data_mapFields hd]; simp [rawInt]⟩
theorem nextOf_tuple_end {it t : Addr} {i : Nat} {items : Array Value} {Q : Value → Shared → Prop} (hh : A.handled = none)
    (hit : s.heap.IsTupleIter it t i) (ht : s.heap.IsTuple t items) (hx : items[i]? = none)
    (hE : ∀ h' e, Heap.ExtBut it s.heap h' → (∃ o, h'.get? e = some o ∧ o.cls = .type "StopIteration") → E (.ref e) { s with heap := h' }) :
    wpAny (model prog w) A (Builtin.SmallTypes.nextOf (.ref it)) Q E s := by
  obtain ⟨o, ho, hc, hd⟩ := id hit
  obtain ⟨ol, hol, _, nl, hdl⟩ := ht
  unfold Builtin.SmallTypes.nextOf
  refine wpAny_bind (wpAny_callSpecial?_slot (name := Str.ofString "__next__") hit.typeIs F.slot_tuple_iterator_next
    (wpAny_call_entry F.slot_tuple_iterator_next hit.typeIs F.entry_tuple_iterator_next ?_ (F.args_tuple_iterator_next_1 _)))
  show wpAny _ _ (field (.ref it) 0 >>= _) _ _ s
  refine wpAny_bind (wpAny_field ho hd (x := .ref t) rfl ?_)
  show wpAny _ _ (if (Value.ref t == Value.none) = true then _ else _) _ _ s
  rw [if_neg (show ¬ ((Value.ref t == Value.none) = true) from Bool.false_ne_true)]
  show wpAny _ _ (field (.ref it) 1 >>= _) _ _ s
  refine wpAny_bind (wpAny_field ho hd (x := .int i 0) rfl ?_)
  show wpAny _ _ (seqItems? (.ref t) >>= _) _ _ s
  refine wpAny_bind (wpAny_seqItems hol hdl ?_)
  simp only [Int.toNat_natCast, hx]
  refine wpAny_bind (wpAny_rule (wpAny_bind (wpAny_setField ho hd (by simp) ?_)))
  show wpAny _ _ (newExc (.type "StopIteration") [] >>= _) _ _ _
  refine wpAny_bind ?_
  simp only [newExc, newTuple]
  refine wpAny_bind (wpAny_newObj_type ?_ (by size_fits))
  refine wpAny_bind (m := firstArgMember _ _) (wpAny_of_eq (a := Value.none) (by first | rfl | (simp only [firstArgMember]; rfl)) ?_)
  refine wpAny_newObj_type ?_ (by size_fits)
  simp only [raiseNew]
  refine wpAny_bind (wpAny_handled ?_)
  first | rw [show A.in1.handled = none from hh] | rw [hh]
  refine wpAny_bind (wpAny_pure (wpAny_throw ?_))
  exact hE _ _ (((Heap.SameBut.update ..).extBut.push _).push _) ⟨_, Heap.get?_push_size _ rfl, rfl⟩
theorem Draws.tuple (hh : A.handled = none) (it l : Addr) (hne : l ≠ it) (items : Array Value) :
    Draws prog w A it [it, l] items.size (fun i v => items[i]? = some v) (fun i h => h.IsTupleIter it l i ∧ h.IsTuple l items) where
  live := fun _ _ st => let ⟨o, ho, _⟩ := st.1; ⟨o, ho⟩
  frame := fun _ _ _ st hk => ⟨st.1.at fun o e => hk it (by simp) o e, st.2.at fun o e => hk l (by simp) o e⟩
  item := fun i s Q E hi st hQ => by
    refine nextOf_tuple_item st.1 st.2 (x := items[i]) (by simp [hi]) fun h' hit' hs' => ?_
    exact hQ _ h' s.toks (by simp [hi]) ⟨hit', st.2.extBut hs'.extBut hne⟩ hs'
  done := fun s Q E st hE => nextOf_tuple_end hh st.1 st.2 (by simp) hE
theorem Itb.tuple (l : Addr) (items : Array Value) : Itb prog w (.ref l) [l] items.size (fun i v => items[i]? = some v) (fun h => h.IsTuple l items) where
  keep := fun h h' x k => x.at fun o e => k l o e
  below := fun h x b hb => by rw [List.mem_singleton.mp hb]; exact ⟨_, x.choose_spec.1⟩
  iter := fun A s Q E hh x hQ => by
    have hlt : l < s.heap.objs.size := Heap.lt_size x.choose_spec.1
    exact wpAny_pyIter_tuple x (hQ _ _ rfl (fun A' hA => Draws.tuple hA _ l (Nat.ne_of_lt hlt) items) ⟨⟨_, Heap.get?_push_size _ rfl, rfl, rfl⟩, x.push _⟩)
noncomputable def zh3 (h : Heap) (o1 o2 : Obj) : Heap := ((h.push o1).push o2).push { cls := .type "tuple", data := .seq #[.ref h.objs.size, .ref (h.objs.size + 1)] }
noncomputable def zh4 (h : Heap) (o1 o2 : Obj) : Heap := (zh3 h o1 o2).push { cls := .type "tuple", data := .seq #[.none, .none] }
noncomputable def zh5 (h : Heap) (o1 o2 : Obj) : Heap := (zh4 h o1 o2).push { cls := .type "zip", data := .fields #[.none, .bool false, .bool false, .ref (h.objs.size + 2), .ref (h.objs.size + 3)] }
theorem zip_newI {v1 v2 : Value} {bs1 bs2 : List Addr} {n : Nat} {P1 P2 : Nat → Value → Prop} {ok1 ok2 : Heap → Prop} (I1 : Itb prog w v1 bs1 n P1 ok1) (I2 : Itb prog w v2 bs2 n P2 ok2) :
    MeetsIn prog w (Builtin.«zip.__new__» ⟨[.type "zip", v1, v2], []⟩) (fun A R s => A.handled = none ∧ ok1 s.heap ∧ ok2 s.heap ∧
      ∀ o1 o2 S1 S2, o1.isFreed = false → o2.isFreed = false → (∀ A' : Around, A'.handled = none → Draws prog w A' s.heap.objs.size (s.heap.objs.size :: bs1) n P1 S1) → (∀ A' : Around, A'.handled = none → Draws prog w A' (s.heap.objs.size + 1) ((s.heap.objs.size + 1) :: bs2) n P2 S2) →
        S1 0 (s.heap.push o1) → S2 0 ((s.heap.push o1).push o2) →
        R (.ok (.ret (.ref (s.heap.objs.size + 4)))) { s with heap := zh5 s.heap o1 o2 }) :=
  .of_wp fun A R s h => by
    obtain ⟨hh, k1, k2, h⟩ := h
    have hsub := sub_zip
    unfold Builtin.«zip.__new__»
    refine wpAny_bind ?_
    unfold Builtin.SmallTypes.newClass
    refine wpAny_bind (wpAny_of_eq (a := true) rfl ?_)
    simp only [Bool.not_true, Bool.false_eq_true, if_false]
    refine wpAny_bind (wpAny_of_eq hsub ?_)
    simp only [Bool.not_true, Bool.false_eq_true, if_false]
    refine wpAny_pure ?_
    dsimp only
    simp only [List.length_nil, gt_iff_lt, Nat.not_lt_zero, if_false]
    refine wpAny_bind ?_
    unfold Builtin.SmallTypes.iterAll
    simp only [List.forIn_cons, List.forIn_nil]
    refine wpAny_bind (wpAny_bind (wpAny_bind (wpAny_holding (I1.iter _ _ _ _ hh k1 fun o1 S1 f1 D1 st1 => wpAny_pure ?_))))
    refine wpAny_bind (wpAny_bind (wpAny_holding (I2.iter _ _ _ _ hh (I2.keep _ _ k2 fun _ _ e => Heap.get?_push_of_some _ e) fun o2 S2 f2 D2 st2 => wpAny_pure (wpAny_pure (wpAny_pure ?_)))))
    have z1 : (s.heap.push o1).objs.size = s.heap.objs.size + 1 := Heap.size_push ..
    dsimp only at D2 st2 ⊢
    rw [z1] at D2 ⊢
    refine wpAny_bind (wpAny_newTuple (hsz := by show 2 ≤ sizeLine; exact Nat.le_of_ble_eq_true rfl) (wpAny_bind (wpAny_newTuple (hsz := by show 2 ≤ sizeLine; exact Nat.le_of_ble_eq_true rfl) ?_)))
    have z2 : ((s.heap.push o1).push o2).objs.size = s.heap.objs.size + 2 := by rw [Heap.size_push, z1]
    have z3 : (zh3 s.heap o1 o2).objs.size = s.heap.objs.size + 3 := by unfold zh3; rw [Heap.size_push, z2]
    have z4 : (zh4 s.heap o1 o2).objs.size = s.heap.objs.size + 4 := by unfold zh4; rw [Heap.size_push, z3]
    show wpAny _ _ (newObj (.type "zip") (.fields #[.none, .bool false, .bool false, .ref ((s.heap.push o1).push o2).objs.size, .ref (zh3 s.heap o1 o2).objs.size]) >>= fun r => ret r) _ _ { s with heap := zh4 s.heap o1 o2 }
    rw [z2, z3]
    refine wpAny_bind (wpAny_newObj_type (wpAny_pure ⟨_, rfl, ?_⟩))
    show R (.ok (.ret (.ref (zh4 s.heap o1 o2).objs.size))) { s with heap := zh5 s.heap o1 o2 }
    rw [z4]
    exact h o1 o2 S1 S2 f1 f2 D1 D2 st1 st2
theorem call_zipI {v1 v2 : Value} {bs1 bs2 : List Addr} {n : Nat} {P1 P2 : Nat → Value → Prop} {ok1 ok2 : Heap → Prop} {Q : Value → Shared → Prop} (I1 : Itb prog w v1 bs1 n P1 ok1) (I2 : Itb prog w v2 bs2 n P2 ok2)
    (hh : A.handled = none) (k1 : ok1 s.heap) (k2 : ok2 s.heap)
    (h : ∀ h' S1 S2, (∀ A' : Around, A'.handled = none → Draws prog w A' s.heap.objs.size (s.heap.objs.size :: bs1) n P1 S1) → (∀ A' : Around, A'.handled = none → Draws prog w A' (s.heap.objs.size + 1) ((s.heap.objs.size + 1) :: bs2) n P2 S2) →
      S1 0 h' → S2 0 h' → IsZip h' (s.heap.objs.size + 4) (s.heap.objs.size + 2) (s.heap.objs.size + 3) .none → IsPair h' (s.heap.objs.size + 2) (.ref s.heap.objs.size) (.ref (s.heap.objs.size + 1)) → IsPair h' (s.heap.objs.size + 3) .none .none →
      h'.objs.size = s.heap.objs.size + 5 → (∀ c o, s.heap.get? c = some o → h'.get? c = some o) → Q (.ref (s.heap.objs.size + 4)) { s with heap := h' }) :
    wpAny (model prog w) A (call (.type "zip") [v1, v2]) Q E s := by
  refine callType_newIn F.called_zip (by decide) (F.typeCall_zip_2 _ _) (F.newCall_zip_2 _ _) (fun obj => F.args_object_init_3 obj _ _) F.entry_zip_new
    (zip_newI I1 I2) ⟨hh, k1, k2, fun o1 o2 S1 S2 f1 f2 D1 D2 st1 st2 => ?_⟩
  have z1 : (s.heap.push o1).objs.size = s.heap.objs.size + 1 := Heap.size_push ..
  have z2 : ((s.heap.push o1).push o2).objs.size = s.heap.objs.size + 2 := by rw [Heap.size_push, z1]
  have z3 : (zh3 s.heap o1 o2).objs.size = s.heap.objs.size + 3 := by unfold zh3; rw [Heap.size_push, z2]
  have z4 : (zh4 s.heap o1 o2).objs.size = s.heap.objs.size + 4 := by unfold zh4; rw [Heap.size_push, z3]
  have z5 : (zh5 s.heap o1 o2).objs.size = s.heap.objs.size + 5 := by unfold zh5; rw [Heap.size_push, z4]
  have g5 : (zh5 s.heap o1 o2).get? (zh4 s.heap o1 o2).objs.size = some _ := Heap.get?_push_size _ rfl
  have g4 : (zh5 s.heap o1 o2).get? (zh3 s.heap o1 o2).objs.size = some _ := Heap.get?_push_of_some _ (Heap.get?_push_size _ rfl)
  have g3 : (zh5 s.heap o1 o2).get? ((s.heap.push o1).push o2).objs.size = some _ := Heap.get?_push_of_some _ (Heap.get?_push_of_some _ (Heap.get?_push_size _ rfl))
  rw [z4] at g5
  rw [z3] at g4
  rw [z2] at g3
  have up2 : ∀ c o, ((s.heap.push o1).push o2).get? c = some o → (zh5 s.heap o1 o2).get? c = some o := fun c o x => Heap.get?_push_of_some _ (Heap.get?_push_of_some _ (Heap.get?_push_of_some _ x))
  have up1 : ∀ c o, (s.heap.push o1).get? c = some o → (zh5 s.heap o1 o2).get? c = some o := fun c o x => up2 c o (Heap.get?_push_of_some _ x)
  exact ⟨⟨_, g5, rfl⟩, h _ S1 S2 D1 D2 ((D1 A hh).frame _ _ _ st1 fun b _ o e => up1 b o e) ((D2 A hh).frame _ _ _ st2 fun b _ o e => up2 b o e) g5 g3 g4 z5 fun c o x => up1 c o (Heap.get?_push_of_some _ x)⟩
/-- what a turn binds: written names with values, two tokens open -/
abbrev Bl := Tok → Tok → List (Str × Value)
def bndOf (bl : List Bl) (i : Nat) (bs : List (Str × Value)) : Prop := ∃ f t u, bl[i]? = some f ∧ bs = f t u
section
variable (prog : Program) (w : World) (A : Around) (h₀ : Heap) (L : Addr) (m : Str → Option Value) (env : Env) (elt : Expr) (scope : Scope) (cl : List (Str × Addr)) (s : Shared)
def LTurns (Fin : List Value → List (Addr × Obj) → Prop) : List Bl → List Value → List (Addr × Obj) → Prop
  | [], ys, news => Fin ys news
  | f :: r, ys, news => ∀ t u C oC mC D h tk nw (E' : Value → Shared → Prop), NsObj oC mC → (∀ p ∈ f t u, mC p.1 = some p.2) → Fr h₀ L h m → News h₀ L h nw → (C, oC) ∈ nw → (D, lst ys) ∈ nw → Sub news nw →
      wpAny (model prog w) A (eval elt (compEnvC scope cl C env)) (EltEnd h₀ L m { s with heap := h, toks := tk } nw fun y pre => LTurns Fin r (ys ++ [y]) (pre ++ news)) E' { s with heap := h, toks := tk }
def DTurns (Fin : List (Str × Value) → List (Addr × Obj) → Prop) : List (Str × Bl) → List (Str × Value) → List (Addr × Obj) → Prop
  | [], kvs, news => Fin kvs news
  | f :: r, kvs, news => ∀ t u C oC mC D oD h tk nw (E' : Value → Shared → Prop), NsObj oC mC → (∀ p ∈ f.2 t u, mC p.1 = some p.2) → Fr h₀ L h m → News h₀ L h nw → (C, oC) ∈ nw → (D, oD) ∈ nw → oD.IsDictOf (PySem.strKind prog w) kvs → Sub news nw →
      wpAny (model prog w) A (eval elt (compEnvC scope cl C env)) (EltEnd h₀ L m { s with heap := h, toks := tk } nw fun y pre => DTurns Fin r (stored kvs f.1 y) (pre ++ news)) E' { s with heap := h, toks := tk }
end
theorem EltEnd.mono {h₀ : Heap} {L : Addr} {m : Str → Option Value} {s : Shared} {nw : List (Addr × Obj)} {rest rest' : Value → List (Addr × Obj) → Prop} {y : Value} {s₂ : Shared} (h : EltEnd h₀ L m s nw rest y s₂) (k : ∀ y pre, rest y pre → rest' y pre) : EltEnd h₀ L m s nw rest' y s₂ :=
  let ⟨h', tk, pre, a, b, c, d, r⟩ := h; ⟨h', tk, pre, a, b, c, d, k _ _ r⟩
section
variable {h₀ : Heap} {L : Addr} {m : Str → Option Value} {env : Env} {elt : Expr} {scope : Scope} {cl : List (Str × Addr)} {news : List (Addr × Obj)}
theorem LTurns.rest {Fin : List Value → List (Addr × Obj) → Prop} (full : List Bl) : ∀ (k i : Nat) (ys : List Value) (news : List (Addr × Obj)), k + i = full.length → LTurns prog w A h₀ L m env elt scope cl s Fin (full.drop i) ys news →
    LRest prog w A h₀ L m env elt scope cl s (bndOf full) Fin k i ys news
  | 0, i, ys, news, hk, h => by
    have : full.drop i = [] := List.drop_eq_nil_of_le (by omega)
    rw [this] at h
    exact h
  | k + 1, i, ys, news, hk, h => by
    have hlt : i < full.length := by omega
    have e : full.drop i = full[i] :: full.drop (i + 1) := List.drop_eq_getElem_cons hlt
    rw [e] at h
    intro bs C oC mC D hp tk nw E' hb h1 h2 h3 h4 h5 h6 h7
    obtain ⟨f, t, u, hf, rfl⟩ := hb
    have : full[i] = f := Option.some.inj ((List.getElem?_eq_getElem hlt).symm.trans hf)
    subst this
    exact wpAny_mono (h t u C oC mC D hp tk nw E' h1 h2 h3 h4 h5 h6 h7) (fun y s₂ hy => hy.mono fun y pre r => LTurns.rest full k (i + 1) _ _ (by omega) r) fun _ _ e => e
theorem DTurns.rest {Fin : List (Str × Value) → List (Addr × Obj) → Prop} (full : List (Str × Bl)) : ∀ (k i : Nat) (kvs : List (Str × Value)) (news : List (Addr × Obj)), k + i = full.length → DTurns prog w A h₀ L m env elt scope cl s Fin (full.drop i) kvs news →
    DRest prog w A h₀ L m env elt scope cl s (bndOf (full.map (·.2))) (fun i => ((full[i]?).map (·.1)).getD (Str.ofString "")) Fin k i kvs news
  | 0, i, kvs, news, hk, h => by
    have : full.drop i = [] := List.drop_eq_nil_of_le (by omega)
    rw [this] at h
    exact h
  | k + 1, i, kvs, news, hk, h => by
    have hlt : i < full.length := by omega
    have e : full.drop i = full[i] :: full.drop (i + 1) := List.drop_eq_getElem_cons hlt
    rw [e] at h
    intro bs C oC mC D oD hp tk nw E' hb h1 h2 h3 h4 h5 h6 h7 h8
    obtain ⟨f, t, u, hf, rfl⟩ := hb
    have hg : full[i]? = some full[i] := List.getElem?_eq_getElem hlt
    rw [List.getElem?_map, hg] at hf
    cases hf
    refine wpAny_mono (h t u C oC mC D oD hp tk nw E' h1 h2 h3 h4 h5 h6 h7 h8) (fun y s₂ hy => hy.mono fun y pre r => ?_) fun _ _ e => e
    have r' := DTurns.rest full k (i + 1) _ _ (by omega) r
    have ek : (((full[i]?).map (·.1)).getD (Str.ofString "")) = full[i].1 := by rw [hg]; rfl
    show DRest prog w A h₀ L m env elt scope cl s (bndOf (full.map (·.2))) _ Fin k (i + 1) (stored kvs (((full[i]?).map (·.1)).getD (Str.ofString "")) y) _
    rw [ek]
    exact r'
theorem bnd_key {kx : Str} {kl : List (Str × Bl)} (hk : ∀ p ∈ kl, ∀ t u, ∃ t', (kx, Value.str p.1 t') ∈ p.2 t u) : ∀ i bs, bndOf (kl.map (·.2)) i bs → ∃ t, (kx, Value.str (((kl[i]?).map (·.1)).getD (Str.ofString "")) t) ∈ bs := by
  rintro i bs ⟨f, t, u, hf, rfl⟩
  rw [List.getElem?_map] at hf
  cases e : kl[i]? with
  | none => rw [e] at hf; cases hf
  | some p =>
    rw [e] at hf
    cases hf
    exact hk p (List.mem_of_getElem? e) t u
/-- a walked iterator that binds one name -/
theorem Src.name {x : Str} {px : Pos} {I : Addr} {fp : List Addr} {n : Nat} {P : Nat → Value → Prop} {St : Nat → Heap → Prop} {bl : List Bl} (W : Walks prog w A I fp [I] n P St) (hkind : scope.kind = .function) (hx : scope.names.lookup x = some .local)
    (alive : ∀ i h, St i h → ∃ o, h.get? I = some o) (fits : n ≤ sizeLine) (notL : L ∉ fp) (fresh : h₀.get? I = none) (hP : ∀ i v, P i v → ∃ f t u, bl[i]? = some f ∧ f t u = [(x, v)]) :
    Src prog w A h₀ L env scope cl (.Name x px) I fp [I] n (fun i v _ => P i v) (fun i v h => P i v ∧ St (i + 1) h) St (bndOf bl) where
  turns := KTurns.ofWalks W fun i v s Q E st q => wpAny_of_eq rfl q
  self := fun s Q E st q => W.self 0 s Q E st q
  alive := fun i h st b hb => by rw [List.mem_singleton.mp hb]; exact alive i h st
  fits := fits
  notL := notL
  fresh := fun b hb => by rw [List.mem_singleton.mp hb]; exact fresh
  bind := fun i v C s mC Q E hv hn hQ => by
    obtain ⟨f, t, u, hf, e⟩ := hP i v hv
    refine wpAny_assign_Name (wpAny_storeName_local (lookup_relabel_local hx) hn (fun h' hn' hs' => ?_) (by simp [compEnvC, relabel, hkind]))
    exact hQ [(x, v)] h' _ _ ⟨f, t, u, hf, e.symm⟩ hn' (by simp) fun c o hc e => hs'.extBut c o hc e
/-- a walked iterator of tuples that binds two names -/
theorem Src.pair {a b : Str} {pa pb tp : Pos} {kk : Nat} {I : Addr} {fp wr : List Addr} {n : Nat} {Pt : Nat → Array Value → Prop} {St : Nat → Heap → Prop} {Mid : Nat → Addr → Heap → Prop} {bl : List Bl} (W : WalksT prog w A I fp wr n Pt St Mid) (hh : A.handled = none)
    (hkind : scope.kind = .function) (ha : scope.names.lookup a = some .local) (hb : scope.names.lookup b = some .local) (hab : ¬ a = b)
    (alive : ∀ i h, St i h → ∀ b ∈ wr, ∃ o, h.get? b = some o) (fits : n ≤ sizeLine) (notL : L ∉ fp) (fresh : ∀ b ∈ wr, h₀.get? b = none) (hP : ∀ i vals, Pt i vals → ∃ f t u x y, bl[i]? = some f ∧ vals = #[x, y] ∧ f t u = [(a, x), (b, y)]) :
    Src prog w A h₀ L env scope cl (.Tuple [.Name a pa, .Name b pb] kk tp) I fp wr n (fun i v h => ∃ T vals, v = .ref T ∧ Pt i vals ∧ h.IsTuple T vals) (fun i v h => ∃ T vals, v = .ref T ∧ Pt i vals ∧ h.IsTuple T vals ∧ Mid i T h) St (bndOf bl) where
  turns := KTurns.ofWalksU W.toU
  self := fun s Q E st q => W.self 0 s Q E st q
  alive := alive
  fits := fits
  notL := notL
  fresh := fresh
  bind := fun i v C s mC Q E hv hn hQ => by
    obtain ⟨T, vals, rfl, hp, hT⟩ := hv
    obtain ⟨f, t, u, x, y, hf, rfl, e⟩ := hP i vals hp
    refine kcp_assign (env := compEnvC scope cl C env) hh hT (lookup_relabel_local ha) (lookup_relabel_local hb) (by simp [compEnvC, relabel, hkind]) hn fun h' tk hn' hk' => ?_
    exact hQ [(a, x), (b, y)] h' tk _ ⟨f, t, u, hf, e.symm⟩ hn' (by simp [hab]) hk'
end
end
end Mine
end
section
open PySem PySem.Spec PySem.Calls PySem.W PyProof.Rows PySem.Flt PyProof.Rows.LCg
set_option maxRecDepth 100000
namespace Mine
section
variable {prog : Program} {w : World} {A : Around} {E : Value → Shared → Prop} {s : Shared}
theorem natNot (n k : Nat) : ¬ n + k < n := Nat.not_lt.mpr (Nat.le_add_right _ _)
theorem natLt (n i j : Nat) (h : i < j) : n + i < n + j := Nat.add_lt_add_left h n
structure Wkb (prog : Program) (w : World) (v : Value) (bs : List Addr) (n : Nat) (P : Nat → Value → Prop) (ok : Heap → Prop) : Prop where
  below : ∀ h, ok h → ∀ b ∈ bs, ∃ o, h.get? b = some o
  iter : ∀ (A : Around) (s : Shared) (Q : Value → Shared → Prop) (E : Value → Shared → Prop), A.handled = none → ok s.heap →
    (∀ o St, o.isFreed = false → (∀ A' : Around, A'.handled = none → Walks prog w A' s.heap.objs.size (s.heap.objs.size :: bs) [s.heap.objs.size] n P St) → (∀ i h, St i h → ∃ o, h.get? s.heap.objs.size = some o) → St 0 (s.heap.push o) → Q (.ref s.heap.objs.size) { s with heap := s.heap.push o }) →
    wpAny (model prog w) A (pyIter v) Q E s
theorem Wkb.list (l : Addr) (items : Array Value) : Wkb prog w (.ref l) [l] items.size (fun i v => items[i]? = some v) (fun h => h.IsList l items) where
  below := fun h x b hb => by rw [List.mem_singleton.mp hb]; exact ⟨_, x.choose_spec.1⟩
  iter := fun A s Q E hh x hQ => by
    have hlt : l < s.heap.objs.size := Heap.lt_size x.choose_spec.1
    exact wpAny_pyIter_list x (hQ _ _ rfl (fun A' hA => Walks.list hA _ l (Nat.ne_of_lt hlt) items) (fun i h st => ⟨_, st.1.choose_spec.1⟩) ⟨⟨_, Heap.get?_push_size _ rfl, rfl, rfl⟩, x.push _⟩)
theorem Wkb.tuple (l : Addr) (items : Array Value) : Wkb prog w (.ref l) [l] items.size (fun i v => items[i]? = some v) (fun h => h.IsTuple l items) where
  below := fun h x b hb => by rw [List.mem_singleton.mp hb]; exact ⟨_, x.choose_spec.1⟩
  iter := fun A s Q E hh x hQ => by
    have hlt : l < s.heap.objs.size := Heap.lt_size x.choose_spec.1
    exact wpAny_pyIter_tuple x (hQ _ _ rfl (fun A' hA => Walks.tuple hA _ l (Nat.ne_of_lt hlt) items) (fun i h st => ⟨_, st.1.choose_spec.1⟩) ⟨⟨_, Heap.get?_push_size _ rfl, rfl, rfl⟩, x.push _⟩)
theorem Wkb.str (x : Str) (t : Tok) : Wkb prog w (.str x t) [] x.cps.size (SignAt x) (fun _ => True) where
  below := fun _ _ _ hb => nomatch hb
  iter := fun A s Q E hh _ hQ => by
    cases ha : x.cps.all (· < 128)
    · exact wpAny_pyIter_wide ha (hQ _ _ rfl (fun A' hA => Walks.strWide hA _ x t) (fun i h st => ⟨_, st.choose_spec.1⟩) ⟨_, Heap.get?_push_size _ rfl, rfl, rfl⟩)
    · exact wpAny_pyIter_ascii ha (hQ _ _ rfl (fun A' hA => Walks.strAscii hA _ x t) (fun i h st => ⟨_, st.choose_spec.1⟩) ⟨_, Heap.get?_push_size _ rfl, rfl, rfl⟩)
section
variable {h₀ : Heap} {L : Addr} {m : Str → Option Value} {env : Env} {elt : Expr} {scope : Scope} {cl : List (Str × Addr)} {news : List (Addr × Obj)}
theorem lsrc_wkb {v : Value} {bs : List Addr} {n : Nat} {P : Nat → Value → Prop} {ok : Heap → Prop} {x : Str} {px : Pos} {bl : List Bl} {Fin : Shared → List Value → List (Addr × Obj) → Prop} (K : Wkb prog w v bs n P ok) (hh : A.handled = none)
    (F : Fr h₀ L s.heap m) (N : News h₀ L s.heap news) (k : ok s.heap) (hL : L ∉ bs) (hkind : scope.kind = .function) (hx : scope.names.lookup x = some .local) (fits : n ≤ sizeLine) (hP : ∀ i v, P i v → ∃ f t u, bl[i]? = some f ∧ f t u = [(x, v)]) (hn : bl.length = n)
    (R : ∀ g tk, LTurns prog w A h₀ L m env elt scope cl { s with heap := g, toks := tk } (Fin { s with heap := g, toks := tk }) bl [] news) :
    wpAny (model prog w) A (pyIter v) (LSrc prog w A h₀ L m env elt (.Name x px) scope cl Fin) E s := by
  refine K.iter A s _ _ hh k fun o St fo W al st => ?_
  have hlt : ∀ {b o}, s.heap.get? b = some o → b < (s.heap.push o).objs.size := fun e => by rw [Heap.size_push]; exact Nat.lt_succ_of_lt (Heap.lt_size e)
  have hfr : h₀.get? s.heap.objs.size = none := next_is_new F
  refine ⟨_, s.heap.objs.size :: bs, [s.heap.objs.size], n, _, _, St, bndOf bl, news, rfl, Src.name (W A hh) hkind hx al fits (fun h => ?_) hfr hP, st, fun b hb => ?_, F.push _, fun p hp => ⟨Heap.get?_push_of_some _ (N p hp).1, (N p hp).2⟩, fun p hp hw => ?_, ?_⟩
  · rcases List.mem_cons.mp h with e | h
    · exact absurd F.ns.lt (by rw [e]; exact Nat.lt_irrefl _)
    · exact hL h
  · show b < (s.heap.push o).objs.size
    rw [Heap.size_push]
    rcases List.mem_cons.mp hb with rfl | hb
    · exact Nat.lt_succ_self _
    · obtain ⟨o', e⟩ := K.below _ k b hb
      exact Nat.lt_succ_of_lt (Heap.lt_size e)
  · rw [List.mem_singleton] at hw
    exact absurd (Heap.lt_size (N p hp).1) (by rw [hw]; exact Nat.lt_irrefl _)
  · have r := R (s.heap.push o) s.toks
    exact LTurns.rest bl n 0 [] news (by omega) (by rw [List.drop_zero]; exact r)
theorem dsrc_wkb {v : Value} {bs : List Addr} {n : Nat} {P : Nat → Value → Prop} {ok : Heap → Prop} {x : Str} {px : Pos} {kl : List (Str × Bl)} {Fin : Shared → List (Str × Value) → List (Addr × Obj) → Prop} (K : Wkb prog w v bs n P ok) (hh : A.handled = none)
    (F : Fr h₀ L s.heap m) (N : News h₀ L s.heap news) (k : ok s.heap) (hL : L ∉ bs) (hkind : scope.kind = .function) (hx : scope.names.lookup x = some .local) (fits : n ≤ sizeLine) (hP : ∀ i v, P i v → ∃ f t u, (kl.map (·.2))[i]? = some f ∧ f t u = [(x, v)]) (hn : kl.length = n)
    (hk : ∀ p ∈ kl, ∀ t u, ∃ t', (x, Value.str p.1 t') ∈ p.2 t u)
    (R : ∀ g tk, DTurns prog w A h₀ L m env elt scope cl { s with heap := g, toks := tk } (Fin { s with heap := g, toks := tk }) kl [] news) :
    wpAny (model prog w) A (pyIter v) (DSrc prog w A h₀ L m env x elt (.Name x px) scope cl Fin) E s := by
  refine K.iter A s _ _ hh k fun o St fo W al st => ?_
  have hfr : h₀.get? s.heap.objs.size = none := next_is_new F
  refine ⟨_, s.heap.objs.size :: bs, [s.heap.objs.size], n, _, _, St, bndOf (kl.map (·.2)), _, news, rfl, Src.name (W A hh) hkind hx al fits (fun h => ?_) hfr hP, bnd_key hk, st, fun b hb => ?_, F.push _, fun p hp => ⟨Heap.get?_push_of_some _ (N p hp).1, (N p hp).2⟩, fun p hp hw => ?_, ?_⟩
  · rcases List.mem_cons.mp h with e | h
    · exact absurd F.ns.lt (by rw [e]; exact Nat.lt_irrefl _)
    · exact hL h
  · show b < (s.heap.push o).objs.size
    rw [Heap.size_push]
    rcases List.mem_cons.mp hb with rfl | hb
    · exact Nat.lt_succ_self _
    · obtain ⟨o', e⟩ := K.below _ k b hb
      exact Nat.lt_succ_of_lt (Heap.lt_size e)
  · rw [List.mem_singleton] at hw
    exact absurd (Heap.lt_size (N p hp).1) (by rw [hw]; exact Nat.lt_irrefl _)
  · have r := R (s.heap.push o) s.toks
    exact DTurns.rest kl n 0 [] news (by omega) (by rw [List.drop_zero]; exact r)
/-- zip of two sources of one length: what the blocks ask of it -/
theorem zip_src {v1 v2 : Value} {bs1 bs2 : List Addr} {n : Nat} {P1 P2 : Nat → Value → Prop} {ok1 ok2 : Heap → Prop} {a b : Str} {pa pb tp : Pos} {kk : Nat} {bl : List Bl} {Q : Value → Shared → Prop} (I1 : Itb prog w v1 bs1 n P1 ok1) (I2 : Itb prog w v2 bs2 n P2 ok2) (hh : A.handled = none)
    (F : Fr h₀ L s.heap m) (N : News h₀ L s.heap news) (k1 : ok1 s.heap) (k2 : ok2 s.heap) (hL1 : L ∉ bs1) (hL2 : L ∉ bs2) (hkind : scope.kind = .function) (ha : scope.names.lookup a = some .local) (hb : scope.names.lookup b = some .local) (hab : ¬ a = b) (fits : n ≤ sizeLine)
    (hP : ∀ i x y, P1 i x → P2 i y → ∃ f t u, bl[i]? = some f ∧ f t u = [(a, x), (b, y)])
    (h : ∀ h' fp wr P Md St, Src prog w A h₀ L env scope cl (.Tuple [.Name a pa, .Name b pb] kk tp) (s.heap.objs.size + 4) fp wr n P Md St (bndOf bl) → St 0 h' → (∀ b ∈ fp, b < h'.objs.size) → Fr h₀ L h' m → News h₀ L h' news → (∀ p ∈ news, p.1 ∉ wr) → Q (.ref (s.heap.objs.size + 4)) { s with heap := h' }) :
    wpAny (model prog w) A (call (.type "zip") [v1, v2]) (fun xv s₁ => wpAny (model prog w) A (pyIter xv) Q E s₁) E s := by
  refine call_zipI I1 I2 hh k1 k2 fun h' S1 S2 D1 D2 st1 st2 hz hTI hTO hsz hk => ?_
  refine wpAny_pyIter_zip hz ?_
  have hLs : L < s.heap.objs.size := F.ns.lt
  have b1 : ∀ b ∈ bs1, b < s.heap.objs.size := fun b hb => by obtain ⟨o, e⟩ := I1.below _ k1 b hb; exact Heap.lt_size e
  have b2 : ∀ b ∈ bs2, b < s.heap.objs.size := fun b hb => by obtain ⟨o, e⟩ := I2.below _ k2 b hb; exact Heap.lt_size e
  have off1 : ∀ j, s.heap.objs.size + j ∉ bs1 := fun j hj => absurd (b1 _ hj) (Nat.not_lt.mpr (Nat.le_add_right _ _))
  have off2 : ∀ j, s.heap.objs.size + j ∉ bs2 := fun j hj => absurd (b2 _ hj) (Nat.not_lt.mpr (Nat.le_add_right _ _))
  have ne : ∀ i j : Nat, i ≠ j → s.heap.objs.size + i ≠ s.heap.objs.size + j := fun i j h e => h (Nat.add_left_cancel e)
  have ne0 : ∀ j : Nat, j ≠ 0 → s.heap.objs.size + j ≠ s.heap.objs.size := fun j h e => h (Nat.add_left_cancel (e.trans (Nat.add_zero _).symm))
  have D : ZApart (s.heap.objs.size + 4) (s.heap.objs.size + 2) (s.heap.objs.size + 3) s.heap.objs.size (s.heap.objs.size + 1) (s.heap.objs.size :: bs1) ((s.heap.objs.size + 1) :: bs2) :=
    { TIz := ne 2 4 (by decide), TOz := ne 3 4 (by decide), i1z := Ne.symm (ne0 4 (by decide)), i2z := ne 1 4 (by decide), TITO := ne 2 3 (by decide), TIi1 := ne0 2 (by decide), TIi2 := ne 2 1 (by decide), TOi1 := ne0 3 (by decide), TOi2 := ne 3 1 (by decide), i12 := Ne.symm (ne0 1 (by decide)),
      z1 := fun q => (List.mem_cons.mp q).elim (ne0 4 (by decide)) (off1 4), z2 := fun q => (List.mem_cons.mp q).elim (ne 4 1 (by decide)) (off2 4), TO1 := fun q => (List.mem_cons.mp q).elim (ne0 3 (by decide)) (off1 3), TO2 := fun q => (List.mem_cons.mp q).elim (ne 3 1 (by decide)) (off2 3),
      i1f := List.mem_cons_self, i2f := List.mem_cons_self, i21 := fun q => (List.mem_cons.mp q).elim (ne0 1 (by decide)) (off1 1), i12f := fun q => (List.mem_cons.mp q).elim (Ne.symm (ne0 1 (by decide))) (off2 0) }
  have W := WalksT.zipD (A := A) hh D D1 D2
  have fr : ∀ j, h₀.get? (s.heap.objs.size + j) = none := fun j => by
    cases e : h₀.get? (s.heap.objs.size + j) with
    | none => rfl
    | some o => exact absurd (Heap.lt_size (F.keep _ _ e)) (Nat.not_lt.mpr (Nat.le_add_right _ _))
  refine h h' _ _ _ _ _ (Src.pair W hh hkind ha hb hab ?_ fits ?_ ?_ ?_) ⟨hz, hTI, ⟨_, _, hTO⟩, st1, st2⟩ ?_ (F.keeps hk) (N.grown hk) ?_
  · rintro i h'' ⟨hz, hTI, ⟨x, y, hTO⟩, s1, s2⟩ c hc
    obtain ⟨o1, e1⟩ := (D1 A hh).live _ _ s1
    obtain ⟨o2, e2⟩ := (D2 A hh).live _ _ s2
    simp only [List.mem_cons, List.not_mem_nil, or_false] at hc
    rcases hc with rfl | rfl | rfl | rfl
    · exact ⟨_, hz⟩
    · exact ⟨_, hTO⟩
    · exact ⟨_, e1⟩
    · exact ⟨_, e2⟩
  · intro hm
    simp only [List.mem_cons, List.mem_append] at hm
    rcases hm with e | e | e | (e | e) | (e | e)
    · exact absurd (e ▸ hLs) (by first | exact natNot _ _ | exact Nat.lt_irrefl _)
    · exact absurd (e ▸ hLs) (by first | exact natNot _ _ | exact Nat.lt_irrefl _)
    · exact absurd (e ▸ hLs) (by first | exact natNot _ _ | exact Nat.lt_irrefl _)
    · exact absurd (e ▸ hLs) (by first | exact natNot _ _ | exact Nat.lt_irrefl _)
    · exact hL1 e
    · exact absurd (e ▸ hLs) (by first | exact natNot _ _ | exact Nat.lt_irrefl _)
    · exact hL2 e
  · intro c hc
    simp only [List.mem_cons, List.not_mem_nil, or_false] at hc
    rcases hc with rfl | rfl | rfl | rfl
    · exact fr 4
    · exact fr 3
    · exact fr 0
    · exact fr 1
  · rintro i vals ⟨x, y, p1, p2, rfl⟩
    obtain ⟨f, t, u, hf, e⟩ := hP i x y p1 p2
    exact ⟨f, t, u, x, y, hf, rfl, e⟩
  · intro c hc
    rw [hsz]
    simp only [List.mem_cons, List.mem_append] at hc
    rcases hc with e | e | e | (e | e) | (e | e)
    · rw [e]; exact natLt _ 4 5 (by decide)
    · rw [e]; exact natLt _ 2 5 (by decide)
    · rw [e]; exact natLt _ 3 5 (by decide)
    · rw [e]; exact natLt _ 0 5 (by decide)
    · exact Nat.lt_of_lt_of_le (b1 _ e) (Nat.le_add_right _ _)
    · rw [e]; exact natLt _ 1 5 (by decide)
    · exact Nat.lt_of_lt_of_le (b2 _ e) (Nat.le_add_right _ _)
  · intro p hp hw
    have hlp := Heap.lt_size (N p hp).1
    simp only [List.mem_cons, List.not_mem_nil, or_false] at hw
    rcases hw with e | e | e | e <;> exact absurd (e ▸ hlp) (by first | exact natNot _ _ | exact Nat.lt_irrefl _)
theorem lsrc_zip {v1 v2 : Value} {bs1 bs2 : List Addr} {n : Nat} {P1 P2 : Nat → Value → Prop} {ok1 ok2 : Heap → Prop} {a b : Str} {pa pb tp : Pos} {kk : Nat} {bl : List Bl} {Fin : Shared → List Value → List (Addr × Obj) → Prop} (I1 : Itb prog w v1 bs1 n P1 ok1) (I2 : Itb prog w v2 bs2 n P2 ok2) (hh : A.handled = none)
    (F : Fr h₀ L s.heap m) (N : News h₀ L s.heap news) (k1 : ok1 s.heap) (k2 : ok2 s.heap) (hL1 : L ∉ bs1) (hL2 : L ∉ bs2) (hkind : scope.kind = .function) (ha : scope.names.lookup a = some .local) (hb : scope.names.lookup b = some .local) (hab : ¬ a = b) (fits : n ≤ sizeLine)
    (hP : ∀ i x y, P1 i x → P2 i y → ∃ f t u, bl[i]? = some f ∧ f t u = [(a, x), (b, y)]) (hn : bl.length = n)
    (R : ∀ g tk, LTurns prog w A h₀ L m env elt scope cl { s with heap := g, toks := tk } (Fin { s with heap := g, toks := tk }) bl [] news) :
    wpAny (model prog w) A (call (.type "zip") [v1, v2]) (fun xv s₁ => wpAny (model prog w) A (pyIter xv) (LSrc prog w A h₀ L m env elt (.Tuple [.Name a pa, .Name b pb] kk tp) scope cl Fin) E s₁) E s :=
  zip_src I1 I2 hh F N k1 k2 hL1 hL2 hkind ha hb hab fits hP fun h' fp wr P Md St S st hfp F' N' hnw =>
    ⟨_, fp, wr, n, P, Md, St, bndOf bl, news, rfl, S, st, hfp, F', N', hnw, LTurns.rest bl n 0 [] news (by omega) (by rw [List.drop_zero]; exact R h' s.toks)⟩
theorem dsrc_zip {v1 v2 : Value} {bs1 bs2 : List Addr} {n : Nat} {P1 P2 : Nat → Value → Prop} {ok1 ok2 : Heap → Prop} {a b : Str} {pa pb tp : Pos} {kk : Nat} {kl : List (Str × Bl)} {Fin : Shared → List (Str × Value) → List (Addr × Obj) → Prop} (I1 : Itb prog w v1 bs1 n P1 ok1) (I2 : Itb prog w v2 bs2 n P2 ok2) (hh : A.handled = none)
    (F : Fr h₀ L s.heap m) (N : News h₀ L s.heap news) (k1 : ok1 s.heap) (k2 : ok2 s.heap) (hL1 : L ∉ bs1) (hL2 : L ∉ bs2) (hkind : scope.kind = .function) (ha : scope.names.lookup a = some .local) (hb : scope.names.lookup b = some .local) (hab : ¬ a = b) (fits : n ≤ sizeLine)
    (hP : ∀ i x y, P1 i x → P2 i y → ∃ f t u, (kl.map (·.2))[i]? = some f ∧ f t u = [(a, x), (b, y)]) (hn : kl.length = n) (hk : ∀ p ∈ kl, ∀ t u, ∃ t', (a, Value.str p.1 t') ∈ p.2 t u)
    (R : ∀ g tk, DTurns prog w A h₀ L m env elt scope cl { s with heap := g, toks := tk } (Fin { s with heap := g, toks := tk }) kl [] news) :
    wpAny (model prog w) A (call (.type "zip") [v1, v2]) (fun xv s₁ => wpAny (model prog w) A (pyIter xv) (DSrc prog w A h₀ L m env a elt (.Tuple [.Name a pa, .Name b pb] kk tp) scope cl Fin) E s₁) E s :=
  zip_src I1 I2 hh F N k1 k2 hL1 hL2 hkind ha hb hab fits hP fun h' fp wr P Md St S st hfp F' N' hnw =>
    ⟨_, fp, wr, n, P, Md, St, bndOf (kl.map (·.2)), _, news, rfl, S, bnd_key hk, st, hfp, F', N', hnw, DTurns.rest kl n 0 [] news (by omega) (by rw [List.drop_zero]; exact R h' s.toks)⟩
theorem lsrc_enum {l : Addr} {vs : List Value} {k : Nat} {a b : Str} {pa pb tp : Pos} {kk : Nat} {bl : List Bl} {Fin : Shared → List Value → List (Addr × Obj) → Prop} (hh : A.handled = none)
    (F : Fr h₀ L s.heap m) (N : News h₀ L s.heap news) (hm : (l, ({ cls := .type "list", data := .seq vs.toArray k } : Obj)) ∈ news) (hkind : scope.kind = .function) (ha : scope.names.lookup a = some .local) (hb : scope.names.lookup b = some .local) (hab : ¬ a = b) (fits : vs.length ≤ sizeLine)
    (hP : ∀ (i : Nat) (t : Tok) (y : Value), vs[i]? = some y → ∃ f u v, bl[i]? = some f ∧ f u v = [(a, Value.int i t), (b, y)]) (hn : bl.length = vs.length)
    (R : ∀ g tk, LTurns prog w A h₀ L m env elt scope cl { s with heap := g, toks := tk } (Fin { s with heap := g, toks := tk }) bl [] news) :
    wpAny (model prog w) A (call (.type "enumerate") [.ref l]) (fun xv s₁ => wpAny (model prog w) A (pyIter xv) (LSrc prog w A h₀ L m env elt (.Tuple [.Name a pa, .Name b pb] kk tp) scope cl Fin) E s₁) E s := by
  have hax := N _ hm
  have hl : s.heap.IsList l vs.toArray := ⟨_, hax.1, rfl, k, rfl⟩
  have hlt : l < s.heap.objs.size := Heap.lt_size hax.1
  have hLs : L < s.heap.objs.size := F.ns.lt
  refine call_enumerate_list hl fun h' hE hI hsz hk => ?_
  refine wpAny_pyIter_enum hE ?_
  have fr : ∀ j, h₀.get? (s.heap.objs.size + j) = none := fun j => by
    cases e : h₀.get? (s.heap.objs.size + j) with
    | none => rfl
    | some o => exact absurd (Heap.lt_size (F.keep _ _ e)) (Nat.not_lt.mpr (Nat.le_add_right _ _))
  have W := WalksT.enumerate (prog := prog) (w := w) (A := A) hh (s.heap.objs.size + 1) s.heap.objs.size l (Nat.succ_ne_self _) (ktu_ne 1 hlt) (Nat.ne_of_lt hlt) vs.toArray
  refine ⟨_, _, _, _, _, _, _, bndOf bl, news, rfl, Src.pair W hh hkind ha hb hab ?_ (by simpa using fits) ?_ ?_ ?_, ⟨⟨.none, hE⟩, hI, hl.at fun o e => hk l o e⟩, ?_, F.keeps hk, N.grown hk, ?_, ?_⟩
  · rintro i h'' ⟨⟨old, he⟩, hi, _⟩ c hc
    simp only [List.mem_cons, List.not_mem_nil, or_false] at hc
    rcases hc with rfl | rfl
    · exact ⟨_, he⟩
    · exact ⟨_, hi.choose_spec.1⟩
  · intro hmm
    simp only [List.mem_cons, List.not_mem_nil, or_false] at hmm
    rcases hmm with e | e | e
    · exact absurd (e ▸ hLs) (by first | exact natNot _ _ | exact Nat.lt_irrefl _)
    · exact absurd (e ▸ hLs) (by first | exact natNot _ _ | exact Nat.lt_irrefl _)
    · exact hax.2.1 e.symm
  · intro c hc
    simp only [List.mem_cons, List.not_mem_nil, or_false] at hc
    rcases hc with rfl | rfl
    · exact fr 1
    · exact fr 0
  · rintro i vals ⟨t, y, hy, rfl⟩
    obtain ⟨f, u, v, hf, e⟩ := hP i t y (by simpa using hy)
    exact ⟨f, u, v, _, y, hf, rfl, e⟩
  · intro c hc
    show c < h'.objs.size
    rw [hsz]
    simp only [List.mem_cons, List.not_mem_nil, or_false] at hc
    rcases hc with rfl | rfl | rfl
    · exact natLt _ 1 2 (by decide)
    · exact natLt _ 0 2 (by decide)
    · exact Nat.lt_of_lt_of_le hlt (Nat.le_add_right _ _)
  · intro p hp hw
    have hlp := Heap.lt_size (N p hp).1
    simp only [List.mem_cons, List.not_mem_nil, or_false] at hw
    rcases hw with e | e <;> exact absurd (e ▸ hlp) (by first | exact natNot _ _ | exact Nat.lt_irrefl _)
  · have e : vs.toArray.size = bl.length := by rw [hn]; simp
    rw [e]
    exact LTurns.rest bl bl.length 0 [] news (by omega) (by rw [List.drop_zero]; exact R h' s.toks)
end
end
end Mine
end
section
open PySem PySem.Spec PySem.Calls PySem.W PyProof.Rows PySem.Flt PyProof.Rows.LCg
set_option maxRecDepth 100000
namespace Mine
section
variable {prog : Program} {w : World} {A : Around} {E : Value → Shared → Prop} {s : Shared} {h₀ : Heap} {L : Addr} {m : Str → Option Value} {env : Env} {elt : Expr} {scope : Scope} {cl : List (Str × Addr)} {news : List (Addr × Obj)}
theorem ListComp_F {elt iter target : Expr} {scope : Scope} {cl : List (Str × Addr)} {pos : Pos} {Q : Value → Shared → Prop} (_F₀ : Fr h₀ L s.heap m)
    (hclos : closureFor scope env = pure cl) (hcell : ∀ y ∈ scope.names, y.2 ≠ .cell) (hkind : scope.kind = .function)
    (hnames : ∀ y ∈ scope.names, y.2 = .local → scope.names.lookup y.1 = some .local)
    (h : wpAny (model prog w) A (eval iter env) (fun xv s₁ => wpAny (model prog w) A (pyIter xv) (LSrc prog w A h₀ L m env elt target scope cl (LFinE h₀ L m Q)) E s₁) E s)
    (hs : ∀ x, foldedSetIterable iter env x = pure x) :
    wpAny (model prog w) A (eval (.ListComp elt [⟨target, iter, [], 0⟩] scope pos) env) Q E s := ListComp_M hclos hcell hkind hnames h hs
theorem Assign_ListComp_F {elt iter target : Expr} {y : Str} {py : Pos} {scope : Scope} {cl : List (Str × Addr)} {pos spos : Pos} {Q : Flow → Shared → Prop} (_F₀ : Fr h₀ L s.heap m) (hLe : env.locals = L)
    (hsw : swapsWith (.ListComp elt [⟨target, iter, [], 0⟩] scope pos) (some (.Name y py)) spos.line env = pure true)
    (hclos : closureFor scope env = pure cl) (hcell : ∀ z ∈ scope.names, z.2 ≠ .cell) (hkind : scope.kind = .function)
    (hnames : ∀ z ∈ scope.names, z.2 = .local → scope.names.lookup z.1 = some .local)
    (hy : env.kindOf y = some .local) (hp : (env.scope.kind == .class || (env.scope.kind == .module && env.locals != env.globals)) = false)
    (h : wpAny (model prog w) A (eval iter env) (fun xv s₁ => wpAny (model prog w) A (pyIter xv) (LSrc prog w A h₀ L m env elt target scope cl (LFinA h₀ L m y Q)) E s₁) E s)
    (hs : ∀ x, foldedSetIterable iter env x = pure x) :
    wpAny (model prog w) A (exec (.Assign [.Name y py] (.ListComp elt [⟨target, iter, [], 0⟩] scope pos) spos) env) Q E s := Assign_ListComp_M hLe hsw hclos hcell hkind hnames hy hp h hs
theorem DictComp_F {elt iter target : Expr} {kx : Str} {kp : Pos} {scope : Scope} {cl : List (Str × Addr)} {pos : Pos} {Q : Value → Shared → Prop} (_F₀ : Fr h₀ L s.heap m)
    (hkx : scope.names.lookup kx = some .local) (hkd : (kx == ("__debug__" : Str)) = false) (hclos : closureFor scope env = pure cl) (hcell : ∀ y ∈ scope.names, y.2 ≠ .cell) (hkind : scope.kind = .function)
    (hnames : ∀ y ∈ scope.names, y.2 = .local → scope.names.lookup y.1 = some .local)
    (h : wpAny (model prog w) A (eval iter env) (fun xv s₁ => wpAny (model prog w) A (pyIter xv) (DSrc prog w A h₀ L m env kx elt target scope cl (DFinE prog w h₀ L m Q)) E s₁) E s)
    (hs : ∀ x, foldedSetIterable iter env x = pure x) :
    wpAny (model prog w) A (eval (.DictComp (.Name kx kp) elt [⟨target, iter, [], 0⟩] scope pos) env) Q E s := DictComp_M hkx hkd hclos hcell hkind hnames h hs
theorem Assign_DictComp_F {elt iter target : Expr} {kx : Str} {kp : Pos} {y : Str} {py : Pos} {scope : Scope} {cl : List (Str × Addr)} {pos spos : Pos} {Q : Flow → Shared → Prop} (_F₀ : Fr h₀ L s.heap m) (hLe : env.locals = L)
    (hsw : swapsWith (.DictComp (.Name kx kp) elt [⟨target, iter, [], 0⟩] scope pos) (some (.Name y py)) spos.line env = pure true)
    (hkx : scope.names.lookup kx = some .local) (hkd : (kx == ("__debug__" : Str)) = false) (hclos : closureFor scope env = pure cl) (hcell : ∀ z ∈ scope.names, z.2 ≠ .cell) (hkind : scope.kind = .function)
    (hnames : ∀ z ∈ scope.names, z.2 = .local → scope.names.lookup z.1 = some .local)
    (hy : env.kindOf y = some .local) (hp : (env.scope.kind == .class || (env.scope.kind == .module && env.locals != env.globals)) = false)
    (h : wpAny (model prog w) A (eval iter env) (fun xv s₁ => wpAny (model prog w) A (pyIter xv) (DSrc prog w A h₀ L m env kx elt target scope cl (DFinA prog w h₀ L m y Q)) E s₁) E s)
    (hs : ∀ x, foldedSetIterable iter env x = pure x) :
    wpAny (model prog w) A (exec (.Assign [.Name y py] (.DictComp (.Name kx kp) elt [⟨target, iter, [], 0⟩] scope pos) spos) env) Q E s := Assign_DictComp_M hLe hsw hkx hkd hclos hcell hkind hnames hy hp h hs
/-- the sources, asked of the ledger -/
theorem lsrc_tup {ax : Addr} {vs : List Value} {k : Nat} {x : Str} {px : Pos} {Fin : Shared → List Value → List (Addr × Obj) → Prop} (hh : A.handled = none)
    (F : Fr h₀ L s.heap m) (N : News h₀ L s.heap news) (hm : (ax, ({ cls := .type "tuple", data := .seq vs.toArray k } : Obj)) ∈ news) (hkind : scope.kind = .function) (hx : scope.names.lookup x = some .local) (fits : vs.length ≤ sizeLine)
    (R : ∀ g tk, LTurns prog w A h₀ L m env elt scope cl { s with heap := g, toks := tk } (Fin { s with heap := g, toks := tk }) (vs.map fun v _ _ => [(x, v)]) [] news) :
    wpAny (model prog w) A (pyIter (.ref ax)) (LSrc prog w A h₀ L m env elt (.Name x px) scope cl Fin) E s :=
  lsrc_wkb (Wkb.tuple ax vs.toArray) hh F N ⟨_, (N _ hm).1, rfl, k, rfl⟩ (fun h => (N _ hm).2.1 (List.mem_singleton.mp h).symm) hkind hx (by simpa using fits)
    (fun i v h => ⟨fun _ _ => [(x, v)], 0, 0, by rw [List.getElem?_map]; simp at h; rw [h]; rfl, rfl⟩) (by simp) R
theorem lsrc_list {ax : Addr} {vs : List Value} {k : Nat} {x : Str} {px : Pos} {Fin : Shared → List Value → List (Addr × Obj) → Prop} (hh : A.handled = none)
    (F : Fr h₀ L s.heap m) (N : News h₀ L s.heap news) (hm : (ax, ({ cls := .type "list", data := .seq vs.toArray k } : Obj)) ∈ news) (hkind : scope.kind = .function) (hx : scope.names.lookup x = some .local) (fits : vs.length ≤ sizeLine)
    (R : ∀ g tk, LTurns prog w A h₀ L m env elt scope cl { s with heap := g, toks := tk } (Fin { s with heap := g, toks := tk }) (vs.map fun v _ _ => [(x, v)]) [] news) :
    wpAny (model prog w) A (pyIter (.ref ax)) (LSrc prog w A h₀ L m env elt (.Name x px) scope cl Fin) E s :=
  lsrc_wkb (Wkb.list ax vs.toArray) hh F N ⟨_, (N _ hm).1, rfl, k, rfl⟩ (fun h => (N _ hm).2.1 (List.mem_singleton.mp h).symm) hkind hx (by simpa using fits)
    (fun i v h => ⟨fun _ _ => [(x, v)], 0, 0, by rw [List.getElem?_map]; simp at h; rw [h]; rfl, rfl⟩) (by simp) R
theorem signs_get {x : Str} {i : Nat} {v : Value} (h : SignAt x i v) {β : Type} (g : Nat → Tok → β) : ∃ c t, (x.cps.toList.map g)[i]? = some (g c) ∧ v = .str ⟨#[c]⟩ t := by
  obtain ⟨c, t, hc, rfl⟩ := h
  exact ⟨c, t, by rw [List.getElem?_map, Array.getElem?_toList, hc]; rfl, rfl⟩
theorem lsrc_str {y : Str} {t : Tok} {x : Str} {px : Pos} {Fin : Shared → List Value → List (Addr × Obj) → Prop} (hh : A.handled = none)
    (F : Fr h₀ L s.heap m) (N : News h₀ L s.heap news) (hkind : scope.kind = .function) (hx : scope.names.lookup x = some .local) (fits : y.cps.size ≤ sizeLine)
    (R : ∀ g tk, LTurns prog w A h₀ L m env elt scope cl { s with heap := g, toks := tk } (Fin { s with heap := g, toks := tk }) (y.cps.toList.map fun c t _ => [(x, .str ⟨#[c]⟩ t)]) [] news) :
    wpAny (model prog w) A (pyIter (.str y t)) (LSrc prog w A h₀ L m env elt (.Name x px) scope cl Fin) E s :=
  lsrc_wkb (Wkb.str y t) hh F N trivial (fun h => nomatch h) hkind hx fits (fun i v h => by
    obtain ⟨c, t, e, rfl⟩ := signs_get h (fun c t (_ : Tok) => [(x, Value.str ⟨#[c]⟩ t)])
    exact ⟨_, t, 0, e, rfl⟩) (by simp) R
theorem dsrc_str {y : Str} {t : Tok} {x : Str} {px : Pos} {Fin : Shared → List (Str × Value) → List (Addr × Obj) → Prop} (hh : A.handled = none)
    (F : Fr h₀ L s.heap m) (N : News h₀ L s.heap news) (hkind : scope.kind = .function) (hx : scope.names.lookup x = some .local) (fits : y.cps.size ≤ sizeLine)
    (R : ∀ g tk, DTurns prog w A h₀ L m env elt scope cl { s with heap := g, toks := tk } (Fin { s with heap := g, toks := tk }) (y.cps.toList.map fun c => (⟨#[c]⟩, fun t _ => [(x, .str ⟨#[c]⟩ t)])) [] news) :
    wpAny (model prog w) A (pyIter (.str y t)) (DSrc prog w A h₀ L m env x elt (.Name x px) scope cl Fin) E s :=
  dsrc_wkb (Wkb.str y t) hh F N trivial (fun h => nomatch h) hkind hx fits (fun i v h => by
    obtain ⟨c, t, e, rfl⟩ := signs_get h (fun c t (_ : Tok) => [(x, Value.str ⟨#[c]⟩ t)])
    exact ⟨_, t, 0, by rw [List.map_map]; exact e, rfl⟩) (by simp) (fun p hp t u => by
    obtain ⟨c, _, rfl⟩ := List.mem_map.mp hp
    exact ⟨t, by simp⟩) R
theorem bls_get {A' B C : Type} : ∀ (xs : List A') (ys : List B) (f : A' → B → C) (i : Nat) (x : A') (y : B), xs[i]? = some x → ys[i]? = some y → (List.zipWith f xs ys)[i]? = some (f x y) := by
  intro xs ys f i x y hx hy
  rw [List.getElem?_zipWith, hx, hy]
/-- zip('abcdef', numbers) -/
theorem dsrc_zip_sl {y : Str} {t : Tok} {l : Addr} {vs : List Value} {k : Nat} {a b : Str} {pa pb tp : Pos} {kk : Nat} {Fin : Shared → List (Str × Value) → List (Addr × Obj) → Prop} (hh : A.handled = none)
    (F : Fr h₀ L s.heap m) (N : News h₀ L s.heap news) (hm : (l, ({ cls := .type "list", data := .seq vs.toArray k } : Obj)) ∈ news) (hn : y.cps.size = vs.length) (hkind : scope.kind = .function) (ha : scope.names.lookup a = some .local) (hb : scope.names.lookup b = some .local) (hab : ¬ a = b) (fits : vs.length ≤ sizeLine)
    (R : ∀ g tk, DTurns prog w A h₀ L m env elt scope cl { s with heap := g, toks := tk } (Fin { s with heap := g, toks := tk }) (List.zipWith (fun c v => (⟨#[c]⟩, fun t _ => [(a, .str ⟨#[c]⟩ t), (b, v)])) y.cps.toList vs) [] news) :
    wpAny (model prog w) A (call (.type "zip") [.str y t, .ref l]) (fun xv s₁ => wpAny (model prog w) A (pyIter xv) (DSrc prog w A h₀ L m env a elt (.Tuple [.Name a pa, .Name b pb] kk tp) scope cl Fin) E s₁) E s := by
  have I1 := Itb.str (prog := prog) (w := w) y t
  have I2 := Itb.list (prog := prog) (w := w) l vs.toArray
  have e : vs.toArray.size = y.cps.size := by rw [hn]; simp
  rw [e] at I2
  refine dsrc_zip I1 I2 hh F N trivial ⟨_, (N _ hm).1, rfl, k, rfl⟩ (fun h => nomatch h) (fun h => (N _ hm).2.1 (List.mem_singleton.mp h).symm) hkind ha hb hab (by rw [hn]; exact fits) ?_ ?_ ?_ R
  · rintro i x v ⟨c, u, hc, rfl⟩ hv
    refine ⟨fun t _ => [(a, .str ⟨#[c]⟩ t), (b, v)], u, 0, ?_, rfl⟩
    rw [List.getElem?_map, bls_get _ _ _ i c v (by rw [Array.getElem?_toList]; exact hc) (by simpa using hv)]
    rfl
  · rw [List.length_zipWith, Array.length_toList, hn, Nat.min_self]
  · intro p hp t u
    obtain ⟨i, hi, rfl⟩ := List.mem_iff_getElem.mp hp
    rw [List.getElem_zipWith]
    exact ⟨t, by simp⟩
/-- zip(ahead, str(ring)) -/
theorem dsrc_zip_ss {y z : Str} {t t' : Tok} {a b : Str} {pa pb tp : Pos} {kk : Nat} {Fin : Shared → List (Str × Value) → List (Addr × Obj) → Prop} (hh : A.handled = none)
    (F : Fr h₀ L s.heap m) (N : News h₀ L s.heap news) (hn : y.cps.size = z.cps.size) (hkind : scope.kind = .function) (ha : scope.names.lookup a = some .local) (hb : scope.names.lookup b = some .local) (hab : ¬ a = b) (fits : y.cps.size ≤ sizeLine)
    (R : ∀ g tk, DTurns prog w A h₀ L m env elt scope cl { s with heap := g, toks := tk } (Fin { s with heap := g, toks := tk }) (List.zipWith (fun c d => (⟨#[c]⟩, fun t u => [(a, .str ⟨#[c]⟩ t), (b, .str ⟨#[d]⟩ u)])) y.cps.toList z.cps.toList) [] news) :
    wpAny (model prog w) A (call (.type "zip") [.str y t, .str z t']) (fun xv s₁ => wpAny (model prog w) A (pyIter xv) (DSrc prog w A h₀ L m env a elt (.Tuple [.Name a pa, .Name b pb] kk tp) scope cl Fin) E s₁) E s := by
  have I1 := Itb.str (prog := prog) (w := w) y t
  have I2 := Itb.str (prog := prog) (w := w) z t'
  rw [← hn] at I2
  refine dsrc_zip I1 I2 hh F N trivial trivial (fun h => nomatch h) (fun h => nomatch h) hkind ha hb hab fits ?_ ?_ ?_ R
  · rintro i x v ⟨c, u, hc, rfl⟩ ⟨d, u', hd, rfl⟩
    refine ⟨fun t u => [(a, .str ⟨#[c]⟩ t), (b, .str ⟨#[d]⟩ u)], u, u', ?_, rfl⟩
    rw [List.getElem?_map, bls_get _ _ _ i c d (by rw [Array.getElem?_toList]; exact hc) (by rw [Array.getElem?_toList]; exact hd)]
    rfl
  · rw [List.length_zipWith, Array.length_toList, Array.length_toList, hn, Nat.min_self]
  · intro p hp t u
    obtain ⟨i, hi, rfl⟩ := List.mem_iff_getElem.mp hp
    rw [List.getElem_zipWith]
    exact ⟨t, by simp⟩
noncomputable def enumBl (a b : Str) : Nat → List Value → List Bl
  | _, [] => []
  | i, v :: r => (fun t _ => [(a, .int (i : Int) t), (b, v)]) :: enumBl a b (i + 1) r
theorem enumBl_length (a b : Str) : ∀ (vs : List Value) (i : Nat), (enumBl a b i vs).length = vs.length
  | [], _ => rfl
  | _ :: r, i => congrArg (· + 1) (enumBl_length a b r (i + 1))
theorem enumBl_get (a b : Str) : ∀ (vs : List Value) (j i : Nat) (v : Value), vs[i]? = some v → (enumBl a b j vs)[i]? = some (fun t _ => [(a, .int ((j + i : Nat) : Int) t), (b, v)])
  | [], _, _, _, h => by simp at h
  | x :: r, j, 0, v, h => by
    have e : x = v := by simpa using h
    subst e
    rfl
  | x :: r, j, i + 1, v, h => by
    have q := enumBl_get a b r (j + 1) i v (by simpa using h)
    have e : j + 1 + i = j + (i + 1) := by omega
    rw [e] at q
    simpa [enumBl] using q
theorem lsrc_enumK {l : Addr} {vs : List Value} {k : Nat} {a b : Str} {pa pb tp : Pos} {kk : Nat} {Fin : Shared → List Value → List (Addr × Obj) → Prop} (hh : A.handled = none)
    (F : Fr h₀ L s.heap m) (N : News h₀ L s.heap news) (hm : (l, ({ cls := .type "list", data := .seq vs.toArray k } : Obj)) ∈ news) (hkind : scope.kind = .function) (ha : scope.names.lookup a = some .local) (hb : scope.names.lookup b = some .local) (hab : ¬ a = b) (fits : vs.length ≤ sizeLine)
    (R : ∀ g tk, LTurns prog w A h₀ L m env elt scope cl { s with heap := g, toks := tk } (Fin { s with heap := g, toks := tk }) (enumBl a b 0 vs) [] news) :
    wpAny (model prog w) A (call (.type "enumerate") [.ref l]) (fun xv s₁ => wpAny (model prog w) A (pyIter xv) (LSrc prog w A h₀ L m env elt (.Tuple [.Name a pa, .Name b pb] kk tp) scope cl Fin) E s₁) E s :=
  lsrc_enum hh F N hm hkind ha hb hab fits (fun i t y h => ⟨_, t, 0, enumBl_get a b vs 0 i y h, by simp⟩) (enumBl_length a b vs 0) R
end
section
variable {prog : Program} {w : World} {A : Around} {h₀ : Heap} {L : Addr} {m : Str → Option Value} {env : Env} {elt : Expr} {scope : Scope} {cl : List (Str × Addr)} {s : Shared}
theorem LTurns.nil {Fin : List Value → List (Addr × Obj) → Prop} {ys : List Value} {news : List (Addr × Obj)} (h : Fin ys news) : LTurns prog w A h₀ L m env elt scope cl s Fin [] ys news := h
theorem LTurns.cons {Fin : List Value → List (Addr × Obj) → Prop} {f : Bl} {r : List Bl} {ys : List Value} {news : List (Addr × Obj)}
    (h : ∀ t u C oC mC D h tk nw (E' : Value → Shared → Prop), NsObj oC mC → (∀ p ∈ f t u, mC p.1 = some p.2) → Fr h₀ L h m → News h₀ L h nw → (C, oC) ∈ nw → (D, lst ys) ∈ nw → Sub news nw →
      wpAny (model prog w) A (eval elt (compEnvC scope cl C env)) (EltEnd h₀ L m { s with heap := h, toks := tk } nw fun y pre => LTurns prog w A h₀ L m env elt scope cl s Fin r (ys ++ [y]) (pre ++ news)) E' { s with heap := h, toks := tk }) :
    LTurns prog w A h₀ L m env elt scope cl s Fin (f :: r) ys news := h
theorem DTurns.nil {Fin : List (Str × Value) → List (Addr × Obj) → Prop} {kvs : List (Str × Value)} {news : List (Addr × Obj)} (h : Fin kvs news) : DTurns prog w A h₀ L m env elt scope cl s Fin [] kvs news := h
theorem DTurns.cons {Fin : List (Str × Value) → List (Addr × Obj) → Prop} {f : Str × Bl} {r : List (Str × Bl)} {kvs : List (Str × Value)} {news : List (Addr × Obj)}
    (h : ∀ t u C oC mC D oD h tk nw (E' : Value → Shared → Prop), NsObj oC mC → (∀ p ∈ f.2 t u, mC p.1 = some p.2) → Fr h₀ L h m → News h₀ L h nw → (C, oC) ∈ nw → (D, oD) ∈ nw → oD.IsDictOf (PySem.strKind prog w) kvs → Sub news nw →
      wpAny (model prog w) A (eval elt (compEnvC scope cl C env)) (EltEnd h₀ L m { s with heap := h, toks := tk } nw fun y pre => DTurns prog w A h₀ L m env elt scope cl s Fin r (stored kvs f.1 y) (pre ++ news)) E' { s with heap := h, toks := tk }) :
    DTurns prog w A h₀ L m env elt scope cl s Fin (f :: r) kvs news := h
/-- the turns under a name: what stands behind them is said once -/
def LT (T : List Bl → List Value → List (Addr × Obj) → Prop) (bs : List Bl) (ys : List Value) (news : List (Addr × Obj)) : Prop := T bs ys news
def DT (T : List (Str × Bl) → List (Str × Value) → List (Addr × Obj) → Prop) (bs : List (Str × Bl)) (kvs : List (Str × Value)) (news : List (Addr × Obj)) : Prop := T bs kvs news
theorem LT.intro {Fin : List Value → List (Addr × Obj) → Prop} {bs : List Bl} {ys : List Value} {news : List (Addr × Obj)}
    (k : ∀ T, (∀ ys news, Fin ys news → LT T [] ys news) → (∀ f r ys news, (∀ t u C oC mC D h tk nw (E' : Value → Shared → Prop), NsObj oC mC → (∀ p ∈ f t u, mC p.1 = some p.2) → Fr h₀ L h m → News h₀ L h nw → (C, oC) ∈ nw → (D, lst ys) ∈ nw → Sub news nw →
      wpAny (model prog w) A (eval elt (compEnvC scope cl C env)) (EltEnd h₀ L m { s with heap := h, toks := tk } nw fun y pre => LT T r (ys ++ [y]) (pre ++ news)) E' { s with heap := h, toks := tk }) → LT T (f :: r) ys news) → LT T bs ys news) :
    LTurns prog w A h₀ L m env elt scope cl s Fin bs ys news := k (LTurns prog w A h₀ L m env elt scope cl s Fin) (fun _ _ h => h) fun _ _ _ _ h => h
theorem DT.intro {Fin : List (Str × Value) → List (Addr × Obj) → Prop} {bs : List (Str × Bl)} {kvs : List (Str × Value)} {news : List (Addr × Obj)}
    (k : ∀ T, (∀ kvs news, Fin kvs news → DT T [] kvs news) → (∀ x f r kvs news, (∀ t u C oC mC D oD h tk nw (E' : Value → Shared → Prop), NsObj oC mC → (∀ p ∈ f t u, mC p.1 = some p.2) → Fr h₀ L h m → News h₀ L h nw → (C, oC) ∈ nw → (D, oD) ∈ nw → oD.IsDictOf (PySem.strKind prog w) kvs → Sub news nw →
      wpAny (model prog w) A (eval elt (compEnvC scope cl C env)) (EltEnd h₀ L m { s with heap := h, toks := tk } nw fun y pre => DT T r (stored kvs x y) (pre ++ news)) E' { s with heap := h, toks := tk }) → DT T ((x, f) :: r) kvs news) → DT T bs kvs news) :
    DTurns prog w A h₀ L m env elt scope cl s Fin bs kvs news := k (DTurns prog w A h₀ L m env elt scope cl s Fin) (fun _ _ h => h) fun _ _ _ _ _ h => h
theorem bound_one {mC : Str → Option Value} {x : Str} {v : Value} (h : ∀ p ∈ [(x, v)], mC p.1 = some p.2) : mC x = some v := h _ List.mem_cons_self
theorem bound_two {mC : Str → Option Value} {x y : Str} {v u : Value} (h : ∀ p ∈ [(x, v), (y, u)], mC p.1 = some p.2) : mC x = some v ∧ mC y = some u := ⟨h _ List.mem_cons_self, h _ (List.mem_cons_of_mem _ List.mem_cons_self)⟩
end
end Mine
end
section
open PySem PySem.Spec PySem.Calls PySem.W PyProof.Rows PySem.Flt PyProof.Rows.LCg
set_option maxRecDepth 100000
namespace Mine
/-- the ledger thinned out, and the order of the addresses -/
theorem news_sub {h₀ h : Heap} {L : Addr} {a b : List (Addr × Obj)} (N : News h₀ L h b) (s : Sub a b) : News h₀ L h a := fun p hp => N p (s p hp)
theorem Sub.keep {q : Addr × Obj} {a b : List (Addr × Obj)} (s : Sub a b) : Sub (q :: a) (q :: b) := fun p hp => by
  cases hp with
  | head => exact List.mem_cons_self
  | tail _ hp => exact List.mem_cons_of_mem _ (s p hp)
theorem Sub.skip {q : Addr × Obj} {a b : List (Addr × Obj)} (s : Sub a b) : Sub a (q :: b) := fun p hp => List.mem_cons_of_mem _ (s p hp)
theorem Sub.same {a : List (Addr × Obj)} : Sub a a := fun _ hp => hp
theorem Sub.cons {q : Addr × Obj} {a b : List (Addr × Obj)} (h : q ∈ b) (s : Sub a b) : Sub (q :: a) b := fun p hp => by
  cases hp with
  | head => exact h
  | tail _ hp => exact s p hp
theorem allLt_all {d : Addr} {l : List (Addr × Obj)} : AllLt d l → ∀ p ∈ l, p.1 < d := by
  induction l with
  | nil => exact fun _ _ hq => nomatch hq
  | cons p r ih =>
    intro h q hq
    cases hq with
    | head => exact h.1
    | tail _ hq => exact ih h.2 q hq
/-- the part of a turned paint is a whole number -/
def Part (U : UInt64) (x : Int) : Prop := Float64.isNaN (Float64.add (Float64.mul U 4661225614328463360) 4602678819172646912) = false ∧ Float64.isInf (Float64.add (Float64.mul U 4661225614328463360) 4602678819172646912) = false ∧ ci U = x
def TurnOk (r g b n x y z : Int) : Prop :=
  HsvOk (fl r) (fl g) (fl b) ∧ ∀ X Y Z, (X, Y, Z) = hsvF (fl r) (fl g) (fl b) → RgbOk (Float64.add X (Float64.div (Float64.ofInt n) 4618441417868443648)) Y Z ∧
    ∀ U V W, (U, V, W) = rgbF (Float64.add X (Float64.div (Float64.ofInt n) 4618441417868443648)) Y Z → Part U x ∧ Part V y ∧ Part W z
end Mine
end
section
open PySem PySem.Spec PySem.Calls PySem.W PyProof.Rows
set_option maxRecDepth 100000
set_option maxHeartbeats 4000000
namespace Mine
/-- a code's table of inner codes -/
noncomputable abbrev tabOf (ps : Array Value) : Obj := { cls := .none, data := .fields ps }
/-- the base without the two tables that grow -/
noncomputable def hid (h : Heap) : Heap := hideAll h [23, 98]
theorem hid_get {h : Heap} {b : Addr} {o : Obj} (e : h.get? b = some o) (h1 : b ≠ 23) (h2 : b ≠ 98) : (hid h).get? b = some o := hideAll_get _ e (by simp [h1, h2])
theorem hid_size (h : Heap) : (hid h).objs.size = h.objs.size := hideAll_size _ _
theorem hid_23 (h : Heap) : (hid h).get? 23 = none := hideAll_none _ (by simp)
theorem hid_98 (h : Heap) : (hid h).get? 98 = none := hideAll_none _ (by simp)
section
variable {h₀ h : Heap} {L : Addr} {m mg mb : Str → Option Value} {news : List (Addr × Obj)} {w : World}
theorem hid_fr (F : Fr h₀ L h m) : Fr (hid h₀) L h m := ⟨F.ns, fun b o e => F.keep b o (of_hideAll _ e), by rw [hid_size]; exact F.above⟩
theorem hid_news (N : News h₀ L h news) : News (hid h₀) L h news := fun p hp => ⟨(N p hp).1, (N p hp).2.1, by
  cases q : (hid h₀).get? p.1 with
  | none => rfl
  | some o => have := of_hideAll _ q; rw [(N p hp).2.2] at this; cases this⟩
theorem hid_tabs {a b : Array Value} (F : Fr h₀ L h m) (N : News h₀ L h news) (e1 : h₀.get? 23 = some (tabOf a)) (e2 : h₀.get? 98 = some (tabOf b)) : News (hid h₀) L h ((23, tabOf a) :: (98, tabOf b) :: news) := by
  intro p hp
  cases hp with
  | head => exact ⟨F.keep _ _ e1, Nat.ne_of_lt (Nat.lt_of_lt_of_le (Heap.lt_size e1) F.above), hid_23 _⟩
  | tail _ hp =>
    cases hp with
    | head => exact ⟨F.keep _ _ e2, Nat.ne_of_lt (Nat.lt_of_lt_of_le (Heap.lt_size e2) F.above), hid_98 _⟩
    | tail _ hp => exact hid_news N p hp
theorem hid_ns {a : Addr} {a1 b1 : Array Value} (e1 : h₀.get? 23 = some (tabOf a1)) (e2 : h₀.get? 98 = some (tabOf b1)) (n : h₀.Ns a m) : (hid h₀).Ns a m := by
  obtain ⟨o, es, ep, ho, hd, r⟩ := n
  refine ⟨o, es, ep, hid_get ho ?_ ?_, hd, r⟩
  · rintro rfl; rw [e1] at ho; cases ho; cases hd
  · rintro rfl; rw [e2] at ho; cases ho; cases hd
theorem hid_in (X : (hd.heap_1 w.params).In h₀) : (hd.heap_1 w.params).In (hid h₀) := by
  intro a o e
  refine hid_get (X a o e) ?_ ?_
  · rintro rfl
    have z : List.lookup 23 (hd.heap_1 w.params) = none := by kernel_rfl
    rw [z] at e; cases e
  · rintro rfl
    have z : List.lookup 98 (hd.heap_1 w.params) = none := by kernel_rfl
    rw [z] at e; cases e
/-- a view of the program that holds nothing -/
noncomputable def pv0 : Program := { (default : Program) with main := { (default : Program).main with body := [.Import [{ name := "sys", asname := none, pos := default }] default] } }
noncomputable def lo0 (p : Program) (lo : List Str) : List Str := lo ++ (recsOf p).map (·.name) ++ (litsOf p).map (·.1) ++ (clssOf p lo).map (·.name)
theorem hid_top {p : Program} {lo : List Str} {mean : ExcName → Option Value} {a1 b1 : Array Value} (e1 : h₀.get? 23 = some (tabOf a1)) (e2 : h₀.get? 98 = some (tabOf b1)) (T : Top p lo mean mg mb h₀) : Top pv0 (lo0 p lo) mean mg mb (hid h₀) where
  g := hid_ns e1 e2 T.g
  b := hid_ns e1 e2 T.b
  nolimit := let ⟨mc, h1, h2⟩ := T.nolimit; ⟨mc, hid_ns e1 e2 h1, h2⟩
  nodigits := let ⟨mc, h1, h2⟩ := T.nodigits; ⟨mc, hid_ns e1 e2 h1, h2⟩
  fn := fun d hd => nomatch (show d ∈ ([] : List DefRec) from hd)
  own := fun o ho => nomatch (show o ∈ ([] : List OwnSpec) from ho)
  const := fun x d e => nomatch (show (none : Option PyData) = some d from e)
  free := fun x h1 h2 _ _ _ => by
    simp only [lo0, List.mem_append, not_or] at h2
    exact T.free x h1 h2.1.1.1 h2.1.1.2 h2.1.2 h2.2
  builtins := T.builtins
  tab := fun d hd => nomatch (show d ∈ ([] : List DefRec) from hd)
  bmain := by
    obtain ⟨bm, ob, h1, h2, h3, h4, r⟩ := T.bmain
    refine ⟨bm, ob, h1, h2, hid_get h3 ?_ ?_, h4, r⟩
    · rintro rfl; rw [e1] at h3; cases h3; cases h4
    · rintro rfl; rw [e2] at h3; cases h3; cases h4
  seer := fun e => by
    have : importsNone pv0 = false := by decide +kernel
    rw [this] at e; cases e
theorem hid_below : Below callerA (hid h₀) [] (hid h₀) := below_caller _
end
end Mine
end
section
open PySem PySem.Spec PySem.Calls PySem.W PyProof.Rows PySem.Flt PyProof.Rows.LCg
set_option maxRecDepth 100000
namespace Mine
/-- the walk stops here, at once -/
def Stop (p : Prop) : Prop := p
/-- a fact that the turns must not sweep away -/
def KeepD (p : Prop) : Prop := p
theorem KeepD.intro {p : Prop} (h : p) : KeepD p := h
theorem KeepD.out {p : Prop} (h : KeepD p) : p := h
theorem Stop.intro {p : Prop} (h : p) : Stop p := h
theorem Stop.out {p : Prop} (h : Stop p) : p := h
theorem EltEnd.oneR {h₀ : Heap} {L : Addr} {m : Str → Option Value} {s : Shared} {nw : List (Addr × Obj)} {rest : Value → List (Addr × Obj) → Prop} {h' : Heap} {tk : Nat} {a : Addr} {o : Obj} (F : Fr h₀ L h' m) (N : News h₀ L h' ((a, o) :: nw)) (l : ∀ p ∈ nw, p.1 < a) (r : rest (.ref a) [(a, o)]) : EltEnd h₀ L m s nw rest (.ref a) { s with heap := h', toks := tk } := EltEnd.one F N l r
theorem EltEnd.drop1 {h₀ : Heap} {L : Addr} {m : Str → Option Value} {s : Shared} {nw : List (Addr × Obj)} {rest : Value → List (Addr × Obj) → Prop} {y : Value} {h' : Heap} {tk : Nat} {p : Addr × Obj} (F : Fr h₀ L h' m) (N : News h₀ L h' (p :: nw)) (r : rest y []) : EltEnd h₀ L m s nw rest y { s with heap := h', toks := tk } := EltEnd.none F (fun q hq => N q (List.mem_cons_of_mem _ hq)) r
section
variable {h₀ : Heap} {L : Addr} {m : Str → Option Value} {s : Shared} {nw news : List (Addr × Obj)} {h' : Heap} {tk : Nat} {a : Addr} {o : Obj} {q : Addr × Obj} {y : Value}
theorem LT.one {T : List Bl → List Value → List (Addr × Obj) → Prop} {bs : List Bl} {g : Value → List Value} (F : Fr h₀ L h' m) (N : News h₀ L h' ((a, o) :: nw)) (l : ∀ p ∈ nw, p.1 < a) (r : LT T bs (g (.ref a)) ((a, o) :: news)) : EltEnd h₀ L m s nw (fun y pre => LT T bs (g y) (pre ++ news)) (.ref a) { s with heap := h', toks := tk } := EltEnd.one F N l r
theorem LT.none {T : List Bl → List Value → List (Addr × Obj) → Prop} {bs : List Bl} {g : Value → List Value} (F : Fr h₀ L h' m) (N : News h₀ L h' nw) (r : LT T bs (g y) news) : EltEnd h₀ L m s nw (fun y pre => LT T bs (g y) (pre ++ news)) y { s with heap := h', toks := tk } := EltEnd.none F N r
theorem LT.drop {T : List Bl → List Value → List (Addr × Obj) → Prop} {bs : List Bl} {g : Value → List Value} (F : Fr h₀ L h' m) (N : News h₀ L h' (q :: nw)) (r : LT T bs (g y) news) : EltEnd h₀ L m s nw (fun y pre => LT T bs (g y) (pre ++ news)) y { s with heap := h', toks := tk } := EltEnd.drop1 F N r
theorem DT.one {T : List (Str × Bl) → List (Str × Value) → List (Addr × Obj) → Prop} {bs : List (Str × Bl)} {g : Value → List (Str × Value)} (F : Fr h₀ L h' m) (N : News h₀ L h' ((a, o) :: nw)) (l : ∀ p ∈ nw, p.1 < a) (r : DT T bs (g (.ref a)) ((a, o) :: news)) : EltEnd h₀ L m s nw (fun y pre => DT T bs (g y) (pre ++ news)) (.ref a) { s with heap := h', toks := tk } := EltEnd.one F N l r
theorem DT.none {T : List (Str × Bl) → List (Str × Value) → List (Addr × Obj) → Prop} {bs : List (Str × Bl)} {g : Value → List (Str × Value)} (F : Fr h₀ L h' m) (N : News h₀ L h' nw) (r : DT T bs (g y) news) : EltEnd h₀ L m s nw (fun y pre => DT T bs (g y) (pre ++ news)) y { s with heap := h', toks := tk } := EltEnd.none F N r
theorem DT.drop {T : List (Str × Bl) → List (Str × Value) → List (Addr × Obj) → Prop} {bs : List (Str × Bl)} {g : Value → List (Str × Value)} (F : Fr h₀ L h' m) (N : News h₀ L h' (q :: nw)) (r : DT T bs (g y) news) : EltEnd h₀ L m s nw (fun y pre => DT T bs (g y) (pre ++ news)) y { s with heap := h', toks := tk } := EltEnd.drop1 F N r
end
section
variable {prog : Program} {w : World} {A : Around} {E : Value → Shared → Prop} {s : Shared} {h₀ : Heap} {L : Addr} {m : Str → Option Value} {env : Env} {elt : Expr} {scope : Scope} {cl : List (Str × Addr)} {news : List (Addr × Obj)}
/-- a list of pairs, each in the ledger -/
inductive Tups (news : List (Addr × Obj)) : List Value → List (Value × Value) → Prop
  | nil : Tups news [] []
  | cons {T : Addr} {x y : Value} {k : Nat} {vs : List Value} {ps : List (Value × Value)} : (T, ({ cls := .type "tuple", data := .seq #[x, y] k } : Obj)) ∈ news → Tups news vs ps → Tups news (.ref T :: vs) ((x, y) :: ps)
theorem Tups.length {vs : List Value} {ps : List (Value × Value)} (h : Tups news vs ps) : vs.length = ps.length := by induction h with | nil => rfl | cons _ _ ih => simp [ih]
theorem Tups.get {vs : List Value} {ps : List (Value × Value)} (h : Tups news vs ps) : ∀ (i : Nat) (v : Value), vs[i]? = some v → ∃ T x y k, v = .ref T ∧ ps[i]? = some (x, y) ∧ (T, ({ cls := .type "tuple", data := .seq #[x, y] k } : Obj)) ∈ news := by
  induction h with
  | nil => intro i v h; simp at h
  | cons hm _ ih =>
    intro i v h
    cases i with
    | zero => exact ⟨_, _, _, _, by simpa using h.symm, rfl, hm⟩
    | succ i => exact ih i v (by simpa using h)
theorem lsrc_pairs {l : Addr} {vs : List Value} {ps : List (Value × Value)} {k : Nat} {a b : Str} {pa pb tp : Pos} {kk : Nat} {Fin : Shared → List Value → List (Addr × Obj) → Prop} (hh : A.handled = none)
    (F : Fr h₀ L s.heap m) (N : News h₀ L s.heap news) (hm : (l, ({ cls := .type "list", data := .seq vs.toArray k } : Obj)) ∈ news) (ht : Tups news vs ps) (hkind : scope.kind = .function) (ha : scope.names.lookup a = some .local) (hb : scope.names.lookup b = some .local) (hab : ¬ a = b) (fits : vs.length ≤ sizeLine)
    (R : ∀ g tk, LTurns prog w A h₀ L m env elt scope cl { s with heap := g, toks := tk } (Fin { s with heap := g, toks := tk }) (ps.map fun p _ _ => [(a, p.1), (b, p.2)]) [] news) :
    wpAny (model prog w) A (pyIter (.ref l)) (LSrc prog w A h₀ L m env elt (.Tuple [.Name a pa, .Name b pb] kk tp) scope cl Fin) E s := by
  have hl : s.heap.IsList l vs.toArray := ⟨_, (N _ hm).1, rfl, k, rfl⟩
  have hlt : l < s.heap.objs.size := Heap.lt_size (N _ hm).1
  refine wpAny_pyIter_list hl ?_
  have W := Walks.list (prog := prog) (w := w) hh s.heap.objs.size l (Nat.ne_of_lt hlt) vs.toArray
  have up : ∀ b o, s.heap.get? b = some o → (s.heap.push { cls := .type "list_iterator", data := .fields #[.ref l, .int 0 0] }).get? b = some o := fun b o e => Heap.get?_push_of_some _ e
  have hfr : h₀.get? s.heap.objs.size = none := next_is_new F
  let fp : List Addr := s.heap.objs.size :: l :: news.map (·.1)
  let St : Nat → Heap → Prop := fun i h => (h.IsListIter s.heap.objs.size l i ∧ h.IsList l vs.toArray) ∧ ∀ p ∈ news, h.get? p.1 = some p.2
  have keep : ∀ (h h' : Heap), (∀ b ∈ fp, ∀ o, h.get? b = some o → h'.get? b = some o) → (∀ p ∈ news, h.get? p.1 = some p.2) → ∀ p ∈ news, h'.get? p.1 = some p.2 := fun h h' hk hn p hp => hk _ (.tail _ (.tail _ (List.mem_map_of_mem hp))) _ (hn p hp)
  have offI : ∀ p ∈ news, p.1 ≠ s.heap.objs.size := fun p hp => Nat.ne_of_lt (Heap.lt_size (N p hp).1)
  have KT : KTurns prog w A (.Tuple [.Name a pa, .Name b pb] kk tp) s.heap.objs.size fp [s.heap.objs.size] vs.length
      (fun i v h => ∃ T x y k', v = .ref T ∧ ps[i]? = some (x, y) ∧ h.get? T = some { cls := .type "tuple", data := .seq #[x, y] k' })
      (fun i v h => (∃ T x y k', v = .ref T ∧ ps[i]? = some (x, y) ∧ h.get? T = some { cls := .type "tuple", data := .seq #[x, y] k' }) ∧ St (i + 1) h) St := {
    sub := fun b hb => by rw [List.mem_singleton.mp hb]; exact List.mem_cons_self
    frame := fun i h h' st hk => ⟨W.frame i h h' st.1 fun b hb o e => hk b (by simp at hb; rcases hb with rfl | rfl <;> simp [fp]) o e, keep h h' hk st.2⟩
    item := fun i s' Q E hi st hQ => W.item i s' Q E (by simpa using hi) st.1 fun v h' tk hP st' hk => by
      have hn' : ∀ p ∈ news, h'.get? p.1 = some p.2 := fun p hp => hk _ _ (fun q => offI p hp (List.mem_singleton.mp q)) (st.2 p hp)
      obtain ⟨T, x, y, k', rfl, hp, hm'⟩ := ht.get i v (by simpa using hP)
      exact hQ _ h' tk ⟨⟨T, x, y, k', rfl, hp, hn' _ hm'⟩, st', hn'⟩ hk
    go := fun i v s' Q E hm hQ => by
      obtain ⟨⟨T, x, y, k', rfl, hp, hT⟩, st⟩ := hm
      exact wpAny_letOwnedTupleGo_listiter st.1.1 (hQ s'.heap ⟨T, x, y, k', rfl, hp, hT⟩ st fun _ _ _ e => e)
    done := fun s' Q E st hQ => W.done s' Q E (by simpa using st.1) hQ }
  refine ⟨s.heap.objs.size, fp, [s.heap.objs.size], vs.length, _, _, St, bndOf (ps.map fun p _ _ => [(a, p.1), (b, p.2)]), news, rfl,
    { turns := KT, self := fun s' Q E st q => W.self 0 s' Q E st.1 q, alive := fun i h st b hb => ?_, fits := fits, notL := fun hL => ?_, fresh := fun b hb => ?_, bind := fun i v C s' mC Q E hv hn hQ => ?_ },
    ⟨⟨⟨_, Heap.get?_push_size _ rfl, rfl, rfl⟩, hl.push _⟩, fun p hp => up _ _ (N p hp).1⟩, fun b hb => ?_, F.push _, fun p hp => ⟨up _ _ (N p hp).1, (N p hp).2⟩, fun p hp hw => offI p hp (List.mem_singleton.mp hw), ?_⟩
  · rw [List.mem_singleton.mp hb]; exact ⟨_, st.1.1.choose_spec.1⟩
  · rcases List.mem_cons.mp hL with e | hL
    · exact absurd F.ns.lt (by rw [e]; exact Nat.lt_irrefl _)
    rcases List.mem_cons.mp hL with e | hL
    · exact (N _ hm).2.1 e.symm
    · obtain ⟨p, hp, e⟩ := List.mem_map.mp hL
      exact (N p hp).2.1 e
  · rw [List.mem_singleton.mp hb]; exact hfr
  · obtain ⟨T, x, y, k', rfl, hp, hT⟩ := hv
    refine kcp_assign (env := compEnvC scope cl C env) hh (s := s') ⟨_, hT, rfl, k', rfl⟩ (lookup_relabel_local ha) (lookup_relabel_local hb) (by simp [compEnvC, relabel, hkind]) hn fun h' tk hn' hk' => ?_
    exact hQ [(a, x), (b, y)] h' tk _ ⟨fun _ _ => [(a, x), (b, y)], 0, 0, by rw [List.getElem?_map, hp]; rfl, rfl⟩ hn' (by simp [hab]) hk'
  · show b < (s.heap.push _).objs.size
    rw [Heap.size_push]
    rcases List.mem_cons.mp hb with rfl | hb
    · exact Nat.lt_succ_self _
    rcases List.mem_cons.mp hb with rfl | hb
    · exact Nat.lt_succ_of_lt hlt
    · obtain ⟨p, hp, e⟩ := List.mem_map.mp hb
      rw [← e]; exact Nat.lt_succ_of_lt (Heap.lt_size (N p hp).1)
  · exact LTurns.rest _ vs.length 0 [] news (by simp [ht.length]) (by rw [List.drop_zero]; exact R _ s.toks)
theorem sum_lst {l : Addr} {vs : List Value} {k : Nat} {ns : List Int} {Q : Value → Shared → Prop} (hh : A.handled = none) (F : Fr h₀ L s.heap m) (N : News h₀ L s.heap news) (hm : (l, ({ cls := .type "list", data := .seq vs.toArray k } : Obj)) ∈ news) (hi : IntsAre vs ns)
    (h : ∀ h' tk t', Fr h₀ L h' m → News h₀ L h' news → Q (.int ns.sum t') { s with heap := h', toks := tk }) :
    wpAny (model prog w) A (call (.builtin "sum") [.ref l]) Q E s := sumK hh F N ⟨_, (N _ hm).1, rfl, k, rfl⟩ hi h
end
end Mine
end
section
open PySem PySem.Spec PySem.Calls PySem.W PyProof.Rows
namespace Mine
/-- no generator is left with work to do, if none was -/
def Bare2 (a b : Array GenState) : Prop := AllBare a → AllBare b
theorem Bare2.refl (a : Array GenState) : Bare2 a a := fun h => h
theorem Bare2.trans {a b c : Array GenState} (h : Bare2 a b) (k : Bare2 b c) : Bare2 a c := fun x => k (h x)
end Mine
end
section
open PySem PySem.Spec PySem.Calls PySem.W PyProof.Rows PyProof.V
set_option maxRecDepth 100000
set_option maxHeartbeats 4000000
namespace Mine
section
variable {prog : Program} {w : World} {A : Around} {E : Value → Shared → Prop} {s : Shared} {env : Env} {h₀ : Heap} {target : Expr} {body : List Stmt} {Q : Flow → Shared → Prop}
inductive GNext (h₀ : Heap) (L : Addr) (wr : List Addr) (own : List (Addr × Obj)) (Jn : (Str → Option Value) → List (Addr × Obj) → Prop) (s₁ : Shared) (s₂ : Shared) : Prop
  | mk (h' : Heap) (tk : Nat) (g' : Array GenState) (m₂ : Str → Option Value) (news₂ : List (Addr × Obj)) (e : s₂ = { s₁ with heap := h', toks := tk, gens := g' }) (bb : Bare2 s₁.gens g') (F : Fr h₀ L h' m₂) (N : News h₀ L h' (own ++ news₂)) (off : ∀ p ∈ news₂, p.1 ∉ wr) (J : Jn m₂ news₂)
/-- a for loop's turns, where the body may make generators -/
def GStep (h₀ : Heap) (L : Addr) (wr : List Addr) (own : List (Addr × Obj)) (Jn : (Str → Option Value) → List (Addr × Obj) → Prop) (s₁ : Shared) (Q : Flow → Shared → Prop) (f : Flow) (s₂ : Shared) : Prop :=
  match f with
  | .ret v => Q (.ret v) s₂
  | .brk => Q .next s₂
  | _ => GNext h₀ L wr own Jn s₁ s₂
inductive GAt (prog : Program) (w : World) (A : Around) (h₀ : Heap) (env : Env) (target : Expr) (body : List Stmt) (Q : Flow → Shared → Prop) (E : Value → Shared → Prop) (it : Value) (s₂ : Shared) : Prop
  | mk (I : Addr) (fp wr : List Addr) (n : Nat) (P Md : Nat → Value → Heap → Prop) (St : Nat → Heap → Prop) (m : Str → Option Value) (news : List (Addr × Obj)) (J : Nat → (Str → Option Value) → List (Addr × Obj) → Prop) (f0 : it = .ref I) (f1 : KTurns prog w A target I fp wr n P Md St) (f2 : env.locals ∉ fp) (f3 : (∀ b ∈ wr, h₀.get? b = none)) (f4 : (∀ p ∈ news, p.1 ∉ wr)) (f5 : St 0 s₂.heap) (f6 : Fr h₀ env.locals s₂.heap m) (f7 : News h₀ env.locals s₂.heap news) (f8 : J 0 m news) (f9 : (∀ i v m₁ news₁ h₁ tk₁ g₁ own, Bare2 s₂.gens g₁ → i < n → P i v h₁ → J i m₁ news₁ → (∀ p ∈ news₁, p.1 ∉ wr) → (∀ p ∈ own, p.1 ∈ fp) → (∀ p ∈ own, h₁.get? p.1 = some p.2) → (∀ b ∈ fp, h₀.get? b = none → ∀ o, h₁.get? b = some o → (b, o) ∈ own) → St (i + 1) h₁ →
      Fr h₀ env.locals h₁ m₁ → News h₀ env.locals h₁ (own ++ news₁) →
      wpAny (model prog w) A (assign target env v) (fun _ s₃ => wpAny (model prog w) A (execs body env)
        (GStep h₀ env.locals wr own (J (i + 1)) { s₂ with heap := h₁, toks := tk₁, gens := g₁ } Q) E s₃) E { s₂ with heap := h₁, toks := tk₁, gens := g₁ })) (f10 : ∀ h' tk g' m' news', Bare2 s₂.gens g' → Fr h₀ env.locals h' m' → News h₀ env.locals h' news' → (∀ p ∈ news', p.1 ∉ wr) → J n m' news' → Q .next { s₂ with heap := h', toks := tk, gens := g' })
inductive GInv (h₀ : Heap) (L : Addr) (wr : List Addr) (s : Shared) (St : Nat → Heap → Prop) (J : Nat → (Str → Option Value) → List (Addr × Obj) → Prop) (n k : Nat) (s' : Shared) : Prop
  | mk (h' : Heap) (tk : Nat) (g' : Array GenState) (m' : Str → Option Value) (news' : List (Addr × Obj)) (i : Nat) (e : s' = { s with heap := h', toks := tk, gens := g' }) (bb : Bare2 s.gens g') (st : St i h') (F : Fr h₀ L h' m') (N : News h₀ L h' news') (off : ∀ p ∈ news', p.1 ∉ wr) (j : J i m' news') (hi : i ≤ n) (hk : k = n + 1 - i)
theorem g_loop {R : Result → Shared → Prop} {I : Addr} {fp wr : List Addr} {n : Nat} {P Md : Nat → Value → Heap → Prop} {St : Nat → Heap → Prop} {m : Str → Option Value} {news : List (Addr × Obj)} (W : KTurns prog w A target I fp wr n P Md St)
    (hLf : env.locals ∉ fp) (hwr : ∀ b ∈ wr, h₀.get? b = none) (hnw : ∀ p ∈ news, p.1 ∉ wr) (hst : St 0 s.heap) (F : Fr h₀ env.locals s.heap m) (N : News h₀ env.locals s.heap news)
    (J : Nat → (Str → Option Value) → List (Addr × Obj) → Prop) (h0 : J 0 m news)
    (step : ∀ i v m₁ news₁ h₁ tk₁ g₁ own, Bare2 s.gens g₁ → i < n → P i v h₁ → J i m₁ news₁ → (∀ p ∈ news₁, p.1 ∉ wr) → (∀ p ∈ own, p.1 ∈ fp) → (∀ p ∈ own, h₁.get? p.1 = some p.2) → (∀ b ∈ fp, h₀.get? b = none → ∀ o, h₁.get? b = some o → (b, o) ∈ own) → St (i + 1) h₁ →
      Fr h₀ env.locals h₁ m₁ → News h₀ env.locals h₁ (own ++ news₁) →
      wpAny (model prog w) A (assign target env v) (fun _ s₂ => wpAny (model prog w) A (execs body env)
        (GStep h₀ env.locals wr own (J (i + 1)) { s with heap := h₁, toks := tk₁, gens := g₁ } (fun f s' => R (.ok f) s')) (notedBy (model prog w) A env fun e s' => R (.error e) s') s₂) (notedBy (model prog w) A env fun e s' => R (.error e) s') { s with heap := h₁, toks := tk₁, gens := g₁ })
    (hR : ∀ h' tk g' m' news', Bare2 s.gens g' → Fr h₀ env.locals h' m' → News h₀ env.locals h' news' → (∀ p ∈ news', p.1 ∉ wr) → J n m' news' → R (.ok .next) { s with heap := h', toks := tk, gens := g' }) :
    codeAny (model prog w) A (.forLoop target (.ref I) body [] env) R s := by
  have hLw : env.locals ∉ wr := fun h => hLf (W.sub _ h)
  have old : ∀ b o, h₀.get? b = some o → b ∉ wr := fun b o e hb => by rw [hwr b hb] at e; cases e
  refine codeAny_forLoop_any
    (GInv h₀ env.locals wr s St J n) ?_ (n + 1)
    ⟨s.heap, s.toks, s.gens, m, news, 0, rfl, Bare2.refl _, hst, F, N, hnw, h0, Nat.zero_le _, rfl⟩
  rintro k s' ⟨h', tk, g', m', news', i, rfl, bb', hst', F', N', hnw', hJ, hi, rfl⟩
  have next : ∀ h₁ : Heap, (∀ b o, b ∉ wr → h'.get? b = some o → h₁.get? b = some o) → Fr h₀ env.locals h₁ m' ∧ News h₀ env.locals h₁ news' := fun h₁ hk₁ =>
    ⟨⟨F'.ns.at' fun o e => hk₁ _ o hLw e, fun b o e => hk₁ b o (old b o e) (F'.keep b o e), F'.above⟩, fun p hp => ⟨hk₁ _ _ (hnw' p hp) (N' p hp).1, (N' p hp).2⟩⟩
  by_cases hlt : i < n
  · refine W.item i _ _ _ hlt hst' fun v h₁ tk₁ hMd hk₁ => ?_
    refine W.go i v _ _ _ hMd fun h₂ hP hst₂ hk₂ => ?_
    obtain ⟨F₂, N₂⟩ := next h₂ fun b o hb x => hk₂ b o hb (hk₁ b o hb x)
    have Nown : News h₀ env.locals h₂ (PyProof.Rows.ownOf h₀ fp h₂) := news_ownOf hLf
    refine wpAny_mono (step i v m' news' h₂ tk₁ g' (PyProof.Rows.ownOf h₀ fp h₂) bb' hlt hP hJ hnw' ownOf_sub (fun p hp => (Nown p hp).1) (fun b hb hn o e => mem_ownOf hb hn e) hst₂ F₂ (Nown.append N₂)) (fun _ s₂ h₂' => wpAny_mono h₂' (fun f s₃ h₃ => ?_) fun _ _ e => e) fun _ _ e => e
    have fin : GNext h₀ env.locals wr (PyProof.Rows.ownOf h₀ fp h₂) (J (i + 1)) { s with heap := h₂, toks := tk₁, gens := g' } s₃ → ∃ k', k' < n + 1 - i ∧ GInv h₀ env.locals wr s St J n k' s₃ := by
      rintro ⟨h₃', tk₃, g₃, m₂, news₂, rfl, bb₃, F₃, N₃, ha₃, hJ₃⟩
      refine ⟨n + 1 - (i + 1), by omega, h₃', tk₃, g₃, m₂, news₂, i + 1, rfl, bb'.trans bb₃, ?_, F₃, N₃.right, ha₃, hJ₃, hlt, rfl⟩
      refine W.frame _ _ _ hst₂ fun b hb o e => ?_
      cases hn : h₀.get? b with
      | some o₀ =>
        have : o₀ = o := by have q := F₂.keep b o₀ hn; rw [e] at q; exact (Option.some.inj q).symm
        exact this ▸ F₃.keep b o₀ hn
      | none => exact (N₃ _ (List.mem_append_left _ (mem_ownOf hb hn e))).1
    cases f with
    | ret v => exact h₃
    | brk => exact h₃
    | cont => exact fin h₃
    | next => exact fin h₃
  · have hin : i = n := by omega
    subst hin
    refine W.done _ _ _ hst' fun h₁ tk₁ hk₁ => wpAny_execs_nil ?_
    obtain ⟨F₁, N₁⟩ := next h₁ hk₁
    exact hR h₁ tk₁ g' m' news' bb' F₁ N₁ hnw' hJ
theorem For_G {iter : Expr} {pos : Pos} {m : Str → Option Value} (_F : Fr h₀ env.locals s.heap m)
    (h : wpAny (model prog w) A (eval iter env) (fun xv s₁ => wpAny (model prog w) A (pyIter xv) (GAt prog w A h₀ env target body Q E) E s₁) E s)
    (hs : ∀ x, foldedSetIterable iter env x = pure x)
    (hE : PassesOwn (model prog w) A env E) :
    wpAny (model prog w) A (exec (.For target iter body [] pos) env) Q E s := by
  refine wpAny_For (wpAny_mono h (fun xv s₁ h₁ => wpAny_mono h₁ (fun it s₂ h₂ => ?_) fun _ _ e => e) fun _ _ e => e) hs
  obtain ⟨I, fp, wr, n, P, Md, St, m, news, J, rfl, W, hLf, hwr, hnw, hst, F, N, h0, step, hQ⟩ := h₂
  exact g_loop (R := fun r s' => match r with | .ok f => Q f s' | .error e => cameBackBy (model prog w) A env E e s') W hLf hwr hnw hst F N J h0
    (fun i v m₁ news₁ h₁ tk₁ g₁ own bb a b c d e f g st F₁ N₁ => wpAny_mono (step i v m₁ news₁ h₁ tk₁ g₁ own bb a b c d e f g st F₁ N₁) (fun _ _ x => wpAny_passesOwn hE x) hE) hQ
end
end Mine
end
section
open PySem PySem.Spec PySem.Calls PySem.W PyProof.Rows PyProof.V
set_option maxRecDepth 100000
set_option maxHeartbeats 4000000
namespace Mine
section
variable {prog : Program} {w : World} {A : Around} {E : Value → Shared → Prop} {s : Shared} {env : Env} {h₀ : Heap} {target : Expr} {body : List Stmt} {Q : Flow → Shared → Prop}
inductive GEnd (h₀ : Heap) (L : Addr) (s₁ : Shared) (its : List (Addr × Obj)) (rest : (Str → Option Value) → List (Addr × Obj) → Prop) (s₂ : Shared) : Prop
  | mk (h' : Heap) (tk : Nat) (g' : Array GenState) (m' : Str → Option Value) (news' : List (Addr × Obj)) (e : s₂ = { s₁ with heap := h', toks := tk, gens := g' }) (bb : Bare2 s₁.gens g') (F : Fr h₀ L h' m') (N : News h₀ L h' (its ++ news')) (off : ∀ p ∈ news', ∀ q ∈ its, p.1 ≠ q.1) (r : rest m' news')
def GPost (h₀ : Heap) (L : Addr) (s₁ : Shared) (its : List (Addr × Obj)) (rest : (Str → Option Value) → List (Addr × Obj) → Prop) (Q : Flow → Shared → Prop) (f : Flow) (s₂ : Shared) : Prop :=
  match f with
  | .ret v => Q (.ret v) s₂
  | .brk => Q .next s₂
  | _ => GEnd h₀ L s₁ its rest s₂
theorem GEnd.intro {L : Addr} {its all : List (Addr × Obj)} {rest : (Str → Option Value) → List (Addr × Obj) → Prop} {s₁ : Shared} {h' : Heap} {tk : Nat} {g' : Array GenState} {m' : Str → Option Value} (F : Fr h₀ L h' m') (N : News h₀ L h' all) (bb : Bare2 s₁.gens g') (news' : List (Addr × Obj))
    (hI : ∀ p ∈ its, p ∈ all) (sub : ∀ p ∈ news', p ∈ all) (off : ∀ p ∈ news', ∀ q ∈ its, p.1 ≠ q.1) (r : rest m' news') : GEnd h₀ L s₁ its rest { s₁ with heap := h', toks := tk, gens := g' } :=
  ⟨h', tk, g', m', news', rfl, bb, F, fun p hp => by
    rcases List.mem_append.mp hp with hp | hp
    · exact N p (hI p hp)
    · exact N p (sub p hp), off, r⟩
def GItems (prog : Program) (w : World) (A : Around) (E : Value → Shared → Prop) (h₀ : Heap) (env : Env) (target : Expr) (body : List Stmt) (Q : Flow → Shared → Prop) (s : Shared) (ws : List (Addr × String)) (keep : List (Addr × Obj)) : List Itm → (Str → Option Value) → List (Addr × Obj) → Prop
  | [], m, news => ∀ h tk g, Bare2 s.gens g → Fr h₀ env.locals h m → News h₀ env.locals h news → Q .next { s with heap := h, toks := tk, gens := g }
  | a :: r, m, news => ∀ v h tk g, Bare2 s.gens g → a.Is v h → Fr h₀ env.locals h m → AllObj ws (fun its => News h₀ env.locals h (its ++ news) →
      wpAny (model prog w) A (assign target env v) (fun _ s₂ => wpAny (model prog w) A (execs body env) (GPost h₀ env.locals { s with heap := h, toks := tk, gens := g } its (fun m' n' => SubL keep n' ∧ GItems prog w A E h₀ env target body Q s ws keep r m' n') Q) E s₂) E { s with heap := h, toks := tk, gens := g })
theorem g_core {I : Addr} {fp wr : List Addr} {n : Nat} {P Md : Nat → Value → Heap → Prop} {St : Nat → Heap → Prop} {ws : List (Addr × String)} {keep : List (Addr × Obj)} {xs : List Itm} {m₀ : Str → Option Value} {news : List (Addr × Obj)} {hp : Heap} {tk0 : Nat}
    (W : KTurns prog w A target I fp wr n P Md St) (hn : n = xs.length) (hP : ∀ i v h, P i v h → ∃ a, xs[i]? = some a ∧ a.Is v h)
    (hobj : ∀ i h, St i h → ∃ its, Objs ws its ∧ ∀ p ∈ its, h.get? p.1 = some p.2)
    (hws : ∀ b ∈ ws.map (·.1), b ∈ fp ∧ h₀.get? b = none) (hwr : ∀ b ∈ wr, b ∈ ws.map (·.1))
    (hfp : ∀ b ∈ fp, b ∈ ws.map (·.1) ∨ ∃ o, (b, o) ∈ keep) (hL : env.locals ∉ fp) (hnw : ∀ p ∈ news, p.1 ∉ wr) (hst : St 0 hp)
    (F : Fr h₀ env.locals hp m₀) (N : News h₀ env.locals hp news) (hk : SubL keep news)
    (rest : GItems prog w A E h₀ env target body Q s ws keep xs m₀ news) : GAt prog w A h₀ env target body Q E (.ref I) { s with heap := hp, toks := tk0 } := by
  let J : Nat → (Str → Option Value) → List (Addr × Obj) → Prop := fun i m₁ news₁ => SubL keep news₁ ∧ GItems prog w A E h₀ env target body Q s ws keep (xs.drop i) m₁ news₁
  refine ⟨I, fp, wr, n, P, Md, St, m₀, news, J, rfl, W, hL, fun b hb => (hws b (hwr b hb)).2, hnw, hst, F, N, ⟨hk, by rw [List.drop_zero]; exact rest⟩, ?_, ?_⟩
  · intro i v m₁ news₁ h₁ tk₁ g₁ own hbb hin hPi hJ hoff hown hget hall hst₁ F₁ N₁
    obtain ⟨hk₁, hJ⟩ := hJ
    obtain ⟨a, ha, hav⟩ := hP i v h₁ hPi
    obtain ⟨its, hits, hval⟩ := hobj (i + 1) h₁ hst₁
    have hmap := hits.map
    have hdrop : xs.drop i = a :: xs.drop (i + 1) := by
      have hlt' : i < xs.length := hn ▸ hin
      rw [List.drop_eq_getElem_cons hlt']
      congr 1
      exact Option.some.inj ((List.getElem?_eq_getElem hlt').symm.trans ha)
    have hJ' : GItems prog w A E h₀ env target body Q s ws keep (a :: xs.drop (i + 1)) m₁ news₁ := by rw [← hdrop]; exact hJ
    have N₂ : News h₀ env.locals h₁ (its ++ news₁) := fun p hp => by
      rcases List.mem_append.mp hp with hp | hp
      · have h1 : p.1 ∈ ws.map (·.1) := by rw [← hmap]; exact List.mem_map.mpr ⟨p, hp, rfl⟩
        exact N₁ _ (List.mem_append_left _ (hall p.1 (hws _ h1).1 (hws _ h1).2 p.2 (hval p hp)))
      · exact N₁ _ (List.mem_append_right _ hp)
    have fin : ∀ s₃, GEnd h₀ env.locals { s with heap := h₁, toks := tk₁, gens := g₁ } its (fun m' n' => SubL keep n' ∧ GItems prog w A E h₀ env target body Q s ws keep (xs.drop (i + 1)) m' n') s₃ →
        GNext h₀ env.locals wr own (J (i + 1)) { s with heap := h₁, toks := tk₁, gens := g₁ } s₃ := by
      rintro s₃ ⟨h', tk, g', m', news', e, bb', F', N', ho, hk', r⟩
      refine ⟨h', tk, g', m', news', e, bb', F', ?_, ?_, hk', r⟩
      · rintro ⟨pa, po⟩ hp
        rcases List.mem_append.mp hp with hp | hp
        · have h2 : h₁.get? pa = some po := hget _ hp
          rcases hfp pa (hown _ hp) with h3 | ⟨o, h3⟩
          · have h4 : pa ∈ its.map (·.1) := by rw [hmap]; exact h3
            obtain ⟨⟨qa, qo⟩, hq, hqe⟩ := List.mem_map.mp h4
            have hqe' : qa = pa := hqe
            subst hqe'
            have h5 : h₁.get? qa = some qo := hval _ hq
            have h6 : qo = po := Option.some.inj (h5.symm.trans h2)
            subst h6
            exact N' _ (List.mem_append_left _ hq)
          · have h4 : h₁.get? pa = some o := (N₁ _ (List.mem_append_right _ (hk₁.mem _ h3))).1
            have h6 : o = po := Option.some.inj (h4.symm.trans h2)
            subst h6
            exact N' _ (List.mem_append_right _ (hk'.mem _ h3))
        · exact N' _ (List.mem_append_right _ hp)
      · intro p hp hI
        have h4 : p.1 ∈ its.map (·.1) := by rw [hmap]; exact hwr _ hI
        obtain ⟨q, hq, hqe⟩ := List.mem_map.mp h4
        exact ho p hp q hq hqe.symm
    refine wpAny_mono ((hJ' v h₁ tk₁ g₁ hbb hav F₁).at hits N₂) (fun _ s₂ h₂ => wpAny_mono h₂ (fun f s₃ p => ?_) fun _ _ e => e) fun _ _ e => e
    cases f with
    | ret v => exact p
    | brk => exact p
    | next => exact fin _ p
    | cont => exact fin _ p
  · intro h' tk g' m' news' hbb F' N' _ hJ
    have hJ' : GItems prog w A E h₀ env target body Q s ws keep (xs.drop n) m' news' := hJ.2
    have z : xs.drop n = [] := List.drop_eq_nil_of_le (Nat.le_of_eq hn.symm)
    rw [z] at hJ'
    exact hJ' h' tk g' hbb F' N'
end
section
variable {prog : Program} {w : World} {A : Around} {E : Value → Shared → Prop} {s : Shared} {env : Env} {h₀ : Heap} {target : Expr} {body : List Stmt} {Q : Flow → Shared → Prop} {K : Type} [DecidableEq K] {knd : KeyKind prog w K} {enc : K → PyData} {kvs : List (K × Value)}
theorem g_items {elts : List Expr} {kk : Nat} {pos : Pos} {d vw : Addr} {od : Obj} {xs : List Itm} {m₀ : Str → Option Value} {news : List (Addr × Obj)}
    (hh : A.handled = none) (F : Fr h₀ env.locals s.heap m₀) (N : News h₀ env.locals s.heap news) (hvw : ∃ ov, s.heap.get? vw = some ov ∧ ov.cls = .type "dict_items" ∧ ov.data = .fields #[.ref d]) (hm : (d, od) ∈ news) (hd : od.IsDictOf knd kvs)
    (hkey : ∀ k v, knd.is k v = true → ∃ t, v = kyVal (enc k) t) (hx : kvs.map (fun p => Itm.pair (kyVal (enc p.1)) p.2) = xs)
    (rest₀ : ∀ I : Addr, (∀ p ∈ news, p.1 < I) → GItems prog w A E h₀ env (.Tuple elts kk pos) body Q s [(I, "dict_itemiterator")] [(d, od)] xs m₀ news) :
    wpAny (model prog w) A (pyIter (.ref vw)) (GAt prog w A h₀ env (.Tuple elts kk pos) body Q E) E s := by
  subst hx
  have hax := N _ hm
  obtain ⟨ep, hat⟩ := (kda_dict N hm hd).dictAt
  have hne : d ≠ s.heap.objs.size := Nat.ne_of_lt hat.lt_size
  refine wpAny_pyIter_items hvw hat ?_
  refine g_core (tk0 := s.toks) (keep := [(d, od)]) (kti_itemsTurns (knd := knd) hh s.heap.objs.size d hne kvs ep) (by rw [List.length_map]) ?_ ?_ ?_ ?_ ?_ ?_ ?_ ?_ (F.push _) (fun p hp => ⟨Heap.get?_push_of_some _ (N p hp).1, (N p hp).2⟩) (And.intro hm trivial) (rest₀ _ fun p hp => Heap.lt_size (N p hp).1)
  · rintro i v h ⟨T', key, k, x, rfl, hx, hk, hT⟩
    obtain ⟨t, rfl⟩ := hkey k key hk
    exact ⟨.pair (kyVal (enc k)) x, by rw [List.getElem?_map, hx]; rfl, T', t, rfl, hT⟩
  · rintro i h ⟨⟨ok, ov, he⟩, _⟩
    have e1 : ∃ o : Obj, h.get? s.heap.objs.size = some o ∧ o.cls = .type "dict_itemiterator" := ⟨_, he, rfl⟩
    obtain ⟨oi, g, c⟩ := e1
    exact ⟨[(s.heap.objs.size, oi)], ⟨⟨rfl, c⟩, trivial⟩, fun p hp => by rw [List.mem_singleton.mp hp]; exact g⟩
  · intro b hb
    have hb' : b = s.heap.objs.size := by simpa using hb
    rw [hb']
    exact ⟨List.mem_cons_self .., next_is_new F⟩
  · intro b hb
    simpa using hb
  · intro b hb
    have hb' : b = s.heap.objs.size ∨ b = d := by simpa using hb
    rcases hb' with e | e
    · exact .inl (by simp [e])
    · exact .inr ⟨od, by simp [e]⟩
  · intro hI
    have hb' : env.locals = s.heap.objs.size ∨ env.locals = d := by simpa using hI
    rcases hb' with e | e
    · exact absurd F.ns.lt (e ▸ Nat.lt_irrefl _)
    · exact hax.2.1 e.symm
  · intro p hp hI
    exact absurd (Heap.lt_size (N p hp).1) ((List.mem_singleton.mp hI) ▸ Nat.lt_irrefl _)
  · exact ⟨⟨.none, .none, Heap.get?_push_size _ rfl⟩, hat.push _⟩
end
end Mine
end
section
open PySem PySem.Spec PySem.Calls PySem.W PyProof.Rows PyProof.V
set_option maxRecDepth 100000
set_option maxHeartbeats 4000000
namespace Mine
section
variable {prog : Program} {w : World} {A : Around} {E : Value → Shared → Prop} {s : Shared} {env : Env} {h₀ : Heap} {target : Expr} {body : List Stmt} {Q : Flow → Shared → Prop}
noncomputable def rangeItems (k : Nat) : List Itm := (List.range k).map fun (i : Nat) => Itm.tok fun t => .int (i : Int) t
theorem g_range {x : Str} {px : Pos} {r : Addr} {k : Nat} {t u v : Tok} {m₀ : Str → Option Value} {news : List (Addr × Obj)}
    (hh : A.handled = none) (F : Fr h₀ env.locals s.heap m₀) (N : News h₀ env.locals s.heap news) (hr : IsRange s.heap r 0 (k : Int) 1 t u v) (hk : k ≤ 1000)
    (rest₀ : ∀ I : Addr, (∀ p ∈ news, p.1 < I) → GItems prog w A E h₀ env (.Name x px) body Q s [(I, "range_iterator")] [] (rangeItems k) m₀ news) :
    wpAny (model prog w) A (pyIter (.ref r)) (GAt prog w A h₀ env (.Name x px) body Q E) E s := by
  have hn : Builtin.Range.rangeSize 0 (k : Int) 1 = (k : Int) := by
    unfold Builtin.Range.rangeSize
    by_cases h : (0 : Int) < k
    · simp only [show (1 : Int) > 0 by decide, if_true]
      rw [if_pos h]
      simp +arith
    · simp only [show (1 : Int) > 0 by decide, if_true]
      rw [if_neg h]
      lia
  have hsm : Builtin.Range.small 0 (k : Int) 1 = true := small_one (by decide) (by decide) (by simp +arith) (by lia)
  refine wpAny_pyIter_range hr hsm ?_
  rw [hn]
  refine g_core (tk0 := s.toks) (keep := []) (KTurns.ofWalks (Walks.range hh s.heap.objs.size 0 1 k).bound fun i v s Q E st q => wpAny_pure q) (by unfold rangeItems; simp) ?_ ?_ ?_ ?_ ?_ ?_ ?_ ?_ (F.push _) (fun p hp => ⟨Heap.get?_push_of_some _ (N p hp).1, (N p hp).2⟩) trivial (rest₀ _ fun p hp => Heap.lt_size (N p hp).1)
  · rintro i v h ⟨hi, t, rfl⟩
    refine ⟨Itm.tok fun t => .int (i : Int) t, by unfold rangeItems; simp [hi], t, ?_⟩
    simp
  · intro i h hs
    exact ⟨[(s.heap.objs.size, _)], ⟨⟨rfl, rfl⟩, trivial⟩, fun p hp => by rw [List.mem_singleton.mp hp]; exact hs⟩
  · intro b hb
    have hb' : b = s.heap.objs.size := by simpa using hb
    rw [hb']
    exact ⟨List.mem_cons_self .., next_is_new F⟩
  · intro b hb
    simpa using hb
  · intro b hb
    exact .inl (by simpa using hb)
  · intro hI
    exact absurd F.ns.lt (List.mem_singleton.mp hI ▸ Nat.lt_irrefl _)
  · intro p hp hI
    exact absurd (Heap.lt_size (N p hp).1) ((List.mem_singleton.mp hI) ▸ Nat.lt_irrefl _)
  · show IsRangeIter _ _ _ _ _
    have e := Heap.get?_push_size s.heap (o := { cls := .type "range_iterator", data := .fields #[rawInt 0, rawInt (k : Int), rawInt 1] }) rfl
    simpa [IsRangeIter] using e
theorem GItems.nil {ws : List (Addr × String)} {keep : List (Addr × Obj)} {m : Str → Option Value} {news : List (Addr × Obj)} (h : ∀ h tk g, Bare2 s.gens g → Fr h₀ env.locals h m → News h₀ env.locals h news → Q .next { s with heap := h, toks := tk, gens := g }) :
    GItems prog w A E h₀ env target body Q s ws keep [] m news := h
theorem GItems.tok1 {I : Addr} {c : String} {keep : List (Addr × Obj)} {f : Tok → Value} {r : List Itm} {m : Str → Option Value} {news : List (Addr × Obj)}
    (h : ∀ t h tk g oI, Bare2 s.gens g → oI.cls = .type c → Fr h₀ env.locals h m → News h₀ env.locals h ((I, oI) :: news) →
      wpAny (model prog w) A (assign target env (f t)) (fun _ s₂ => wpAny (model prog w) A (execs body env) (GPost h₀ env.locals { s with heap := h, toks := tk, gens := g } [(I, oI)] (fun m' n' => SubL keep n' ∧ GItems prog w A E h₀ env target body Q s [(I, c)] keep r m' n') Q) E s₂) E { s with heap := h, toks := tk, gens := g }) :
    GItems prog w A E h₀ env target body Q s [(I, c)] keep (.tok f :: r) m news := by
  intro v h' tk g bb e F o hc N
  obtain ⟨t, e⟩ := e
  subst e
  exact h t h' tk g o bb hc F N
theorem GItems.val1 {I : Addr} {c : String} {keep : List (Addr × Obj)} {v : Value} {r : List Itm} {m : Str → Option Value} {news : List (Addr × Obj)}
    (h : ∀ h tk g oI, Bare2 s.gens g → oI.cls = .type c → Fr h₀ env.locals h m → News h₀ env.locals h ((I, oI) :: news) →
      wpAny (model prog w) A (assign target env v) (fun _ s₂ => wpAny (model prog w) A (execs body env) (GPost h₀ env.locals { s with heap := h, toks := tk, gens := g } [(I, oI)] (fun m' n' => SubL keep n' ∧ GItems prog w A E h₀ env target body Q s [(I, c)] keep r m' n') Q) E s₂) E { s with heap := h, toks := tk, gens := g }) :
    GItems prog w A E h₀ env target body Q s [(I, c)] keep (.val v :: r) m news := by
  intro u h' tk g bb e F o hc N
  have e' : u = v := e
  subst e'
  exact h h' tk g o bb hc F N
theorem GItems.pair1 {I : Addr} {c : String} {keep : List (Addr × Obj)} {f : Tok → Value} {x : Value} {r : List Itm} {m : Str → Option Value} {news : List (Addr × Obj)}
    (h : ∀ T t h tk g oI, Bare2 s.gens g → IsTup h T #[f t, x] → oI.cls = .type c → Fr h₀ env.locals h m → News h₀ env.locals h ((I, oI) :: news) →
      wpAny (model prog w) A (assign target env (.ref T)) (fun _ s₂ => wpAny (model prog w) A (execs body env) (GPost h₀ env.locals { s with heap := h, toks := tk, gens := g } [(I, oI)] (fun m' n' => SubL keep n' ∧ GItems prog w A E h₀ env target body Q s [(I, c)] keep r m' n') Q) E s₂) E { s with heap := h, toks := tk, gens := g }) :
    GItems prog w A E h₀ env target body Q s [(I, c)] keep (.pair f x :: r) m news := by
  intro u h' tk g bb e F o hc N
  obtain ⟨T, t, e, ht⟩ := e
  subst e
  exact h T t h' tk g o bb ht hc F N
theorem GEnd.at {L I : Addr} {oI : Obj} {all news' : List (Addr × Obj)} {rest : (Str → Option Value) → List (Addr × Obj) → Prop} {s₁ : Shared} {h' : Heap} {tk : Nat} {g' : Array GenState} {m' : Str → Option Value} (F : Fr h₀ L h' m') (N : News h₀ L h' all) (bb : Bare2 s₁.gens g')
    (e : ∀ p ∈ (I, oI) :: news', p ∈ all) (off : ∀ p ∈ news', p.1 ≠ I) (r : rest m' news') : GEnd h₀ L s₁ [(I, oI)] rest { s₁ with heap := h', toks := tk, gens := g' } :=
  GEnd.intro F N bb news' (fun p hp => e p (by rw [List.mem_singleton.mp hp]; exact List.mem_cons_self)) (fun p hp => e p (List.mem_cons_of_mem _ hp)) (fun p hp q hq => by rw [List.mem_singleton.mp hq]; exact off p hp) r
end
end Mine
end
section
open PySem PySem.Spec PySem.Calls PySem.W PyProof.Rows
set_option maxRecDepth 100000
set_option maxHeartbeats 4000000
namespace Mine
/-- a generator that stands ready, and what it will not touch -/
inductive GenPk (prog : Program) (w : World) (A : Around) (h₀ : Heap) (L a : Addr) (n : Nat) (F : Nat → Value → Prop) (nw : List (Addr × Obj)) (s : Shared) : Prop
  | mk (fp wr : List Addr) (g : Nat) (St : Nat → Shared → Prop) (W : WalksS prog w A.in4 a fp wr (GenOnlyQ g) n (fun j y => F j y) St) (st : St 0 s) (ty : ∀ i s', St i s' → s'.TypeIs (.ref a) "generator") (own : a ∈ fp) (lt : ∀ b ∈ fp, b < s.heap.objs.size) (off : ∀ p ∈ nw, p.1 ∉ wr) (hL : L ∉ wr) (new : ∀ b ∈ wr, h₀.get? b = none)
/-- what a generator expression over pairs asks of its source -/
inductive GSrc (prog : Program) (w : World) (A : Around) (h₀ : Heap) (L : Addr) (m : Str → Option Value) (P : Addr) (ps : Array Value) (n : Nat) (xa xb : Str) (elt : Expr) (scope : Scope) (cl : List (Str × Addr)) (env : Env) (Fn : Nat → Value → Prop) (Q : Value → Shared → Prop) (it : Value) (s₂ : Shared) : Prop
  | mk (I : Addr) (fp wr : List Addr) (Pt : Nat → Array Value → Prop) (St₀ : Nat → Heap → Prop) (Mid : Nat → Addr → Heap → Prop) (news : List (Addr × Obj)) (f0 : it = .ref I) (f1 : Fr h₀ L s₂.heap m) (f2 : News h₀ L s₂.heap ((P, tabOf ps) :: news)) (f3 : (∀ A' : Around, A'.handled = none → WalksU prog w A' I fp wr n Pt St₀ Mid)) (f4 : (∀ i vals, Pt i vals → ∃ va vb, vals = #[va, vb])) (f5 : St₀ 0 s₂.heap) (f6 : (∀ b ∈ fp, b < s₂.heap.objs.size)) (f7 : P ∉ fp) (f8 : (∀ p ∈ news, p.1 ≠ P ∧ p.1 ∉ wr)) (f9 : L ∉ wr) (f10 : (∀ b ∈ wr, h₀.get? b = none)) (f11 : (∀ (A' : Around) E' i va vb (s' : Shared) m₂ C code bi, A'.handled = none → i < n → Pt i #[va, vb] → s'.heap.Ns C m₂ → m₂ xa = some va → m₂ xb = some vb → (∀ b o, b ≠ P → b ∉ wr → s₂.heap.get? b = some o → s'.heap.get? b = some o) →
        wpAny (model prog w) A' (eval elt (genEnv scope cl C code bi env)) (fun y s₃ => Fn i y ∧ Keeps s' s₃) E' s')) (f12 : (∀ a h' g' tk ps', TriplesOk ps'.toList → Bare2 s₂.gens g' → Fr h₀ L h' m → News h₀ L h' ((P, tabOf ps') :: news) → (∀ p ∈ (P, tabOf ps') :: news, p.1 < a) → GenPk prog w A h₀ L a n Fn ((P, tabOf ps') :: news) { s₂ with heap := h', gens := g', toks := tk } → Q (.ref a) { s₂ with heap := h', gens := g', toks := tk }))
theorem pack9 {a b c d e f g h i : Type} {p : a → b → c → d → e → f → g → h → i → Prop} (x1 : a) (x2 : b) (x3 : c) (x4 : d) (x5 : e) (x6 : f) (x7 : g) (x8 : h) (x9 : i) (k : p x1 x2 x3 x4 x5 x6 x7 x8 x9) :
    ∃ x1 x2 x3 x4 x5 x6 x7 x8 x9, p x1 x2 x3 x4 x5 x6 x7 x8 x9 := ⟨x1, x2, x3, x4, x5, x6, x7, x8, x9, k⟩
theorem passing_all (n : Nat) : passing (fun _ => true) n 0 = List.range n := by unfold passing; simp
theorem WalksS.imp {prog : Program} {w : World} {A : Around} {I : Addr} {fp wr : List Addr} {G : Array GenState → Array GenState → Prop} {n : Nat} {P P' : Nat → Value → Prop} {St : Nat → Shared → Prop} (W : WalksS prog w A I fp wr G n P St) (h : ∀ i v, P i v → P' i v) : WalksS prog w A I fp wr G n P' St := by
  exact ⟨W.sub, W.grefl, W.gtrans, W.frame, fun i s Q E hi st hQ => W.item i s Q E hi st fun v s' hp => hQ v s' (h _ _ hp), W.done, W.self⟩
section
variable {prog : Program} {w : World} {A : Around} {E : Value → Shared → Prop} {s : Shared} {h₀ : Heap} {L c P : Addr} {m mg mb : Str → Option Value} {pv : Program} {lo : List Str} {mean : ExcName → Option Value} {ps : Array Value}
/-- the code's object, of which the table hangs -/
inductive HasTab (oc : Obj) (P : Addr) : Prop
  | mk (vs : Array Value) (file : Str) (tf : Tok) (flags : Int) (tg : Tok) (inF : Bool) (text : Int) (tt : Tok) (c1 : oc.cls = .type "code") (c2 : oc.data = .fields vs) (c3 : vs[11]? = some (.ref P)) (c4 : vs.getD 11 .none = .ref P) (c5 : vs.getD 18 .none = .str file tf) (c6 : vs.getD 7 .none = .int flags tg) (c7 : vs.getD 9 .none = .bool inF) (c8 : vs.getD 10 .none = .int text tt)
theorem isCode_of {h : Heap} {oc : Obj} (hc : h.get? c = some oc) (t : HasTab oc P) (hP : h.get? P = some (tabOf ps)) (tri : TriplesOk ps.toList) (hne : c ≠ P) : h.IsCode c P ps ∧ h.TableAt c P ps := by
  obtain ⟨vs, file, tf, flags, tg, inF, text, tt, h1, h2, h3, h4, h5, h6, h7, h8⟩ := t
  exact ⟨⟨oc, vs, file, tf, flags, tg, inF, text, tt, _, hc, h2, h4, h5, h6, h7, h8, hP, rfl, tri, hne⟩, ⟨oc, vs, hc, h1, h2, h3⟩, hP⟩
/-- a generator expression over pairs, from a source that walks; the code's table may grow -/
theorem gen_K {env : Env} {elt iter : Expr} {xa xb : Str} {pa pb pt : Pos} {kt : Nat} {scope : Scope} {cl : List (Str × Addr)} {pos : Pos} {Q : Value → Shared → Prop} {oc : Obj} {n : Nat} {Fn : Nat → Value → Prop}
    (hh : A.handled = none) (hco : scope.isCoroutine = false) (hclos : closureFor scope env = pure cl) (hcell : ∀ y ∈ scope.names, y.2 ≠ .cell) (h0 : scope.names.lookup (".0" : Str) = some NameKind.local)
    (hxa : scope.names.lookup xa = some .local) (hxb : scope.names.lookup xb = some .local) (hab : xa ≠ xb) (hkind : scope.kind = .function) (hroom : A.depth < recursionLimit)
    (hcode : env.code = .ref c) (hglob : env.globals = mainGlobals) (T : Top pv lo mean mg mb h₀) (hoc : h₀.get? c = some oc) (ht : HasTab oc P) (tri : TriplesOk ps.toList) (hPs : P ≠ cStatics)
    (h : wpAny (model prog w) A (eval iter env) (fun xv s₁ => wpAny (model prog w) A (pyIter xv) (GSrc prog w A h₀ L m P ps n xa xb elt scope cl env Fn Q) E s₁) E s)
    (hs : ∀ x, genFold iter env x = pure x) :
    wpAny (model prog w) A (eval (.GeneratorExp elt [⟨.Tuple [.Name xa pa, .Name xb pb] kt pt, iter, [], 0⟩] scope pos) env) Q E s := by
  refine wpAny_GeneratorExp_walksQT hh hco hclos hcell h0 hxa hxb hab hkind hroom (wpAny_mono h (fun xv s₁ h₁ => wpAny_mono h₁ (fun it s₂ h₂ => ?_) fun _ _ e => e) fun _ _ e => e) hs
  obtain ⟨I, fp, wr, Pt, St₀, Mid, news, rfl, F, N, W, hsz, hst, hfp, hPf, hoff, hLw, hwr, helt, hQ⟩ := h₂
  have hP := N _ (.head _)
  have hcP : c ≠ P := by
    rintro rfl
    rw [hP.2.2] at hoc; cases hoc
  obtain ⟨isC, isT⟩ := isCode_of (F.keep _ _ hoc) ht hP.1 tri hcP
  have hlim : s₂.heap.NoLimit := T.nolimit.keeps F.keep
  -- what holds after the table has grown, or not
  suffices goal : ∀ (code : Value) (h₃ : Heap) (tk₃ : Nat) (ps' : Array Value), Heap.ExtBut P s₂.heap h₃ → s₂.heap.objs.size ≤ h₃.objs.size → h₃.get? P = some (tabOf ps') → TriplesOk ps'.toList →
      wpAny (model prog w) A (builtinsFor env.globals env.builtins) (fun bi s₄ =>
        ∃ I' fp' wr' n₀ Pt' St' Mid' pz F', (Value.ref I : Value) = .ref I' ∧ (∀ A' : Around, A'.handled = none → WalksU prog w A' I' fp' wr' n₀ Pt' St' Mid') ∧ (∀ i vals, Pt' i vals → ∃ va vb, vals = #[va, vb]) ∧ St' 0 s₄.heap ∧ (∀ b ∈ fp', b < s₄.heap.objs.size) ∧ s₄.heap.NoLimit ∧ cStatics ∉ wr' ∧
          (∀ href : Heap, (∀ b o, s₄.heap.get? b = some o → href.get? b = some o) →
            QuietGenT prog w (genEnv scope cl s₄.heap.objs.size code bi env) xa xb [] elt (List.range s₄.heap.objs.size) wr' Pt' pz F' href) ∧
          (∀ a h₅ tk gs, gs.bare = true → s₄.heap.objs.size < a → h₅.objs.size = a + 1 → (∀ b o, s₄.heap.get? b = some o → h₅.get? b = some o) →
            WalksS prog w A.in4 a (a :: s₄.heap.objs.size :: List.range s₄.heap.objs.size) (s₄.heap.objs.size :: wr') (GenOnlyQ s₄.gens.size) (passing pz n₀ 0).length
              (fun j y => ∃ i, (passing pz n₀ 0)[j]? = some i ∧ F' i y) (GenAt prog w A.in4 a s₄.gens.size s₄.heap.objs.size (List.range s₄.heap.objs.size) wr' pz n₀ F') →
            GenAt prog w A.in4 a s₄.gens.size s₄.heap.objs.size (List.range s₄.heap.objs.size) wr' pz n₀ F' 0 { s₄ with gens := s₄.gens.push gs, toks := tk, heap := h₅ } →
            Q (.ref a) { s₄ with gens := s₄.gens.push gs, toks := tk, heap := h₅ })) E { s₂ with heap := h₃, toks := tk₃ } by
    refine ⟨hlim, ?_⟩
    cases hf : codeAmong pos ps.toList with
    | some c' => exact wpAny_genexprCode_hit hcode isC hf (goal c' s₂.heap s₂.toks ps (fun _ _ _ e => e) (Nat.le_refl _) hP.1 tri)
    | none =>
      refine wpAny_genexprCodeX hcode isC isT hf fun c' h₃ tk₃ hx₃ hge hlt hcode₃ _ htab₃ _ => ?_
      refine goal (.ref c') h₃ tk₃ _ hx₃ (Nat.le_trans hge (Nat.le_of_lt hlt)) htab₃.2 ?_
      obtain ⟨_, _, _, _, _, _, _, _, _, _, _, _, _, _, _, _, _, _, _, tr, _⟩ := hcode₃
      exact tr
  intro code h₃ tk₃ ps' hx₃ hsz₃ hP₃ tri'
  have F₃ : Fr h₀ L h₃ m := ⟨F.ns.extBut hx₃ (Ne.symm hP.2.1), fun b o e => hx₃ b o (fun q => by subst q; rw [hP.2.2] at e; cases e) (F.keep b o e), F.above⟩
  have N₃ : News h₀ L h₃ ((P, tabOf ps') :: news) := by
    intro p hp
    cases hp with
    | head => exact ⟨hP₃, hP.2⟩
    | tail _ hp => exact ⟨hx₃ _ _ (hoff p hp).1 (N p (.tail _ hp)).1, (N p (.tail _ hp)).2⟩
  have hCs : cStatics ∉ wr := fun hm => by
    obtain ⟨_, ⟨o, _, _, ho, _⟩, _⟩ := T.nolimit
    rw [hwr _ hm] at ho; cases ho
  have hLlt : L < h₃.objs.size := F₃.ns.lt
  have hPlt : P < h₃.objs.size := Heap.lt_size hP₃
  obtain ⟨bm, ob, M⟩ := bmod_of_top T
  rw [hglob]
  refine wpAny_builtinsFor (M.ns.keeps F₃.keep) M.name M.ne (F₃.keep _ _ M.obj) M.cls M.dict M.data ?_
  refine pack9 I fp wr n (fun i v => i < n ∧ Pt i v) St₀ Mid (fun _ => true) Fn ⟨rfl, fun A' hA => (W A' hA).bound, fun i vals hv => hsz i vals hv.2,
    (W A hh).frame _ _ _ hst fun b hb o e => hx₃ b o (fun q => hPf (q ▸ hb)) e, fun b hb => Nat.lt_of_lt_of_le (hfp b hb) hsz₃, hlim.extBut hx₃ (Ne.symm hPs), hCs, fun href hhref => ⟨?_, ?_⟩, fun a h₅ tk gs hgb hag hsz₅ hk₅ Ws hat => ?_⟩
  · intro A' E' i va vb s' m₂ _ _ _ _ _ _
    exact wpAny_pure ⟨rfl, s'.heap, s'.toks, rfl, fun _ _ e => e⟩
  · intro A' E' i va vb s' m₂ hA hp _ hns h1 h2 hk
    exact helt A' E' i va vb s' m₂ _ _ _ hA hp.1 hp.2 hns h1 h2 fun b o hbP hbw e => hk b (List.mem_range.mpr (Nat.lt_of_lt_of_le (Heap.lt_size e) hsz₃)) hbw o (hhref b o (hx₃ b o hbP e))
  · have up : ∀ p ∈ (P, tabOf ps') :: news, p.1 < h₃.objs.size := fun p hp => Heap.lt_size (N₃ p hp).1
    refine hQ a h₅ _ tk ps' tri' (fun b => b.push hgb) (F₃.keeps hk₅) (fun p hp => ⟨hk₅ _ _ (N₃ p hp).1, (N₃ p hp).2⟩) (fun p hp => Nat.lt_trans (up p hp) hag) ?_
    have Ws' : WalksS prog w A.in4 a (a :: h₃.objs.size :: List.range h₃.objs.size) (h₃.objs.size :: wr) (GenOnlyQ s₂.gens.size) n (fun j y => Fn j y) (GenAt prog w A.in4 a s₂.gens.size h₃.objs.size (List.range h₃.objs.size) wr (fun _ => true) n Fn) := by
      have e : (passing (fun _ => true) n 0).length = n := by rw [passing_all, List.length_range]
      have q := Ws
      dsimp only at q
      rw [e] at q
      refine WalksS.imp q fun j y hy => ?_
      obtain ⟨i, hi, hf⟩ := hy
      rw [passing_all] at hi
      obtain ⟨hj, rfl⟩ := List.getElem?_eq_some_iff.mp hi
      rw [List.getElem_range] at hf
      exact hf
    refine ⟨_, _, _, _, Ws', hat, (fun i s' st => st.1.typeIs), List.mem_cons_self, ?_, ?_, ?_, ?_⟩
    · intro b hb
      show b < h₅.objs.size
      rw [hsz₅]
      rcases List.mem_cons.mp hb with rfl | hb
      · exact Nat.lt_succ_self _
      · rcases List.mem_cons.mp hb with rfl | hb
        · exact Nat.lt_succ_of_lt hag
        · exact Nat.lt_succ_of_lt (Nat.lt_trans (List.mem_range.mp hb) hag)
    · intro p hp hm
      rcases List.mem_cons.mp hm with e | hm
      · exact Nat.ne_of_lt (up p hp) e
      · cases hp with
        | head => exact hPf ((W A hh).sub _ hm)
        | tail _ hp => exact (hoff p hp).2 hm
    · intro hm
      rcases List.mem_cons.mp hm with e | hm
      · exact Nat.ne_of_lt hLlt e
      · exact hLw hm
    · intro b hb
      rcases List.mem_cons.mp hb with rfl | hb
      · cases q : h₀.get? h₃.objs.size with
        | none => rfl
        | some o => exact absurd (Nat.lt_of_lt_of_le (Heap.lt_size q) F.above) (Nat.not_lt.mpr (Nat.le_of_lt hLlt))
      · exact hwr b hb
end
end Mine
end
section
open PySem PySem.Spec PySem.Calls PySem.W PyProof.Rows
set_option maxRecDepth 100000
set_option maxHeartbeats 4000000
namespace Mine
section
variable {prog : Program} {w : World} {A : Around} {E : Value → Shared → Prop} {s : Shared} {h₀ : Heap} {L a : Addr} {m : Str → Option Value} {news : List (Addr × Obj)} {n : Nat}
theorem moved_fr {wr : List Addr} {G : Array GenState → Array GenState → Prop} {s' : Shared} (F : Fr h₀ L s.heap m) (N : News h₀ L s.heap news) (M : Moved wr G s s') (h1 : ∀ p ∈ news, p.1 ∉ wr) (h2 : L ∉ wr) (h3 : ∀ b ∈ wr, h₀.get? b = none) : Fr h₀ L s'.heap m ∧ News h₀ L s'.heap news := by
  refine ⟨⟨F.ns.at' fun o e => M.heap _ o h2 e, fun b o e => M.heap b o (fun hb => ?_) (F.keep b o e), F.above⟩, fun p hp => ⟨M.heap _ _ (h1 p hp) (N p hp).1, (N p hp).2⟩⟩
  rw [h3 b hb] at e; cases e
theorem strs_eq : ∀ (l : List (Str × Tok)) (ys : List Str), ItemsOf (fun i v => ∃ y tk, ys[i]? = some y ∧ v = Value.str y tk) (strValues l).toArray ys.length → l.map (·.1) = ys := by
  intro l ys h
  refine List.ext_getElem? fun i => ?_
  have hl : l.length = ys.length := by
    have := h.1
    simpa [strValues] using this
  by_cases hi : i < l.length
  · have e : (strValues l).toArray[i]? = some (Value.str l[i].1 l[i].2) := by simp [strValues, hi]
    obtain ⟨y, tk, hy, hv⟩ := h.2 i _ e
    cases hv
    rw [hy]
    simp [hi]
  · simp [List.getElem?_eq_none, hl ▸ hi, Nat.le_of_not_lt hi, Nat.le_of_not_lt (hl ▸ hi)]
theorem join_K {sep : Str} {t : Tok} {ys : List Str} {Q : Value → Shared → Prop} (F : Fr h₀ L s.heap m) (N : News h₀ L s.heap news) (G : GenPk prog w A h₀ L a ys.length (fun i v => ∃ y tk, ys[i]? = some y ∧ v = Value.str y tk) news s) (hz : ys.length ≤ sizeLine) (hok : JoinOk sep ys = true)
    (h : ∀ h' g' tk t', Bare2 s.gens g' → Fr h₀ L h' m → News h₀ L h' news → Q (.str (Txt.join sep ys) t') { s with heap := h', gens := g', toks := tk }) : wpAny (model prog w) A (call (.builtin "str.join") [.str sep t, .ref a]) Q E s := by
  obtain ⟨fp, wr, g, St, W, hst, hT, ha, hfp, h1, h2, h3⟩ := G
  refine SC.joinGen (WalksS.of_in1 (A := A.in1.in1) (WalksS.of_in1 (A := A.in1.in1.in1) W)) hT hst hfp ha (fun i v hv => by obtain ⟨y, tk, _, e⟩ := hv; exact ⟨y, tk, e⟩) (fun s' l M hl => ?_) hz
  have e := strs_eq l ys hl
  rw [e]
  refine ⟨hok, fun t' k => ?_⟩
  obtain ⟨F', N'⟩ := moved_fr F N M h1 h2 h3
  obtain ⟨hh, gg, dd, tt, oo⟩ := s'
  have hd : dd = s.drawn := M.drawn
  have ho : oo = s.os := M.os
  subst hd ho
  exact h hh gg k t' (fun b => b.moved M.gens) F' N'
theorem tuple_K {Fn : Nat → Value → Prop} {Q : Value → Shared → Prop} (F : Fr h₀ L s.heap m) (N : News h₀ L s.heap news) (G : GenPk prog w A h₀ L a n Fn news s) (hz : n ≤ sizeLine)
    (h : ∀ D h' g' tk acc, Bare2 s.gens g' → ItemsOf Fn acc n → Fr h₀ L h' m → News h₀ L h' ((D, { cls := .type "tuple", data := .seq acc }) :: news) → (∀ p ∈ news, p.1 < D) → Q (.ref D) { s with heap := h', gens := g', toks := tk }) : wpAny (model prog w) A (call (.type "tuple") [.ref a]) Q E s := by
  obtain ⟨fp, wr, g, St, W, hst, hT, ha, hfp, h1, h2, h3⟩ := G
  refine call_tuple_gen (WalksS.in4_3 W) hT hst hfp ha (fun s' acc M hl => ?_) hz
  obtain ⟨F', N'⟩ := moved_fr F N M h1 h2 h3
  obtain ⟨hh, gg, dd, tt, oo⟩ := s'
  have hd : dd = s.drawn := M.drawn
  have ho : oo = s.os := M.os
  subst hd ho
  exact h _ _ gg tt acc (fun b => b.moved M.gens) hl (F'.push _) (News.push F' N' _) fun p hp => Heap.lt_size (N' p hp).1
end
end Mine
end
section
open PySem PySem.Spec PySem.Calls PySem.W PyProof.Rows
set_option maxRecDepth 100000
set_option maxHeartbeats 4000000
namespace Mine
section
variable {prog : Program} {w : World} {A : Around} {E : Value → Shared → Prop} {s : Shared} {h₀ : Heap} {L : Addr} {m : Str → Option Value} {news : List (Addr × Obj)}
theorem zip_gen {v1 v2 : Value} {bs1 bs2 : List Addr} {n : Nat} {P1 P2 : Nat → Value → Prop} {ok1 ok2 : Heap → Prop} {Q : Value → Shared → Prop} (I1 : Itb prog w v1 bs1 n P1 ok1) (I2 : Itb prog w v2 bs2 n P2 ok2) (hh : A.handled = none)
    (F : Fr h₀ L s.heap m) (N : News h₀ L s.heap news) (k1 : ok1 s.heap) (k2 : ok2 s.heap)
    (h : ∀ h' Z fp wr Pt St Mid, (∀ A' : Around, A'.handled = none → WalksU prog w A' Z fp wr n Pt St Mid) → (∀ i vals, Pt i vals → ∃ x y, P1 i x ∧ P2 i y ∧ vals = #[x, y]) → St 0 h' → (∀ b ∈ fp, b < h'.objs.size) → Fr h₀ L h' m → News h₀ L h' news → (∀ p ∈ news, p.1 ∉ wr) → L ∉ wr → (∀ b ∈ wr, h₀.get? b = none) →
      (∀ b ∈ fp, s.heap.objs.size ≤ b ∨ b ∈ bs1 ∨ b ∈ bs2) → Q (.ref Z) { s with heap := h' }) :
    wpAny (model prog w) A (call (.type "zip") [v1, v2]) (fun xv s₁ => wpAny (model prog w) A (pyIter xv) Q E s₁) E s := by
  refine call_zipI I1 I2 hh k1 k2 fun h' S1 S2 D1 D2 st1 st2 hz hTI hTO hsz hk => ?_
  refine wpAny_pyIter_zip hz ?_
  have hLs : L < s.heap.objs.size := F.ns.lt
  have b1 : ∀ b ∈ bs1, b < s.heap.objs.size := fun b hb => by obtain ⟨o, e⟩ := I1.below _ k1 b hb; exact Heap.lt_size e
  have b2 : ∀ b ∈ bs2, b < s.heap.objs.size := fun b hb => by obtain ⟨o, e⟩ := I2.below _ k2 b hb; exact Heap.lt_size e
  have off1 : ∀ j, s.heap.objs.size + j ∉ bs1 := fun j hj => absurd (b1 _ hj) (Nat.not_lt.mpr (Nat.le_add_right _ _))
  have off2 : ∀ j, s.heap.objs.size + j ∉ bs2 := fun j hj => absurd (b2 _ hj) (Nat.not_lt.mpr (Nat.le_add_right _ _))
  have ne : ∀ i j : Nat, i ≠ j → s.heap.objs.size + i ≠ s.heap.objs.size + j := fun i j h e => h (Nat.add_left_cancel e)
  have ne0 : ∀ j : Nat, j ≠ 0 → s.heap.objs.size + j ≠ s.heap.objs.size := fun j h e => h (Nat.add_left_cancel (e.trans (Nat.add_zero _).symm))
  have D : ZApart (s.heap.objs.size + 4) (s.heap.objs.size + 2) (s.heap.objs.size + 3) s.heap.objs.size (s.heap.objs.size + 1) (s.heap.objs.size :: bs1) ((s.heap.objs.size + 1) :: bs2) :=
    { TIz := ne 2 4 (by decide), TOz := ne 3 4 (by decide), i1z := Ne.symm (ne0 4 (by decide)), i2z := ne 1 4 (by decide), TITO := ne 2 3 (by decide), TIi1 := ne0 2 (by decide), TIi2 := ne 2 1 (by decide), TOi1 := ne0 3 (by decide), TOi2 := ne 3 1 (by decide), i12 := Ne.symm (ne0 1 (by decide)),
      z1 := fun q => (List.mem_cons.mp q).elim (ne0 4 (by decide)) (off1 4), z2 := fun q => (List.mem_cons.mp q).elim (ne 4 1 (by decide)) (off2 4), TO1 := fun q => (List.mem_cons.mp q).elim (ne0 3 (by decide)) (off1 3), TO2 := fun q => (List.mem_cons.mp q).elim (ne 3 1 (by decide)) (off2 3),
      i1f := List.mem_cons_self, i2f := List.mem_cons_self, i21 := fun q => (List.mem_cons.mp q).elim (ne0 1 (by decide)) (off1 1), i12f := fun q => (List.mem_cons.mp q).elim (Ne.symm (ne0 1 (by decide))) (off2 0) }
  have W := fun (A' : Around) (hA : A'.handled = none) => (WalksT.zipD (A := A') hA D D1 D2).toU
  have fr : ∀ j, h₀.get? (s.heap.objs.size + j) = none := fun j => by
    cases e : h₀.get? (s.heap.objs.size + j) with
    | none => rfl
    | some o => exact absurd (Heap.lt_size (F.keep _ _ e)) (Nat.not_lt.mpr (Nat.le_add_right _ _))
  refine h h' _ _ _ _ _ _ W (fun i vals hv => hv) ⟨hz, hTI, ⟨_, _, hTO⟩, st1, st2⟩ ?_ (F.keeps hk) (N.grown hk) ?_ ?_ ?_ ?_
  · intro c hc
    rw [hsz]
    simp only [List.mem_cons, List.mem_append] at hc
    rcases hc with e | e | e | (e | e) | (e | e)
    · rw [e]; exact natLt _ 4 5 (by decide)
    · rw [e]; exact natLt _ 2 5 (by decide)
    · rw [e]; exact natLt _ 3 5 (by decide)
    · rw [e]; exact natLt _ 0 5 (by decide)
    · exact Nat.lt_of_lt_of_le (b1 _ e) (Nat.le_add_right _ _)
    · rw [e]; exact natLt _ 1 5 (by decide)
    · exact Nat.lt_of_lt_of_le (b2 _ e) (Nat.le_add_right _ _)
  · intro p hp hw
    have hlp := Heap.lt_size (N p hp).1
    simp only [List.mem_cons, List.not_mem_nil, or_false] at hw
    rcases hw with e | e | e | e <;> exact absurd (e ▸ hlp) (by first | exact natNot _ _ | exact Nat.lt_irrefl _)
  · intro hw
    simp only [List.mem_cons, List.not_mem_nil, or_false] at hw
    rcases hw with e | e | e | e <;> exact absurd (e ▸ hLs) (by first | exact natNot _ _ | exact Nat.lt_irrefl _)
  · intro c hc
    simp only [List.mem_cons, List.not_mem_nil, or_false] at hc
    rcases hc with rfl | rfl | rfl | rfl
    · exact fr 4
    · exact fr 3
    · exact fr 0
    · exact fr 1
  · intro c hc
    simp only [List.mem_cons, List.mem_append] at hc
    rcases hc with e | e | e | (e | e) | (e | e)
    · exact .inl (e ▸ Nat.le_add_right _ _)
    · exact .inl (e ▸ Nat.le_add_right _ _)
    · exact .inl (e ▸ Nat.le_add_right _ _)
    · exact .inl (e ▸ Nat.le_refl _)
    · exact .inr (.inl e)
    · exact .inl (e ▸ Nat.le_add_right _ _)
    · exact .inr (.inr e)
end
end Mine
end
section
open PySem PySem.Spec PySem.Calls PySem.W PyProof.Rows PySem.Flt
set_option maxRecDepth 100000
namespace Mine
/-- the ring: an object of _Accumulator, a class made from list -/
noncomputable abbrev accObj : Obj := { cls := .type "type", data := Data.cls { name := "_Accumulator", bases := [.type "list"], mro := [.ref 129, .type "list", .type "object"], ns := 128, qualname := "_Accumulator" }, slots := #[some (.ref 50), none, some (.str "_Accumulator" 264), some (.str "_Accumulator" 272), some (.builtin "list.__new__"), some (.bool true)] }
noncomputable abbrev ringObj (dx : Addr) (xs : Array Value) (k : Nat) : Obj := { cls := .ref 129, dict := some dx, data := .seq xs k }
section
variable {w : World}
theorem acc_at : List.lookup 129 (hd.heap_1 w.params) = some accObj := by kernel_rfl
theorem acc_list : mroIn (hd.heap_1 w.params) 129 (.type "list") = some true := by unfold mroIn clsIn; rw [acc_at]; kernel_rfl
theorem find_own {name : Str} {r : Option (Option Value)} (e : alongIn (hd.heap_1 w.params) name [.ref 129, .type "list", .type "object"] = r) : findIn (hd.heap_1 w.params) (.ref 129) name = r := by unfold findIn; dsimp only; rw [acc_at]; exact e
end
section
variable {w : World} {M : Model} {h : Heap} {x dx : Addr} {xs : Array Value} {k : Nat}
theorem ring_type (hx : h.get? x = some (ringObj dx xs k)) : Looks M h (typeOf (.ref x)) (.ref 129) := (Looks.ld hx).andThen .now
theorem ring_isList (X : (hd.heap_1 w.params).In h) (hx : h.get? x = some (ringObj dx xs k)) : Looks M h (isInstance (.ref x) (.type "list")) true := (ring_type hx).andThen (looks_mroIn X acc_list)
end
section
variable {prog : Program} {w : World} {A : Around} {E : Value → Shared → Prop} {s : Shared} {x dx : Addr} {xs : Array Value} {k : Nat}
/-- a method of list's, its check and its code, at the ring -/
theorem ring_check {i n : String} {rest : List Value} {Q : Unit → Shared → Prop} (X : (hd.heap_1 w.params).In s.heap) (hx : s.heap.get? x = some (ringObj dx xs k)) (hk : builtinKind i = some .method ∨ builtinKind i = some .slot) (hs : splitId i = some ("list", n)) (ha : argsOk i ⟨.ref x :: rest, []⟩) (q : Q () s) :
    wpAny (model prog w) A (checkBuiltinCall i ⟨.ref x :: rest, []⟩) Q E s := by
  rcases hk with hk | hk
  · simp only [checkBuiltinCall, hk, hs]
    refine wpAny_bind ((ring_isList X hx).here ?_)
    simp only [Bool.not_true, Bool.false_eq_true, if_false]
    cases hsig : Manifest.signature? i with
    | none => exact wpAny_pure q
    | some sig =>
      simp only [argsOk, hsig] at ha
      have h2 : Bind.checkArgs i sig ⟨.ref x :: rest, []⟩ = pure () := ha
      show wpAny _ A (Bind.checkArgs i sig ⟨.ref x :: rest, []⟩) Q E s
      rw [h2]; exact wpAny_pure q
  · exact check_slot hk hs (ring_isList X hx) ha q
theorem ring_code {i n : String} {b : Builtin} {rest : List Value} {Q : Value → Shared → Prop} (X : (hd.heap_1 w.params).In s.heap) (hx : s.heap.get? x = some (ringObj dx xs k)) (hk : builtinKind i = some .method ∨ builtinKind i = some .slot) (hs : splitId i = some ("list", n))
    (hb : entryFor table i = some b) (hp : plainId i = true) (ha : argsOk i ⟨.ref x :: rest, []⟩) (hc : wpAny (model prog w) A.in1 (b ⟨.ref x :: rest, []⟩) (fun fin s' => ∃ v, fin = .done (.ret v) ∧ Q v s') E s) :
    wpAny (model prog w) A (call (.builtin i) (.ref x :: rest)) Q E s := by
  refine wpAny_call (codeAny_call_builtin hp hb (ring_check X hx hk hs ha (wpAny_mono hc (fun fin s' h' => ?_) fun _ _ h' => h')))
  obtain ⟨v, rfl, hv⟩ := h'; exact hv
/-- append -/
theorem ring_appendAt {v : Value} {Q : Value → Shared → Prop} (X : (hd.heap_1 w.params).In s.heap) (hx : s.heap.get? x = some (ringObj dx xs k)) (hz : xs.size ≤ sizeLine)
    (h : ∀ h', Heap.SameBut x s.heap h' → h'.get? x = some (ringObj dx (xs.push v) (k + 1)) → Q .none { s with heap := h' }) :
    wpAny (model prog w) A (call (.builtin "list.append") [.ref x, v]) Q E s := by
  refine ring_code X hx (n := "append") (.inl (by decide +kernel)) (by decide +kernel) F.entry_list_append (by decide +kernel) (F.args_list_append_2 _ _) ?_
  show wpAny _ _ (updateSeq x (·.push v) >>= fun _ => ret .none) _ _ s
  refine wpAny_bind ?_
  refine wpAny_updateSeq hx rfl (wpAny_pure ⟨.none, rfl, h _ (Heap.SameBut.update ..) ?_⟩)
  have e : Obj.mapSeq (·.push v) (ringObj dx xs k) = ringObj dx (xs.push v) (k + 1) := by simp [Obj.mapSeq]
  rw [Heap.get?_update_self _ hx (by rw [e]; rfl), e]
/-- len, as super() calls it -/
theorem ring_lenAt {Q : Value → Shared → Prop} (X : (hd.heap_1 w.params).In s.heap) (hx : s.heap.get? x = some (ringObj dx xs k)) (h : ∀ t, Q (.int xs.size t) { s with toks := s.toks + 1 }) :
    wpAny (model prog w) A (call (.builtin "list.__len__") [.ref x]) Q E s := by
  refine ring_code X hx (n := "__len__") (.inr (by decide +kernel)) (by decide +kernel) F.entry_list_len (by decide +kernel) (by unfold argsOk; kernel_rfl) ?_
  show wpAny _ _ (seqSize x >>= fun r => retInt r) _ _ s
  refine wpAny_bind (wpAny_bind (wpAny_loadPart hx (wpAny_pure ?_)))
  refine wpAny_bind (wpAny_mkInt ?_)
  exact wpAny_pure ⟨_, rfl, h _⟩
/-- pop of the last, as super() calls it -/
theorem ring_popAt {v : Value} {Q : Value → Shared → Prop} (X : (hd.heap_1 w.params).In s.heap) (hx : s.heap.get? x = some (ringObj dx #[v] k))
    (h : ∀ h', Heap.SameBut x s.heap h' → h'.get? x = some (ringObj dx #[] (k + 1)) → Q v { s with heap := h' }) :
    wpAny (model prog w) A (call (.builtin "list.pop") [.ref x]) Q E s := by
  refine ring_code X hx (n := "pop") (.inl (by decide +kernel)) (by decide +kernel) F.entry_list_pop (by decide +kernel) (F.args_list_pop_1 _) ?_
  unfold Builtin.«list.pop»
  show wpAny _ _ (Builtin.List.listItems (.ref x) >>= _) _ _ s
  refine wpAny_bind ?_
  unfold Builtin.List.listItems
  refine wpAny_bind (wpAny_seqItems hx rfl (wpAny_pure ?_))
  show wpAny _ _ (updateSeq x (fun xs => xs.eraseIdxIfInBounds 0) >>= fun _ => ret v) _ _ s
  refine wpAny_bind ?_
  have e0 : (#[v] : Array Value).eraseIdxIfInBounds 0 = #[] := by simp [Array.eraseIdxIfInBounds]
  refine wpAny_updateSeq hx rfl (wpAny_pure ⟨_, rfl, h _ (Heap.SameBut.update ..) ?_⟩) (_hz' := by rw [e0]; exact Nat.zero_le _)
  have e : Obj.mapSeq (fun xs => xs.eraseIdxIfInBounds 0) (ringObj dx #[v] k) = ringObj dx #[] (k + 1) := by simp [Obj.mapSeq, e0]
  rw [Heap.get?_update_self _ hx (by rw [e]; rfl), e]
theorem acc_noDeque : mroIn (hd.heap_1 w.params) 129 (.type "collections.deque") = some false := by unfold mroIn clsIn; rw [acc_at]; kernel_rfl
theorem ring_seqKey {i : Value} {Q : Value → Shared → Prop} (X : (hd.heap_1 w.params).In s.heap) (hx : s.heap.get? x = some (ringObj dx xs k)) {name : Str} (h : Q i s) : wpAny (model prog w) A (sequenceKey (.ref x) i name) Q E s := by
  unfold sequenceKey
  refine wpAny_bind ((ring_type hx).here ?_)
  dsimp only
  refine wpAny_bind ?_
  unfold seqItemTypes
  rw [List.anyM]
  refine wpAny_bind ((looks_mroIn X acc_noDeque).here ?_)
  exact wpAny_pure (wpAny_pure h)
/-- the special methods that list gives the class -/
theorem ring_special {name : Str} {i : String} {args : List Value} {Q : Option Value → Shared → Prop} (X : (hd.heap_1 w.params).In s.heap) (hx : s.heap.get? x = some (ringObj dx xs k)) (S : Slot "list" name i) (hf : findIn (hd.heap_1 w.params) (.ref 129) name = some (some (.builtin i)))
    (hc : wpAny (model prog w) A (call (.builtin i) (.ref x :: args)) (fun v => Q (some v)) E s) : wpAny (model prog w) A (callSpecial? (.ref x) name args) Q E s := by
  simp only [callSpecial?]
  refine wpAny_bind (((ring_type hx).andThen (looks_findIn X hf)).here ?_)
  simp only [S.bind]
  exact wpAny_holding (wpAny_bind (wpAny_pure (wpAny_bind (wpAny_mono hc (fun v s' h' => wpAny_pure h') fun _ _ h' => h'))))
/-- a slice of the ring is a list -/
theorem ring_sliceAt {sl : Addr} {vl vu vs : Value} {lo hi st : Option Int} {Q : Value → Shared → Prop} (X : (hd.heap_1 w.params).In s.heap) (hx : s.heap.get? x = some (ringObj dx xs k))
    (hs : s.heap.IsSliceOf sl vl vu vs) (pl : IsPart vl lo) (pu : IsPart vu hi) (ps : IsPart vs st) (h0 : st ≠ some 0) (hsz : xs.size ≤ sizeLine)
    (h : Q (.ref s.heap.objs.size) { s with heap := s.heap.push { cls := .type "list", data := .seq (slicePick xs lo hi st) } }) : wpAny (model prog w) A (getItem (.ref x) (.ref sl)) Q E s := by
  obtain ⟨os, hos, hcs, hds⟩ := id hs
  have hTs : s.TypeIs (.ref sl) "slice" := ⟨os, hos, hcs⟩
  unfold getItem
  refine wpAny_holding ?_
  refine wpAny_bind (ring_seqKey X hx ?_)
  refine wpAny_bind (ring_special X hx F.slot_list_getitem (find_own (by kernel_rfl)) ?_)
  refine ring_code X hx (n := "__getitem__") ?_ (by decide +kernel) F.entry_list_getitem (by decide +kernel) (by unfold argsOk; kernel_rfl) ?_
  · first | exact .inl (by decide +kernel) | exact .inr (by decide +kernel)
  show wpAny _ _ (Builtin.List.listSubscript? (.ref sl) >>= _) _ _ s
  refine wpAny_bind ?_
  unfold Builtin.List.listSubscript?
  refine wpAny_bind (wpAny_specialOf hTs slice_no_index ?_)
  simp only [Option.isNone_none, if_true]
  refine wpAny_pure ?_
  show wpAny _ _ (typeOf (.ref sl) >>= _) _ _ s
  refine wpAny_bind (wpAny_typeOf hTs ?_)
  rw [if_neg (by decide)]
  rw [listSliceParts_eq]
  have hstep : ¬ ((rawPart st == rawInt 0) = true) := by
    cases st with
    | none => exact Bool.false_ne_true
    | some c =>
      intro hh
      have : c = 0 := by simpa [rawPart, rawInt] using hh
      exact h0 (by rw [this])
  refine wpAny_bind (wpAny_bind (wpAny_field hos hds (x := vs) rfl (wpAny_bind (wpAny_listPart ps ?_))))
  rw [if_neg hstep]
  refine wpAny_bind (wpAny_field hos hds (x := vl) rfl (wpAny_bind (wpAny_listPart pl ?_)))
  refine wpAny_bind (wpAny_field hos hds (x := vu) rfl (wpAny_bind (wpAny_listPart pu (wpAny_pure ?_))))
  refine wpAny_bind (m := Builtin.List.listItems (.ref x)) ?_
  unfold Builtin.List.listItems
  refine wpAny_bind (wpAny_seqItems hx rfl (wpAny_pure ?_))
  refine wpAny_bind (wpAny_of_eq (sliceIndices_raw lo hi st xs.size h0) ?_)
  refine wpAny_bind (wpAny_newObj_type (wpAny_pure ⟨_, rfl, wpAny_pure h⟩) (Nat.le_trans (slicePick_size_le xs lo hi st) hsz))
/-- what stands in place of a stretch of the ring -/
noncomputable def cutIn (xs : Array Value) (a b : Nat) (new : Array Value) : Array Value := xs.extract 0 a ++ new ++ xs.extract (max a b) xs.size
noncomputable def ringBump (xs ys : Array Value) (k : Nat) : Nat := if (ys.size == xs.size) = true then k else k + 1
theorem ring_cutAt {sl l : Addr} {vl vu : Value} {lo hi : Option Int} {new : Array Value} {kl a b : Nat} {Q : Unit → Shared → Prop} (X : (hd.heap_1 w.params).In s.heap) (hx : s.heap.get? x = some (ringObj dx xs k))
    (hs : s.heap.IsSliceOf sl vl vu .none) (pl : IsPart vl lo) (pu : IsPart vu hi) (hl : s.heap.get? l = some { cls := .type "list", data := .seq new kl }) (hxl : x ≠ l) (hb : sliceBounds lo hi none xs.size = ((a : Int), (b : Int), 1)) (hsz : xs.size + new.size ≤ sizeLine)
    (h : ∀ h', Heap.SameBut x s.heap h' → h'.get? x = some (ringObj dx (cutIn xs a b new) (ringBump xs (cutIn xs a b new) k)) → Q () { s with heap := h' }) : wpAny (model prog w) A (setItem (.ref x) (.ref sl) (.ref l)) Q E s := by
  obtain ⟨os, hos, hcs, hds⟩ := id hs
  have hTs : s.TypeIs (.ref sl) "slice" := ⟨os, hos, hcs⟩
  have hTl : s.TypeIs (.ref l) "list" := ⟨_, hl, rfl⟩
  unfold setItem
  refine wpAny_holding ?_
  refine wpAny_bind (ring_seqKey X hx ?_)
  refine wpAny_bind (ring_special X hx F.slot_list_setitem (find_own (by kernel_rfl)) ?_)
  refine ring_code X hx (n := "__setitem__") ?_ (by decide +kernel) F.entry_list_setitem (by decide +kernel) (F.args_list_setitem_3 _ _ _) ?_
  · first | exact .inl (by decide +kernel) | exact .inr (by decide +kernel)
  show wpAny _ _ (Builtin.List.listSubscript? (.ref sl) >>= _) _ _ s
  refine wpAny_bind ?_
  unfold Builtin.List.listSubscript?
  refine wpAny_bind (wpAny_specialOf hTs slice_no_index ?_)
  simp only [Option.isNone_none, if_true]
  refine wpAny_pure ?_
  show wpAny _ _ (typeOf (.ref sl) >>= _) _ _ s
  refine wpAny_bind (wpAny_typeOf hTs ?_)
  rw [if_neg (by decide)]
  rw [listSliceParts_eq]
  refine wpAny_bind (wpAny_bind (wpAny_field hos hds (x := .none) rfl (wpAny_bind (wpAny_listPart .none ?_))))
  rw [if_neg (by decide)]
  refine wpAny_bind (wpAny_field hos hds (x := vl) rfl (wpAny_bind (wpAny_listPart pl ?_)))
  refine wpAny_bind (wpAny_field hos hds (x := vu) rfl (wpAny_bind (wpAny_listPart pu (wpAny_pure ?_))))
  have hsame : Builtin.List.listSameRef (.ref x) (.ref l) = false := by
    show (x == l) = false
    simp [hxl]
  rw [if_neg (by rw [hsame]; decide)]
  refine wpAny_bind ?_
  unfold Builtin.List.listAllItems
  refine wpAny_bind (wpAny_typeOf hTl ?_)
  rw [if_pos (by decide)]
  unfold Builtin.List.listItems
  refine wpAny_bind (wpAny_seqItems hl rfl (wpAny_pure ?_))
  refine wpAny_bind (wpAny_bind (wpAny_seqItems hx rfl (wpAny_pure ?_)))
  refine wpAny_bind (wpAny_of_eq (sliceIndices_raw lo hi none xs.size (by simp)) ?_)
  rw [hb]
  dsimp only
  rw [if_pos (by decide)]
  refine wpAny_bind (wpAny_rule ?_)
  rw [if_neg (by unfold Builtin.List.listTooLong; simpa using hsz)]
  have ea : ((a : Nat) : Int).toNat = a := rfl
  have eb : (max (a : Int) (b : Int)).toNat = max a b := by grind
  rw [ea, eb]
  show wpAny _ _ (updateSeq x (fun xs => cutIn xs a b new) >>= _) _ _ s
  have hcs : (cutIn xs a b new).size ≤ xs.size + new.size := by
    unfold cutIn
    simp only [Array.size_append, Array.size_extract]
    (clear X hx hs pl pu hl hxl hb hsz h hos hcs hds hTs hTl hsame ea eb; lia)
  have e : Obj.mapSeq (fun xs => cutIn xs a b new) (ringObj dx xs k) = ringObj dx (cutIn xs a b new) (ringBump xs (cutIn xs a b new) k) := by
    simp only [Obj.mapSeq, ringBump]
  refine wpAny_bind (wpAny_updateSeq hx rfl ?_ (hz := by lia) (_hz' := by lia))
  refine wpAny_bind (wpAny_letGo ?_)
  refine wpAny_pure ⟨_, rfl, wpAny_pure (h _ (Heap.SameBut.update ..) ?_)⟩
  rw [Heap.get?_update_self _ hx (by rw [e]; rfl), e]
end
end Mine
end
section
open PySem PySem.Spec PySem.Calls PySem.W PyProof.Rows PySem.Flt Builtin Builtin.ObjectAttr
set_option maxRecDepth 100000
namespace Mine
/-- the ring's own names -/
noncomputable abbrev inits : Str := "_initial_size"
def RD (o : Obj) : Prop := o.cls = .type "dict" ∧ o.dict = none ∧ o.slots = #[] ∧ (o.data = .dict #[] 0 ∨ ∃ hs t v n, o.data = .dict #[⟨hs, .str inits t, v⟩] n)
theorem rd_shadow {o : Obj} {name : Str} (r : RD o) (hn : ∀ hs t v, (lookIn name { cls := .type "dict", data := .dict #[⟨hs, .str inits t, v⟩] 0 }) = some none) : lookIn name o = some none := by
  obtain ⟨c, d, dt, sl⟩ := o
  obtain ⟨rfl, rfl, rfl, r⟩ := r
  dsimp only at r
  rcases r with rfl | ⟨hs, t, v, n, rfl⟩
  · rfl
  · exact hn hs t v
theorem rd_has {o : Obj} (r : RD o) : (lookIn inits o).isSome = true := by
  obtain ⟨c, d, dt, sl⟩ := o
  obtain ⟨rfl, rfl, rfl, r⟩ := r
  dsimp only at r
  rcases r with rfl | ⟨hs, t, v, n, rfl⟩
  · rfl
  · rfl
theorem rd_put {o : Obj} (r : RD o) (hs : Int) (t : Tok) (v : Value) : RD (Obj.putName inits hs (.str inits t) v o) := by
  obtain ⟨c, d, dt, sl⟩ := o
  obtain ⟨rfl, rfl, rfl, r⟩ := r
  dsimp only at r
  rcases r with rfl | ⟨hs', t', v', n, rfl⟩
  · exact ⟨rfl, rfl, rfl, .inr ⟨hs, t, v, 1, rfl⟩⟩
  · exact ⟨rfl, rfl, rfl, .inr ⟨hs', t', v, n, rfl⟩⟩
theorem rd_data {o : Obj} (r : RD o) : ∃ es n, o.data = .dict es n ∧ es.size ≤ 1 := by
  obtain ⟨-, -, -, r⟩ := r
  rcases r with e | ⟨hs, t, v, n, e⟩
  · exact ⟨_, _, e, by decide⟩
  · exact ⟨_, _, e, by simp⟩
section
variable {w : World}
theorem acc_cls : clsIn (hd.heap_1 w.params) 129 = some { name := "_Accumulator", bases := [.type "list"], mro := [.ref 129, .type "list", .type "object"], ns := 128, qualname := "_Accumulator" } := by unfold clsIn; rw [acc_at]
theorem acc_object : mroIn (hd.heap_1 w.params) 129 (.type "object") = some true := by unfold mroIn; rw [acc_cls]; kernel_rfl
theorem acc_sa : findIn (hd.heap_1 w.params) (.ref 129) "__setattr__" = some (some (.builtin "object.__setattr__")) := find_own (by kernel_rfl)
theorem acc_inits : findIn (hd.heap_1 w.params) (.ref 129) inits = some none := find_own (by kernel_rfl)
end
theorem list_passes (self : Value) : refuseLoop self "__setattr__" [.type "list", .type "object"] = pure () := by kernel_rfl
section
variable {prog : Program} {w : World} {A : Around} {E : Value → Shared → Prop} {R : Result → Shared → Prop} {s : Shared} {h₀ : Heap} {L x dx : Addr} {m : Str → Option Value} {news : List (Addr × Obj)} {xs : Array Value} {k : Nat} {od : Obj}
theorem ring_inst (X : s.heap.get? x = some (ringObj dx xs k)) (hd : s.heap.get? dx = some od) : InstAt s.heap x (ringObj dx xs k) 129 (some od) := ⟨X, rfl, rfl, hd⟩
theorem ring_osa {tk : Tok} {v : Value} (F : Fr h₀ L s.heap m) (N : News h₀ L s.heap ((x, ringObj dx xs k) :: (dx, od) :: news)) (X : (hd.heap_1 w.params).In s.heap) (r : RD od) (h1 : x ≠ dx) (h2 : ∀ p ∈ news, p.1 ≠ dx)
    (h : ∀ od' h', RD od' → Fr h₀ L h' m → News h₀ L h' ((x, ringObj dx xs k) :: (dx, od') :: news) → R (.ok (.ret .none)) { s with heap := h', toks := s.toks + 1 }) :
    codeAny (model prog w) A (.call (.builtin "object.__setattr__") ⟨[.ref x, .str inits tk, v], []⟩) R s := by
  have SF := PySem.F.store_object
  have hx := (N _ (.head _)).1
  have hdx := (N _ (.tail _ (.head _))).1
  have I := ring_inst hx hdx
  have sub : Looks (model prog w) s.heap (isInstance (.ref x) (.type "object")) true := I.type.andThen (looks_mroIn X acc_object)
  refine codeAny_call_builtin SF.slot.plain SF.entry (@check_slot (model prog w) _ _ s "object.__setattr__" "object" "__setattr__" (.ref x) [.str inits tk, v] [] _ SF.kind SF.split sub (SF.args (.ref x) (.str inits tk) v) ?_)
  have hm : Looks (model prog w) s.heap (mroOf (.ref 129)) [.ref 129, .type "list", .type "object"] := (looks_clsIn X acc_cls).andThen .now
  rw [osa_eq, refuse_eq]
  refine wpAny_bind (wpAny_bind (I.type.here (wpAny_bind (hm.here ?_))))
  rw [refuseLoop_ref, list_passes]
  refine wpAny_pure (wpAny_bind (I.type.here (wpAny_bind ((looks_findIn X acc_inits).here (wpAny_bind ?_)))))
  refine wpAny_pure ?_
  obtain ⟨U1, U2⟩ := news_upd (f := Obj.putName inits (PyData.keyHash w.params inits) (.str inits s.toks) v) (pre := [(x, ringObj dx xs k)]) F N (fun p hp => by rw [List.mem_singleton.mp hp]; exact h1) h2 rfl (by
    obtain ⟨es, n, e, -⟩ := rd_data (rd_put r (PyData.keyHash w.params inits) s.toks v)
    generalize Obj.putName inits (PyData.keyHash w.params inits) (.str inits s.toks) v od = o at e
    obtain ⟨_, _, dd, _⟩ := o
    cases e; rfl)
  have D := hdx
  have D' := (U2 (dx, _) (.tail _ (.head _))).1
  refine wpAny_bind (wpAny_pure (wpAny_bind (wpAny_bind (wpAny_loadPart hx (wpAny_bind ((looks_clsIn X acc_cls).here ?_))))))
  refine wpAny_pure (a := some dx) (wpAny_bind (wpAny_pure (wpAny_bind ?_)))
  unfold nsSet
  refine wpAny_bind (wpAny_bind (wpAny_askSetting (wpAny_pure (wpAny_bind (wpAny_mkText (wpAny_bind (wpAny_loadPart D ?_)))))))
  have fin : (od.data = .dict #[] 0 ∨ ∃ hs t v n, od.data = .dict #[⟨hs, .str inits t, v⟩] n) := r.2.2.2
  obtain ⟨es, n, e, c⟩ : ∃ es n, od.data = .dict es n ∧ aRefKeyMayBeTheName inits es = false := by
    rcases fin with e | ⟨hs, t, v', n, e⟩
    · exact ⟨_, _, e, by rw [aRefKeyMayBeTheName_at]; simp⟩
    · exact ⟨_, _, e, by rw [aRefKeyMayBeTheName_at]; simp [DictEntry.refKey]⟩
  dsimp only
  rw [e]
  dsimp only
  rw [c]
  refine wpAny_updatePart D ?_
  obtain ⟨es', n', e', hz⟩ := rd_data (rd_put r (PyData.keyHash w.params inits) s.toks v)
  refine wpAny_bind (wpAny_lookBehind D' (by dsimp only; rw [e']; exact pastItsLine_dict (by rw [sizeLine_eq]; omega)) ?_)
  exact wpAny_pure (h _ _ (rd_put r _ _ _) U1 U2)
theorem ring_setAttr {v : Value} {Q : Unit → Shared → Prop} (F : Fr h₀ L s.heap m) (N : News h₀ L s.heap ((x, ringObj dx xs k) :: (dx, od) :: news)) (X : (hd.heap_1 w.params).In s.heap) (r : RD od) (h1 : x ≠ dx) (h2 : ∀ p ∈ news, p.1 ≠ dx)
    (h : ∀ od' h' tk, RD od' → Fr h₀ L h' m → News h₀ L h' ((x, ringObj dx xs k) :: (dx, od') :: news) → Q () { s with heap := h', toks := tk }) :
    wpAny (model prog w) A (setAttr (.ref x) inits v) Q E s := by
  refine set_plain X (ring_inst (N _ (.head _)).1 (N _ (.tail _ (.head _))).1) acc_sa ?_
  exact ring_osa (s := { s with toks := s.toks + 1 }) F N X r h1 h2 fun od' h' r' F' N' => h od' h' _ r' F' N'
/-- methods, the class's own and list's -/
theorem acc_ga : findIn (hd.heap_1 w.params) (.ref 129) "__getattribute__" = some (some (.builtin "list.__getattribute__")) := find_own (by kernel_rfl)
theorem acc_gattr : findIn (hd.heap_1 w.params) (.ref 129) "__getattr__" = some none := find_own (by kernel_rfl)
theorem canon_list_ga : (Manifest.canonical "list.__getattribute__" != "object.__getattribute__") = false := by decide +kernel
theorem ring_method {name : Str} {f t : Value} {pl : Sem Bool} {Q : Value × List Value → Shared → Prop} (X : (hd.heap_1 w.params).In s.heap) (hx : s.heap.get? x = some (ringObj dx xs k)) (hd' : s.heap.get? dx = some od) (r : RD od)
    (hf : findIn (hd.heap_1 w.params) (.ref 129) name = some (some f)) (ht : typeIn (hd.heap_1 w.params) f = some t) (htt : (t != .type "function" && t != .type "method_descriptor" && t != .type "wrapper_descriptor") = false) (hs : ∀ hs t v, (lookIn name { cls := .type "dict", data := .dict #[⟨hs, .str inits t, v⟩] 0 }) = some none) (h : Q (f, [.ref x]) s) :
    wpAny (model prog w) A (getMethod (.ref x) name pl) Q E s := by
  have I := ring_inst hx hd'
  unfold getMethod specialOf
  refine wpAny_bind (wpAny_bind (I.type.here ((looks_findIn X acc_ga).here ?_)))
  dsimp only
  rw [canon_list_ga, if_neg (by decide)]
  refine wpAny_bind (wpAny_bind (I.type.here ((looks_findIn X acc_gattr).here ?_)))
  refine wpAny_bind (wpAny_bind (I.type.here ((looks_findIn X hf).here (wpAny_bind ((looks_typeIn X ht).here ?_)))))
  rw [htt, if_neg (by decide)]
  refine wpAny_bind (wpAny_loadPart hx ?_)
  refine wpAny_bind (wpAny_bind (wpAny_loadPart hd' ?_))
  rw [nsLook_of (rd_shadow r hs)]
  exact wpAny_pure (wpAny_bind (wpAny_rule (wpAny_pure h)))
end
end Mine
end
section
open PySem PySem.Spec PySem.Calls PySem.W PyProof.Rows PySem.Flt Builtin Builtin.ObjectAttr
set_option maxRecDepth 100000
set_option maxHeartbeats 4000000
namespace Mine
section
variable {w : World} {M : Model} {h : Heap}
theorem acc_get (X : (hd.heap_1 w.params).In h) : h.get? 129 = some accObj := X _ _ acc_at
theorem acc_mro (X : (hd.heap_1 w.params).In h) : Looks M h (mroOf (.ref 129)) [.ref 129, .type "list", .type "object"] := (looks_clsIn X acc_cls).andThen .now
theorem acc_made (X : (hd.heap_1 w.params).In h) : Looks M h (Bind.madeBy (.ref 129)) (some "list.__new__") := by
  intro A Q E s k q
  unfold Bind.madeBy
  refine wpAny_bind (acc_mro X A _ E s k ?_)
  rw [List.forIn_cons]
  exact wpAny_bind (wpAny_bind (wpAny_bind (wpAny_bind (wpAny_loadPart (k _ _ (X _ _ acc_at)) (wpAny_pure (wpAny_pure (wpAny_pure (wpAny_pure q))))))))
theorem acc_base (X : (hd.heap_1 w.params).In h) : Looks M h (Bind.staticBase (.ref 129)) (.ref 129) := by
  intro A Q E s k q
  unfold Bind.staticBase
  refine wpAny_bind (acc_mro X A _ E s k ?_)
  rw [List.forIn_cons]
  exact wpAny_bind (wpAny_bind (wpAny_bind (acc_made X A _ E s k (wpAny_pure (wpAny_pure (wpAny_pure q))))))
end
section
variable {prog : Program} {w : World} {A : Around} {R : Result → Shared → Prop} {h : Heap} {g : Array GenState} {d : Drawn} {t : Nat} {os : OsState}
theorem acc_new {a : Value} (X : (hd.heap_1 w.params).In h) (hq : R (.ok (.ret (.ref (h.objs.size + 1)))) ⟨(h.push emptyDict).push (ringObj h.objs.size #[] 0), g, d, t, os⟩) :
    codeAny (model prog w) A (.call (.builtin "list.__new__") ⟨[.ref 129, a], []⟩) R ⟨h, g, d, t, os⟩ := by
  have hk : builtinKind "list.__new__" = some .builtinFn := by decide +kernel
  have hs : splitId "list.__new__" = some ("list", "__new__") := by decide +kernel
  have hC := acc_get X
  have base := acc_base (M := model prog w) X
  have made := acc_made (M := model prog w) X
  have sub : Looks (model prog w) h (isSubtype (.ref 129) (.type "list")) true := looks_mroIn X acc_list
  refine codeAny_of_tree ?_
  show wpAny _ A.in1 (do checkBuiltinCall "list.__new__" ⟨[.ref 129, a], []⟩; again (.builtin "list.__new__" ⟨[.ref 129, a], []⟩)) _ _ _
  refine wpAny_bind ?_
  simp only [checkBuiltinCall, hk, hs]
  rw [if_pos (by decide)]
  have isT : Looks (model prog w) h (isType (.ref 129)) true := (Looks.ld hC).andThen .now
  refine wpAny_bind (isT.at ?_)
  rw [if_neg (by decide)]
  refine wpAny_bind (sub.at ?_)
  rw [if_neg (by decide)]
  refine wpAny_bind (base.at (wpAny_bind (made.at ?_)))
  dsimp only
  rw [if_neg (by simp)]
  have fin : wpAny (model prog w) A.in1 (again (Code.builtin "list.__new__" ⟨[.ref 129, a], []⟩)) (fun fin s' => match fin with | .done f => R (.ok f) s' | .again c' => c'.quiet = true ∧ codeAny (model prog w) A c' R s') (fun e s' => R (.error e) s') ⟨h, g, d, t, os⟩ := by
    refine wpAny_pure ⟨plainId_quiet F.plain_list_new _, codeAny_builtin_stack F.entry_list_new rfl fun p st => ?_⟩
    rw [Around.under_plainId F.plain_list_new _]
    have hown := owner_list_new
    simp only [hown]
    refine wpAny_bind (isT.at ?_)
    rw [if_neg (by decide)]
    refine wpAny_bind (sub.at ?_)
    rw [if_neg (by decide)]
    refine wpAny_bind (wpAny_pure ?_)
    rw [if_neg (by decide)]
    have hC' := Heap.get?_push_of_some (ringObj h.objs.size #[] 0) (Heap.get?_push_of_some emptyDict hC)
    unfold newDict
    repeat (first | exact hq | (with_reducible refine nd_load hC' ?_) | lk)
    rw [Heap.size_push]
    exact hq
  have sg : (match Manifest.signature? "list.__new__" with | some sig => Bind.checkArgs "list.__new__" sig ⟨[.ref 129, a], []⟩ | x => pure ()) = pure () := by kernel_rfl
  refine wpAny_mono (Q := fun _ s' => s' = ⟨h, g, d, t, os⟩) (E := fun _ _ => False) ?_ (fun _ s' e => by subst e; exact fin) fun _ _ e => e.elim
  exact wpAny_of_eq sg rfl
theorem acc_call {a : Value} (X : (hd.heap_1 w.params).In h)
    (hq : codeAny (model prog w) (A.under (.builtin "type.__call__" ⟨[.ref 129, a], []⟩)) (.call (.ref 66) ⟨[.ref (h.objs.size + 1), a], []⟩) (InitBack (h.objs.size + 1) R) ⟨(h.push emptyDict).push (ringObj h.objs.size #[] 0), g, d, t, os⟩) :
    codeAny (model prog w) A (.call (.ref 129) ⟨[a], []⟩) R ⟨h, g, d, t, os⟩ := by
  have hC := acc_get X
  have base := acc_base (M := model prog w) X
  have made := acc_made (M := model prog w) X
  have self : Looks (model prog w) h (isSubtype (.ref 129) (.ref 129)) true := looks_mroIn X (by unfold mroIn; rw [acc_cls]; kernel_rfl)
  have call : Looks (model prog w) h (specialOf (.ref 129) "__call__") (some (.builtin "type.__call__")) := looks_specialIn X (by unfold specialIn typeIn; dsimp only; rw [acc_at]; kernel_rfl)
  have typ : Looks (model prog w) h (isInstance (.ref 129) (.type "type")) true := looks_instIn X (by unfold instIn typeIn; dsimp only; rw [acc_at]; kernel_rfl)
  have hi : Looks (model prog w) h (typeLookup (.ref 129) "__init__") (some (.ref 66)) := looks_findIn X (find_own (by kernel_rfl))
  have hb := fun self => bind_fn (M := model prog w) X (f := 66) self (by kernel_rfl)
  refine codeAny_of_tree ?_
  show wpAny _ _ (callAny (.ref 129) _) _ _ _
  refine nd_load hC ?_
  show wpAny _ _ (callAny.viaDunder (.ref 129) _) _ _ _
  unfold callAny.viaDunder
  refine wpAny_bind (call.at ?_)
  dsimp only
  rw [tc_bind]
  refine wpAny_bind (wpAny_pure (wpAny_bind (wpAny_pure ?_)))
  refine wpAny_pure (a := Fin.again (.call (.builtin "type.__call__") ⟨[.ref 129, a], []⟩)) (And.intro rfl ?_)
  refine codeAny_call_builtin_at (Code.quiet_builtin _ (by decide +kernel)) entry_typeCall (check_slot tc_kind tc_split typ (tc_args _ _ _) ?_)
  unfold Builtin.«type.__call__»
  have hm := acc_mro (M := model prog w) X
  repeat (first | with_reducible refine wpAny_call ?_ | lk)
  refine acc_new X ?_
  have k : ∀ b o, h.get? b = some o → ((h.push emptyDict).push (ringObj h.objs.size #[] 0)).get? b = some o := fun b o e => Heap.get?_push_of_some _ (Heap.get?_push_of_some _ e)
  have hx : ((h.push emptyDict).push (ringObj h.objs.size #[] 0)).get? (h.objs.size + 1) = some (ringObj h.objs.size #[] 0) := by heap_get
  have t1 : Looks (model prog w) ((h.push emptyDict).push (ringObj h.objs.size #[] 0)) (typeOf (.ref (h.objs.size + 1))) (.ref 129) := (Looks.ld hx).andThen .now
  have s1 := self.keeps k
  have i1 := hi.keeps k
  have b1 := (hb (.ref (h.objs.size + 1))).keeps k
  dsimp only
  unfold isInstance callSpecial? specialOf
  repeat (first | with_reducible refine wpAny_call ?_ | lk)
  refine codeAny_mono hq fun r s' z => ?_
  rcases r with e | (v | _ | _ | _) <;> first | exact z | exact z.elim | skip
  obtain ⟨rfl, z⟩ := z
  exact wpAny_pure (wpAny_pure z)
end
section
variable {prog : Program} {w : World} {A : Around} {s : Shared} {h₀ : Heap} {L : Addr} {m : Str → Option Value} {news : List (Addr × Obj)} {R : Result → Shared → Prop}
theorem acc_make {a : Value} (F : Fr h₀ L s.heap m) (N : News h₀ L s.heap news) (X : (hd.heap_1 w.params).In s.heap)
    (h : ∀ x dx h', Fr h₀ L h' m → News h₀ L h' ((x, ringObj dx #[] 0) :: (dx, emptyDict) :: news) → (∀ p ∈ news, p.1 < dx) → dx < x →
      codeAny (model prog w) (A.under (.builtin "type.__call__" ⟨[.ref 129, a], []⟩)) (.call (.ref 66) ⟨[.ref x, a], []⟩) (InitBack x R) { s with heap := h' }) :
    codeAny (model prog w) A (.call (.ref 129) ⟨[a], []⟩) R s := by
  obtain ⟨hh, g, d, t, os⟩ := s
  refine acc_call X (h _ hh.objs.size _ ((F.push _).push _) ?_ (fun p hp => Heap.lt_size (N p hp).1) (Nat.lt_succ_self _))
  have := (N.push F emptyDict).push (F.push _) (ringObj hh.objs.size #[] 0)
  rwa [Heap.size_push] at this
end
end Mine
end
section
open PySem PySem.Spec PySem.Calls PySem.W PyProof.Rows PySem.Flt Builtin Builtin.ObjectAttr
set_option maxRecDepth 100000
set_option maxHeartbeats 4000000
namespace Mine
theorem slot_md_get : Slot "method_descriptor" "__get__" "method_descriptor.__get__" :=
  .of (owner := "method_descriptor") (n := "__get__") (by rw [typeLookup_type, builtinLookup_eq_fast]; kernel_rfl) (by decide +kernel) (by decide +kernel) (by decide +kernel)
    (by first | exact .inl (by decide +kernel) | exact .inr (by decide +kernel)) (by rw [isSubtype_type]; kernel_rfl)
theorem slot_wd_get : Slot "wrapper_descriptor" "__get__" "wrapper_descriptor.__get__" :=
  .of (owner := "wrapper_descriptor") (n := "__get__") (by rw [typeLookup_type, builtinLookup_eq_fast]; kernel_rfl) (by decide +kernel) (by decide +kernel) (by decide +kernel)
    (by first | exact .inl (by decide +kernel) | exact .inr (by decide +kernel)) (by rw [isSubtype_type]; kernel_rfl)
theorem entry_md_get : entryFor table "method_descriptor.__get__" = some Builtin.«method_descriptor.__get__» := entryFor_of_tree (by kernel_rfl)
theorem entry_wd_get : entryFor table "wrapper_descriptor.__get__" = some Builtin.«wrapper_descriptor.__get__» := entryFor_of_tree (by kernel_rfl)
theorem args_md_get (a b c : Value) : argsOk "method_descriptor.__get__" ⟨[a, b, c], []⟩ := by unfold argsOk; kernel_rfl
theorem args_wd_get (a b c : Value) : argsOk "wrapper_descriptor.__get__" ⟨[a, b, c], []⟩ := by unfold argsOk; kernel_rfl
section
variable {prog : Program} {w : World} {A : Around} {E : Value → Shared → Prop} {s : Shared} {x dx : Addr} {xs : Array Value} {k : Nat}
theorem get_md {i : String} {Q : Value → Shared → Prop} (X : (hd.heap_1 w.params).In s.heap) (hx : s.heap.get? x = some (ringObj dx xs k)) (hT : s.TypeIs (.builtin i) "method_descriptor") (e : ".".intercalate (i.cutAt '.').dropLast = "list") (ht : Manifest.toldItsClass.contains i = false)
    (hq : Q (.ref s.heap.objs.size) { s with heap := s.heap.push { cls := .type "builtin_function_or_method", data := .fields #[.builtin i, .ref x] } }) :
    wpAny (model prog w) A (call (.builtin "method_descriptor.__get__") [.builtin i, .ref x, .ref 129]) Q E s := by
  refine wpAny_call_entry slot_md_get hT entry_md_get ?_ (args_md_get _ _ _)
  have hi : Looks (model prog w) s.heap (isInstance (.ref x) (.type (".".intercalate (i.cutAt '.').dropLast))) true := by rw [e]; exact ring_isList (M := model prog w) X hx
  obtain ⟨h, g, d, t, os⟩ := s
  unfold Builtin.«method_descriptor.__get__»
  repeat (first | rw [ht] | lk)
  exact ⟨_, rfl, hq⟩
theorem get_wd {i : String} {Q : Value → Shared → Prop} (X : (hd.heap_1 w.params).In s.heap) (hx : s.heap.get? x = some (ringObj dx xs k)) (hT : s.TypeIs (.builtin i) "wrapper_descriptor") (e : ".".intercalate (i.cutAt '.').dropLast = "list")
    (hq : Q (.ref s.heap.objs.size) { s with heap := s.heap.push { cls := .type "method-wrapper", data := .fields #[.builtin i, .ref x] } }) :
    wpAny (model prog w) A (call (.builtin "wrapper_descriptor.__get__") [.builtin i, .ref x, .ref 129]) Q E s := by
  refine wpAny_call_entry slot_wd_get hT entry_wd_get ?_ (args_wd_get _ _ _)
  have hi : Looks (model prog w) s.heap (isInstance (.ref x) (.type (".".intercalate (i.cutAt '.').dropLast))) true := by rw [e]; exact ring_isList (M := model prog w) X hx
  obtain ⟨h, g, d, t, os⟩ := s
  unfold Builtin.«wrapper_descriptor.__get__»
  repeat lk
  exact ⟨_, rfl, hq⟩
end
/-- what super() gives of list's -/
structure Bnd (i T g G : String) : Prop where
  typ : ∀ s : Shared, s.TypeIs (.builtin i) T
  look : typeLookup (.type T) "__get__" = pure (some (.builtin G))
  get : ∀ (prog : Program) (w : World) (A : Around) (E : Value → Shared → Prop) (s : Shared) (x dx : Addr) (xs : Array Value) (k : Nat) (Q : Value → Shared → Prop), (hd.heap_1 w.params).In s.heap → s.heap.get? x = some (ringObj dx xs k) →
    Q (.ref s.heap.objs.size) { s with heap := s.heap.push { cls := .type g, data := .fields #[.builtin i, .ref x] } } → wpAny (model prog w) A (call (.builtin G) [.builtin i, .ref x, .ref 129]) Q E s
theorem type_list_len : typeOf (.builtin "list.__len__") = pure (.type "wrapper_descriptor") := by show builtinType _ = _; rw [builtinType_eq_fast]; kernel_rfl
theorem type_list_init : typeOf (.builtin "list.__init__") = pure (.type "wrapper_descriptor") := by show builtinType _ = _; rw [builtinType_eq_fast]; kernel_rfl
theorem bnd_pop : Bnd "list.pop" "method_descriptor" "builtin_function_or_method" "method_descriptor.__get__" := ⟨fun _ => F.type_list_pop, slot_md_get.lookup, fun _ _ _ _ _ _ _ _ _ _ X hx hq => get_md X hx F.type_list_pop (by decide +kernel) (by decide +kernel) hq⟩
theorem bnd_len : Bnd "list.__len__" "wrapper_descriptor" "method-wrapper" "wrapper_descriptor.__get__" := ⟨fun _ => type_list_len, slot_wd_get.lookup, fun _ _ _ _ _ _ _ _ _ _ X hx hq => get_wd X hx type_list_len (by decide +kernel) hq⟩
theorem bnd_init : Bnd "list.__init__" "wrapper_descriptor" "method-wrapper" "wrapper_descriptor.__get__" := ⟨fun _ => type_list_init, slot_wd_get.lookup, fun _ _ _ _ _ _ _ _ _ _ X hx hq => get_wd X hx type_list_init (by decide +kernel) hq⟩
end Mine
end
section
open PySem PySem.Spec PySem.Calls PySem.W PyProof.Rows PySem.Flt Builtin Builtin.ObjectAttr
set_option maxRecDepth 100000
set_option maxHeartbeats 4000000
namespace Mine
section
variable {prog : Program} {w : World} {A : Around} {E : Value → Shared → Prop} {h : Heap} {g : Array GenState} {d : Drawn} {t : Nat} {os : OsState} {so x dx : Addr} {xs : Array Value} {k : Nat}
theorem acc_opaque (X : (hd.heap_1 w.params).In h) : Looks (model prog w) h (opaqueClassAbove (.ref 129)) none := looks_opaque X (by kernel_rfl)
theorem ring_super_ga {name : Str} {tk : Tok} {i T gt G : String} {Q : Fin → Shared → Prop} (X : (hd.heap_1 w.params).In h) (hx : h.get? x = some (ringObj dx xs k)) (hso : h.get? so = some (ks_superObj 129 x 129)) (B : Bnd i T gt G)
    (hf : alongIn (hd.heap_1 w.params) name [.type "list", .type "object"] = some (some (.builtin i))) (hxC : x ≠ 129) (hn : (name == ("__class__" : Str)) = false)
    (hq : Q (.done (.ret (.ref h.objs.size))) ⟨h.push { cls := .type gt, data := .fields #[.builtin i, .ref x] }, g, d, t, os⟩) :
    wpAny (model prog w) A (Builtin.«super.__getattribute__» ⟨[.ref so, .str name tk], []⟩) Q E ⟨h, g, d, t, os⟩ := by
  have hno := acc_opaque (prog := prog) X
  have hC := acc_mro (M := model prog w) X
  have hl : (([.ref 129, .type "list", .type "object"] : List Value).dropWhile (· != .ref 129)).drop 1 = [.type "list", .type "object"] := by simp
  have hne : (Value.ref x == Value.ref 129) = false := by simp [hxC]
  have hTf := B.typ ⟨h, g, d, t, os⟩
  have hdt : (ks_superObj 129 x 129).data = .fields #[.ref 129, .ref x, .ref 129] := rfl
  have f0 : (#[.ref 129, .ref x, .ref 129] : Array Value)[0]? = some (.ref 129) := rfl
  have f1 : (#[.ref 129, .ref x, .ref 129] : Array Value)[1]? = some (.ref x) := rfl
  have f2 : (#[.ref 129, .ref x, .ref 129] : Array Value)[2]? = some (.ref 129) := rfl
  unfold Builtin.«super.__getattribute__»
  repeat (first
    | (with_reducible refine wpAny_field hso hdt f0 ?_) | (with_reducible refine wpAny_field hso hdt f1 ?_) | (with_reducible refine wpAny_field hso hdt f2 ?_)
    | (with_reducible refine ks_wpAny_notOpaque hno ?_)
    | (with_reducible refine Looks.at hC ?_; rw [hl])
    | (refine ks_forIn_along X (fun _ _ => rfl) rfl ?_ hf)
    | (with_reducible refine wpAny_typeOf hTf ?_)
    | (simp only [hn, hne, Bool.or_false, Bool.false_eq_true, if_false])
    | wp_step
    | dsimp only)
  refine wpAny_of_eq B.look ?_
  dsimp only
  refine wpAny_bind ?_
  refine wpAny_holding ?_
  refine B.get _ _ _ _ _ _ _ _ _ _ X hx ?_
  exact wpAny_bind (wpAny_pure (wpAny_pure (wpAny_pure hq)))
theorem ring_super_method {name : Str} {i T gt G : String} {pl : Sem Bool} {Q : Value × List Value → Shared → Prop} (X : (hd.heap_1 w.params).In h) (hx : h.get? x = some (ringObj dx xs k)) (hso : h.get? so = some (ks_superObj 129 x 129)) (B : Bnd i T gt G)
    (hf : alongIn (hd.heap_1 w.params) name [.type "list", .type "object"] = some (some (.builtin i))) (hxC : x ≠ 129) (hn : (name == ("__class__" : Str)) = false)
    (hq : Q (.ref h.objs.size, []) ⟨h.push { cls := .type gt, data := .fields #[.builtin i, .ref x] }, g, d, t + 1, os⟩) :
    wpAny (model prog w) A (getMethod (.ref so) name pl) Q E ⟨h, g, d, t, os⟩ := by
  have hlk := F.ks_slot_super_ga.lookup
  have hcan := F.ks_canon_super_ga
  have hT : ∀ t', (⟨h, g, d, t', os⟩ : Shared).TypeIs (.ref so) "super" := fun _ => ⟨_, hso, rfl⟩
  unfold getMethod
  refine wpAny_bind (wpAny_specialOf (hT _) hlk ?_)
  show wpAny _ _ (if (Manifest.canonical "super.__getattribute__" != "object.__getattribute__") = true then _ else _) _ _ _
  rw [if_pos hcan]
  unfold getAttr getAttrBy
  refine wpAny_bind (wpAny_bind (wpAny_mkText (wpAny_holding (wpAny_bind (wpAny_typeOf (hT _) (wpAny_bind (wpAny_of_eq hlk ?_)))))))
  show wpAny _ _ (getAttrByItsOwn (.ref so) (.str name t) (.type "super") (.builtin "super.__getattribute__") true false) _ _ _
  unfold getAttrByItsOwn hookBefore callGetattribute boundAndCalled
  refine wpAny_bind (wpAny_of_eq (show (if onTheHeap (.type "super") then typeLookup (.type "super") "__getattr__" else pure none) = pure none from rfl) ?_)
  refine wpAny_bind (wpAny_attempt (wpAny_holding ?_))
  show wpAny _ _ (bindSpecial (.builtin "super.__getattribute__") (.ref so) >>= _) _ _ _
  refine wpAny_bind (wpAny_of_eq (F.ks_slot_super_ga.bind _) ?_)
  refine wpAny_mono (Q := fun v s' => v = .ref h.objs.size ∧ s' = ⟨h.push { cls := .type gt, data := .fields #[.builtin i, .ref x] }, g, d, t + 1, os⟩) (E := fun _ _ => False)
    (wpAny_call_entry F.ks_slot_super_ga (hT _) F.ks_entry_super_ga (ring_super_ga X hx hso B hf hxC hn ⟨_, rfl, rfl, rfl⟩) (F.ks_gaArgs_super _ _)) (fun v s' hv => ?_) fun _ _ z => z.elim
  obtain ⟨rfl, rfl⟩ := hv
  exact wpAny_pure (wpAny_pure hq)
/-- a bound method of list's is called -/
theorem ring_bound {q : Addr} {i gt : String} {R : Result → Shared → Prop} {s : Shared} {args : List Value} (hq : s.heap.get? q = some { cls := .type gt, data := .fields #[.builtin i, .ref x] }) (hg : gt = "builtin_function_or_method" ∨ gt = "method-wrapper")
    (hc : ∀ Q : Unit → Shared → Prop, Q () s → wpAny (model prog w) A.in1 (checkBoundCall i ⟨.ref x :: args, []⟩) Q (fun e s' => R (.error e) s') s) (hp : (Code.builtin i ⟨.ref x :: args, []⟩).quiet = true)
    (h : codeAny (model prog w) A (.builtin i ⟨.ref x :: args, []⟩) R s) : codeAny (model prog w) A (.call (.ref q) ⟨args, []⟩) R s := by
  refine codeAny_of_tree ?_
  show wpAny _ A.in1 (callAny (.ref q) _) _ _ _
  unfold callAny
  refine wpAny_bind (wpAny_load hq ?_)
  have fin : wpAny (model prog w) A.in1 (do checkBoundCall i ⟨.ref x :: args, []⟩; again (.builtin i ⟨.ref x :: args, []⟩)) (fun fin s' => match fin with | .done f => R (.ok f) s' | .again c' => c'.quiet = true ∧ codeAny (model prog w) A c' R s') (fun e s' => R (.error e) s') s :=
    wpAny_bind (hc _ (wpAny_pure ⟨hp, h⟩))
  rcases hg with rfl | rfl
  · exact fin
  · exact fin
end
end Mine
end
section
open PySem PySem.Spec PySem.Calls PySem.W PyProof.Rows PySem.Flt Builtin Builtin.ObjectAttr
set_option maxRecDepth 100000
set_option maxHeartbeats 4000000
namespace Mine
section
variable {prog : Program} {w : World} {A : Around} {E : Value → Shared → Prop} {s : Shared} {x dx q : Addr} {xs : Array Value} {k : Nat}
theorem ring_boundCall {i gt : String} {b : Builtin} {args : List Value} {Q : Value → Shared → Prop} (hq : s.heap.get? q = some { cls := .type gt, data := .fields #[.builtin i, .ref x] }) (hg : gt = "builtin_function_or_method" ∨ gt = "method-wrapper")
    (hc : ∀ (E' : Value → Shared → Prop) (Q' : Unit → Shared → Prop), Q' () s → wpAny (model prog w) A.in1 (checkBoundCall i ⟨.ref x :: args, []⟩) Q' E' s) (hp : plainId i = true) (hb : entryFor table i = some b)
    (h : wpAny (model prog w) A.in1 (b ⟨.ref x :: args, []⟩) (fun fin s' => ∃ v, fin = .done (.ret v) ∧ Q v s') E s) : wpAny (model prog w) A (call (.ref q) args) Q E s := by
  refine wpAny_call (ring_bound hq hg (fun Q' h' => hc _ Q' h') (plainId_quiet hp _) (codeAny_builtin hb ?_))
  rw [Around.under_plainId hp _]
  refine wpAny_mono h (fun fin s' h' => ?_) fun _ _ z => z
  obtain ⟨v, rfl, hv⟩ := h'
  exact hv
theorem chk_pop (X : (hd.heap_1 w.params).In s.heap) (hx : s.heap.get? x = some (ringObj dx xs k)) (E' : Value → Shared → Prop) (Q' : Unit → Shared → Prop) (h : Q' () s) : wpAny (model prog w) A (checkBoundCall "list.pop" ⟨[.ref x], []⟩) Q' E' s := by
  have hk : builtinKind "list.pop" = some .method := by decide +kernel
  have ht := ring_type (M := model prog w) hx
  have hm : Looks (model prog w) s.heap (isInstance (.ref x) (.type "module")) false := ht.andThen (looks_mroIn X (by unfold mroIn; rw [acc_cls]; kernel_rfl))
  have hnt : Looks (model prog w) s.heap (isType (.ref x)) false := (Looks.ld hx).andThen .now
  have hcd := looks_clsIn (M := model prog w) X acc_cls
  have ht2 : Looks (model prog w) s.heap (typeOf (.ref 129)) (.type "type") := (Looks.ld (acc_get X)).andThen .now
  obtain ⟨hh, g, d, t, os⟩ := s
  have hsig : Manifest.signature? "list.pop" = some ⟨.positional, "list.pop", "pop", .self, [⟨"index", .posOnly, false⟩]⟩ := by kernel_rfl
  have hv : Manifest.varargsMethods.contains "list.pop" = false := by decide +kernel
  unfold checkBoundCall
  simp only [hk, hsig]
  rw [if_neg (by decide)]
  refine wpAny_bind (hm.at ?_)
  rw [hv, if_neg (by decide)]
  refine wpAny_bind (hnt.at ?_)
  rw [if_neg (by decide)]
  refine wpAny_bind (ht.at ?_)
  dsimp only
  refine wpAny_bind (hcd.at (wpAny_bind (ht2.at ?_)))
  rw [if_pos (by decide)]
  refine wpAny_of_eq (a := ()) ?_ h
  kernel_rfl
theorem chk_len (E' : Value → Shared → Prop) (Q' : Unit → Shared → Prop) (h : Q' () s) : wpAny (model prog w) A (checkBoundCall "list.__len__" ⟨[.ref x], []⟩) Q' E' s := by
  have e : checkBoundCall "list.__len__" ⟨[.ref x], []⟩ = pure () := by kernel_rfl
  exact wpAny_of_eq e h
theorem chk_init (E' : Value → Shared → Prop) (Q' : Unit → Shared → Prop) (h : Q' () s) : wpAny (model prog w) A (checkBoundCall "list.__init__" ⟨[.ref x], []⟩) Q' E' s := by
  have e : checkBoundCall "list.__init__" ⟨[.ref x], []⟩ = pure () := by kernel_rfl
  exact wpAny_of_eq e h
theorem ring_superLen {Q : Value → Shared → Prop} (hx : s.heap.get? x = some (ringObj dx xs k)) (hq : s.heap.get? q = some { cls := .type "method-wrapper", data := .fields #[.builtin "list.__len__", .ref x] }) (h : ∀ t, Q (.int xs.size t) { s with toks := s.toks + 1 }) :
    wpAny (model prog w) A (call (.ref q) []) Q E s := by
  refine ring_boundCall hq (.inr rfl) chk_len (by decide +kernel) F.entry_list_len ?_
  show wpAny _ _ (seqSize x >>= fun r => retInt r) _ _ s
  refine wpAny_bind (wpAny_bind (wpAny_loadPart hx (wpAny_pure ?_)))
  refine wpAny_bind (wpAny_mkInt ?_)
  exact wpAny_pure ⟨_, rfl, h _⟩
theorem ring_superPop {v : Value} {Q : Value → Shared → Prop} (X : (hd.heap_1 w.params).In s.heap) (hx : s.heap.get? x = some (ringObj dx #[v] k)) (hq : s.heap.get? q = some { cls := .type "builtin_function_or_method", data := .fields #[.builtin "list.pop", .ref x] })
    (h : ∀ h', Heap.SameBut x s.heap h' → h'.get? x = some (ringObj dx #[] (k + 1)) → Q v { s with heap := h' }) :
    wpAny (model prog w) A (call (.ref q) []) Q E s := by
  refine ring_boundCall hq (.inl rfl) (chk_pop X hx) (by decide +kernel) F.entry_list_pop ?_
  unfold Builtin.«list.pop»
  show wpAny _ _ (Builtin.List.listItems (.ref x) >>= _) _ _ s
  refine wpAny_bind ?_
  unfold Builtin.List.listItems
  refine wpAny_bind (wpAny_seqItems hx rfl (wpAny_pure ?_))
  show wpAny _ _ (updateSeq x (fun xs => xs.eraseIdxIfInBounds 0) >>= fun _ => ret v) _ _ s
  refine wpAny_bind ?_
  have e0 : (#[v] : Array Value).eraseIdxIfInBounds 0 = #[] := by simp [Array.eraseIdxIfInBounds]
  refine wpAny_updateSeq hx rfl (wpAny_pure ⟨_, rfl, h _ (Heap.SameBut.update ..) ?_⟩) (_hz' := by rw [e0]; exact Nat.zero_le _)
  have e : Obj.mapSeq (fun xs => xs.eraseIdxIfInBounds 0) (ringObj dx #[v] k) = ringObj dx #[] (k + 1) := by simp [Obj.mapSeq, e0]
  rw [Heap.get?_update_self _ hx (by rw [e]; rfl), e]
theorem ring_superInit {Q : Value → Shared → Prop} (hx : s.heap.get? x = some (ringObj dx #[] k)) (hq : s.heap.get? q = some { cls := .type "method-wrapper", data := .fields #[.builtin "list.__init__", .ref x] })
    (h : ∀ h', Heap.SameBut x s.heap h' → h'.get? x = some (ringObj dx #[] k) → Q .none { s with heap := h' }) :
    wpAny (model prog w) A (call (.ref q) []) Q E s := by
  refine ring_boundCall hq (.inr rfl) chk_init (by decide +kernel) F.entry_list_init ?_
  show wpAny _ _ (Builtin.List.listItems (.ref x) >>= _) _ _ s
  refine wpAny_bind ?_
  unfold Builtin.List.listItems
  refine wpAny_bind (wpAny_seqItems hx rfl (wpAny_pure ?_))
  show wpAny _ _ (updateSeq x (fun _ => #[]) >>= _) _ _ s
  refine wpAny_bind (wpAny_updateSeq hx rfl ?_)
  refine wpAny_bind (wpAny_letGo (wpAny_pure ⟨_, rfl, h _ (Heap.SameBut.update ..) ?_⟩))
  have e : Obj.mapSeq (fun _ => #[]) (ringObj dx #[] k) = ringObj dx #[] k := by simp [Obj.mapSeq]
  rw [Heap.get?_update_self _ hx (by rw [e]; rfl), e]
end
end Mine
end
section
open PySem PySem.Spec PySem.Calls PySem.W PyProof.Rows PySem.Flt
set_option maxRecDepth 100000
set_option maxHeartbeats 4000000
namespace Mine
section
variable {prog : Program} {w : World} {A : Around} {E : Value → Shared → Prop} {s : Shared} {x dx : Addr} {xs : Array Value} {k : Nat}
theorem ring_iter {Q : Value → Shared → Prop} (X : (hd.heap_1 w.params).In s.heap) (hx : s.heap.get? x = some (ringObj dx xs k))
    (hQ : Q (.ref s.heap.objs.size) { s with heap := s.heap.push { cls := .type "list_iterator", data := .fields #[.ref x, .int 0 0] } }) : wpAny (model prog w) A (pyIter (.ref x)) Q E s := by
  have hf : findIn (hd.heap_1 w.params) (.ref 129) "__iter__" = some (some (.builtin "list.__iter__")) := find_own (by kernel_rfl)
  have sp : Looks (model prog w) s.heap (specialOf (.ref x) "__iter__") (some (.builtin "list.__iter__")) := (ring_type hx).andThen (looks_findIn X hf)
  have hc : wpAny (model prog w) A (call (.builtin "list.__iter__") [.ref x]) (fun it s' => it = .ref s.heap.objs.size ∧ s' = { s with heap := s.heap.push { cls := .type "list_iterator", data := .fields #[.ref x, .int 0 0] } }) E s := by
    refine ring_code X hx (n := "__iter__") (.inr (by decide +kernel)) (by decide +kernel) F.entry_list_iter (by decide +kernel) (by unfold argsOk; kernel_rfl) ?_
    show wpAny _ _ (do ret (← newFields "list_iterator" [.ref x, rawInt 0])) _ _ s
    exact wpAny_bind (wpAny_newObj_type (wpAny_pure ⟨_, rfl, rfl, rfl⟩))
  unfold pyIter
  refine wpAny_bind (sp.here ?_)
  show wpAny _ A (callSpecialIfBoundUnlessNone? (.ref x) "__iter__" _ >>= _) Q E s
  refine wpAny_bind ?_
  simp only [callSpecialIfBoundUnlessNone?, bindSpecialIfBound?]
  refine wpAny_holding (wpAny_bind (wpAny_bind (sp.here ?_)))
  dsimp only
  simp only [F.slot_list_iter.bind]
  refine wpAny_bind (wpAny_askSetting (wpAny_ite ?_))
  have hT : ({ s with heap := s.heap.push { cls := .type "list_iterator", data := .fields #[.ref x, .int 0 0] } } : Shared).TypeIs (.ref s.heap.objs.size) "list_iterator" := ⟨_, Heap.get?_push_size _ rfl, rfl⟩
  split
  · refine wpAny_bind (wpAny_pure (wpAny_pure ?_))
    refine wpAny_bind (wpAny_mono hc (fun it s' hs => ?_) fun _ _ e => e)
    obtain ⟨rfl, rfl⟩ := hs
    exact wpAny_pure (wpAny_bind (wpAny_specialOf hT slot_listiter_next.lookup (wpAny_pure hQ)))
  · refine wpAny_tryCatch (wpAny_bind (wpAny_pure (wpAny_pure ?_)))
    refine wpAny_bind (wpAny_mono hc (fun it s' hs => ?_) fun _ _ e => e)
    obtain ⟨rfl, rfl⟩ := hs
    exact wpAny_pure (wpAny_bind (wpAny_specialOf hT slot_listiter_next.lookup (wpAny_pure hQ)))
theorem next_item {it l : Addr} {ol : Obj} {i n : Nat} {items : Array Value} {x : Value} {Q : Option Value → Shared → Prop} (hit : s.heap.IsListIter it l i) (hol : s.heap.get? l = some ol) (hdl : ol.data = .seq items n) (hx : items[i]? = some x)
    (hQ : ∀ h', h'.IsListIter it l (i + 1) → Heap.SameBut it s.heap h' → Q (some x) { s with heap := h' }) : wpAny (model prog w) A (pyNext (.ref it)) Q E s := by
  obtain ⟨o, ho, hc, hd⟩ := id hit
  unfold pyNext
  refine wpAny_bind (wpAny_attempt (wpAny_callSpecial?_slot (name := Str.ofString "__next__") hit.typeIs slot_listiter_next
    (wpAny_call_entry slot_listiter_next hit.typeIs entry_listiter_next ?_ (args_listiter_next _))))
  show wpAny _ _ (field (.ref it) 0 >>= _) _ _ s
  refine wpAny_bind (wpAny_field ho hd (x := .ref l) rfl ?_)
  show wpAny _ _ (if (Value.ref l == Value.none) = true then _ else _) _ _ s
  rw [if_neg (show ¬ ((Value.ref l == Value.none) = true) from Bool.false_ne_true)]
  show wpAny _ _ (field (.ref it) 1 >>= _) _ _ s
  refine wpAny_bind (wpAny_field ho hd (x := .int i 0) rfl ?_)
  show wpAny _ _ (seqItems? (.ref l) >>= _) _ _ s
  refine wpAny_bind (wpAny_seqItems hol hdl ?_)
  simp only [Int.toNat_natCast, hx]
  refine wpAny_bind (wpAny_setField ho hd (by simp) (wpAny_pure ⟨x, rfl, wpAny_pure (hQ _ ?_ (Heap.SameBut.update ..))⟩))
  exact ⟨_, Heap.get?_update_self _ ho (Obj.isFreed_of_fields (Obj.data_mapFields hd _)), (Obj.cls_mapFields ..).trans hc, by
    rw [Obj.data_mapFields hd]; simp [rawInt]⟩
theorem next_end {it l : Addr} {ol : Obj} {i n : Nat} {items : Array Value} {Q : Option Value → Shared → Prop} (hh : A.handled = none) (hit : s.heap.IsListIter it l i) (hol : s.heap.get? l = some ol) (hdl : ol.data = .seq items n) (hx : items[i]? = none)
    (hQ : ∀ h', Heap.ExtBut it s.heap h' → Q none { s with heap := h' }) : wpAny (model prog w) A (pyNext (.ref it)) Q E s := by
  obtain ⟨o, ho, hc, hd⟩ := id hit
  unfold pyNext
  refine wpAny_bind (wpAny_attempt (wpAny_callSpecial?_slot (name := Str.ofString "__next__") hit.typeIs slot_listiter_next
    (wpAny_call_entry slot_listiter_next hit.typeIs entry_listiter_next ?_ (args_listiter_next _))))
  show wpAny _ _ (field (.ref it) 0 >>= _) _ _ s
  refine wpAny_bind (wpAny_field ho hd (x := .ref l) rfl ?_)
  show wpAny _ _ (if (Value.ref l == Value.none) = true then _ else _) _ _ s
  rw [if_neg (show ¬ ((Value.ref l == Value.none) = true) from Bool.false_ne_true)]
  show wpAny _ _ (field (.ref it) 1 >>= _) _ _ s
  refine wpAny_bind (wpAny_field ho hd (x := .int i 0) rfl ?_)
  show wpAny _ _ (seqItems? (.ref l) >>= _) _ _ s
  refine wpAny_bind (wpAny_seqItems hol hdl ?_)
  simp only [Int.toNat_natCast, hx]
  refine wpAny_bind (wpAny_rule (wpAny_bind (wpAny_setField ho hd (by simp) ?_)))
  show wpAny _ _ (newExc (.type "StopIteration") [] >>= _) _ _ _
  refine wpAny_bind ?_
  simp only [newExc, newTuple]
  refine wpAny_bind (wpAny_newObj_type ?_ (by size_fits))
  refine wpAny_bind (m := firstArgMember _ _) (wpAny_of_eq (a := Value.none) (by first | rfl | (simp only [firstArgMember]; rfl)) ?_)
  refine wpAny_newObj_type ?_ (by size_fits)
  simp only [raiseNew]
  refine wpAny_bind (wpAny_handled ?_)
  rw [show A.in1.handled = none from hh]
  refine wpAny_bind (wpAny_pure (wpAny_throw ?_))
  refine wpAny_bind (wpAny_isInstance (T := "StopIteration") (b := true) ⟨_, Heap.get?_push_size _ rfl, rfl⟩ isSubtype_stop ?_)
  exact wpAny_pure (hQ _ (((Heap.SameBut.update ..).extBut.push _).push _))
/-- the ring's items are tuples; the genexp unpacks them -/
theorem ring_walks (hh : A.handled = none) (I : Addr) (hne : x ≠ I) (Ts : Nat → Addr) (vals : Nat → Array Value)
    (hit : ∀ j, j < xs.size → xs[j]? = some (.ref (Ts j))) (hTI : ∀ j, j < xs.size → Ts j ≠ I) :
    WalksU prog w A I (I :: x :: (List.range xs.size).map Ts) [I] xs.size (fun j v => v = vals j)
      (fun j h => h.IsListIter I x j ∧ h.get? x = some (ringObj dx xs k) ∧ ∀ k, k < xs.size → h.IsTuple (Ts k) (vals k))
      (fun j T h => (j < xs.size ∧ T = Ts j) ∧ h.IsListIter I x (j + 1) ∧ h.get? x = some (ringObj dx xs k) ∧ ∀ k, k < xs.size → h.IsTuple (Ts k) (vals k)) where
  sub := fun b hb => by simp at hb; simp [hb]
  frame := fun _ _ _ st hk => ⟨st.1.at fun o e => hk I (by simp) o e, hk x (by simp) _ st.2.1,
    fun k hk' => (st.2.2 k hk').at fun o e => hk (Ts k) (List.mem_cons_of_mem _ (List.mem_cons_of_mem _ (List.mem_map.mpr ⟨k, List.mem_range.mpr hk', rfl⟩))) o e⟩
  item := fun i s Q E hi st hQ => by
    refine next_item st.1 st.2.1 rfl (x := .ref (Ts i)) (hit i hi) fun h' hit' hs' => ?_
    have tup : ∀ k, k < xs.size → h'.IsTuple (Ts k) (vals k) := fun k hk' => (st.2.2 k hk').extBut hs'.extBut (hTI k hk')
    exact hQ (Ts i) (vals i) h' s.toks rfl (tup i hi) ⟨⟨hi, rfl⟩, hit', hs'.extBut _ _ hne st.2.1, tup⟩ fun b o hb e => hs'.extBut b o (fun h => hb (by simp [h])) e
  go := fun _ _ _ _ _ s Q _ hm hQ => wpAny_letOwnedTupleGo_listiter hm.2.1 (hQ s.heap hm.2 fun _ _ _ e => e)
  apart := fun j T _ hm hmem => by
    rcases List.mem_cons.mp hmem with e | e
    · exact hTI j hm.1.1 (hm.1.2 ▸ e)
    · cases e
  done := fun s Q E st hQ => next_end hh st.1 st.2.1 rfl (by simp) fun h' he' => hQ h' s.toks fun b o hb e => he' b o (fun h => hb (by simp [h])) e
  self := fun _ _ _ _ st hQ => wpAny_pyIter_listiter st.1 hQ
end
end Mine
end
section
open PySem PySem.Spec PySem.Calls PySem.W PyProof.Rows Builtin Builtin.ObjectAttr
set_option maxRecDepth 100000
set_option maxHeartbeats 4000000
namespace Mine
noncomputable abbrev bndObj (gt i : String) (x : Addr) : Obj := { cls := .type gt, data := .fields #[.builtin i, .ref x] }
section
variable {prog : Program} {w : World} {A : Around} {E : Value → Shared → Prop} {R : Result → Shared → Prop} {s : Shared} {h₀ : Heap} {L x dx so q l : Addr} {m : Str → Option Value} {news news' : List (Addr × Obj)} {xs : Array Value} {k : Nat} {od : Obj} {g : Obj → List (Addr × Obj)}
theorem upd_same {d : Addr} {o o' : Obj} {h h' : Heap} (U : Upd d o o' news news') (N : News h₀ L h news) (hs : Heap.SameBut d h h') (ho : h'.get? d = some o') : News h₀ L h' news' := by
  obtain ⟨pre, post, rfl, rfl, a, b⟩ := U.split
  exact news_set N a b hs ho
theorem upd_mem {d : Addr} {o o' : Obj} (U : Upd d o o' news news') : (d, o) ∈ news := by
  obtain ⟨pre, post, rfl, rfl, a, b⟩ := U.split
  simp
theorem ring_append {v : Value} {Q : Value → Shared → Prop} (F : Fr h₀ L s.heap m) (X : (hd.heap_1 w.params).In h₀) (N : News h₀ L s.heap news) (U : Upd x (ringObj dx xs k) (ringObj dx (xs.push v) (k + 1)) news news') (hz : xs.size ≤ sizeLine)
    (h : ∀ h', Fr h₀ L h' m → News h₀ L h' news' → Q .none { s with heap := h' }) : wpAny (model prog w) A (call (.builtin "list.append") [.ref x, v]) Q E s := by
  have z := N _ (upd_mem U)
  exact ring_appendAt (X.keeps F.keep) z.1 hz fun h' hs ho => h h' (F.change hs z.2.1 z.2.2) (upd_same U N hs ho)
theorem ring_meth {name : Str} {f t : Value} {pl : Sem Bool} {Q : Value × List Value → Shared → Prop} (F : Fr h₀ L s.heap m) (X : (hd.heap_1 w.params).In h₀) (N : News h₀ L s.heap news) (hx : (x, ringObj dx xs k) ∈ news) (hd' : (dx, od) ∈ news) (r : RD od)
    (hf : findIn (hd.heap_1 w.params) (.ref 129) name = some (some f)) (ht : typeIn (hd.heap_1 w.params) f = some t) (htt : (t != .type "function" && t != .type "method_descriptor" && t != .type "wrapper_descriptor") = false) (hs : ∀ hs t v, (lookIn name { cls := .type "dict", data := .dict #[⟨hs, .str inits t, v⟩] 0 }) = some none) (h : Q (f, [.ref x]) s) :
    wpAny (model prog w) A (getMethod (.ref x) name pl) Q E s := ring_method (X.keeps F.keep) (N _ hx).1 (N _ hd').1 r hf ht htt hs h
theorem ring_super {name : Str} {i gt G : String} {pl : Sem Bool} {Q : Value × List Value → Shared → Prop} (F : Fr h₀ L s.heap m) (X : (hd.heap_1 w.params).In h₀) (N : News h₀ L s.heap news) (hso : (so, ks_superObj 129 x 129) ∈ news) (hx : (x, ringObj dx xs k) ∈ news) {T : String} (B : Bnd i T gt G)
    (hf : alongIn (hd.heap_1 w.params) name [.type "list", .type "object"] = some (some (.builtin i))) (hn : (name == ("__class__" : Str)) = false)
    (h : ∀ q h', Fr h₀ L h' m → News h₀ L h' ((q, bndObj gt i x) :: news) → (∀ p ∈ news, p.1 < q) → Q (.ref q, []) { s with heap := h', toks := s.toks + 1 }) : wpAny (model prog w) A (getMethod (.ref so) name pl) Q E s := by
  have X' : (hd.heap_1 w.params).In s.heap := X.keeps F.keep
  have hxC : x ≠ 129 := by
    rintro rfl
    have e := (N _ hx).2.2
    rw [X _ _ acc_at] at e
    cases e
  obtain ⟨hh, gg, d, t, os⟩ := s
  refine ring_super_method X' (N _ hx).1 (N _ hso).1 B hf hxC hn ?_
  obtain ⟨F', N', l'⟩ := ks_newsPush (s := ⟨hh, gg, d, t, os⟩) (o := bndObj gt i x) F N rfl (Heap.get?_push_at rfl rfl) (fun b o e => Heap.get?_push_of_some _ e)
  exact h _ _ F' N' l'
theorem ring_callLen {Q : Value → Shared → Prop} (N : News h₀ L s.heap news) (hq : (q, bndObj "method-wrapper" "list.__len__" x) ∈ news) (hx : (x, ringObj dx xs k) ∈ news) (h : ∀ t, Q (.int xs.size t) { s with toks := s.toks + 1 }) :
    wpAny (model prog w) A (call (.ref q) []) Q E s := ring_superLen (N _ hx).1 (N _ hq).1 h
theorem ring_callPop {v : Value} {Q : Value → Shared → Prop} (F : Fr h₀ L s.heap m) (X : (hd.heap_1 w.params).In h₀) (N : News h₀ L s.heap news) (hq : (q, bndObj "builtin_function_or_method" "list.pop" x) ∈ news) (U : Upd x (ringObj dx #[v] k) (ringObj dx #[] (k + 1)) news news')
    (h : ∀ h', Fr h₀ L h' m → News h₀ L h' news' → Q v { s with heap := h' }) : wpAny (model prog w) A (call (.ref q) []) Q E s := by
  have z := N _ (upd_mem U)
  exact ring_superPop (X.keeps F.keep) z.1 (N _ hq).1 fun h' hs ho => h h' (F.change hs z.2.1 z.2.2) (upd_same U N hs ho)
theorem ring_callInit {Q : Value → Shared → Prop} (F : Fr h₀ L s.heap m) (N : News h₀ L s.heap news) (hq : (q, bndObj "method-wrapper" "list.__init__" x) ∈ news) (hx : (x, ringObj dx #[] k) ∈ news)
    (h : ∀ h', Fr h₀ L h' m → News h₀ L h' news → Q .none { s with heap := h' }) : wpAny (model prog w) A (call (.ref q) []) Q E s := by
  have z := N _ hx
  refine ring_superInit z.1 (N _ hq).1 fun h' hs ho => h h' (F.change hs z.2.1 z.2.2) fun p hp => ⟨?_, (N p hp).2⟩
  by_cases e : p.1 = x
  · have := (N p hp).1
    rw [e, z.1] at this
    rw [e, ho]; exact this
  · exact (hs.2 _ e).trans (N p hp).1
theorem ring_store {v : Value} {Q : Unit → Shared → Prop} (F : Fr h₀ L s.heap m) (X : (hd.heap_1 w.params).In h₀) (N : News h₀ L s.heap news) (hx : (x, ringObj dx xs k) ∈ news) (U : UpdF dx od news g) (r : RD od)
    (h : ∀ od' h' tk, RD od' → Fr h₀ L h' m → News h₀ L h' (g od') → Q () { s with heap := h', toks := tk }) : wpAny (model prog w) A (setAttr (.ref x) inits v) Q E s := by
  obtain ⟨pre, post, rfl, hg, h1, h2⟩ := U.split
  have X' : (hd.heap_1 w.params).In s.heap := X.keeps F.keep
  have zx := (N _ hx).1
  have zd := N (dx, od) (by simp)
  have hne : x ≠ dx := by
    rintro rfl
    have e := zd.1
    rw [zx] at e
    cases e
    have := r.1
    cases this
  have N' : News h₀ L s.heap ((x, ringObj dx xs k) :: (dx, od) :: (pre.filter (fun p => p.1 != x) ++ post.filter (fun p => p.1 != x))) := by
    intro p hp
    cases hp with
    | head => exact N _ hx
    | tail _ hp =>
      cases hp with
      | head => exact zd
      | tail _ hp =>
        rcases List.mem_append.mp hp with hp | hp
        · exact N p (List.mem_append_left _ (List.mem_filter.mp hp).1)
        · exact N p (List.mem_append_right _ (.tail _ (List.mem_filter.mp hp).1))
  refine ring_setAttr F N' X' r hne (fun p hp => ?_) fun od' h' tk r' F' M => h od' h' tk r' F' ?_
  · rcases List.mem_append.mp hp with hp | hp
    · exact h1 p (List.mem_filter.mp hp).1
    · exact h2 p (List.mem_filter.mp hp).1
  · rw [hg]
    have one : ∀ p : Addr × Obj, p ∈ pre ∨ p ∈ post → s.heap.get? p.1 = some p.2 → h'.get? p.1 = some p.2 := by
      intro p hp e
      by_cases ex : p.1 = x
      · rw [ex, zx] at e
        have := (M _ (.head _)).1
        rw [ex, ← e]; exact this
      · refine (M p (.tail _ (.tail _ ?_))).1
        rcases hp with hp | hp
        · exact List.mem_append_left _ (List.mem_filter.mpr ⟨hp, by simpa using ex⟩)
        · exact List.mem_append_right _ (List.mem_filter.mpr ⟨hp, by simpa using ex⟩)
    intro p hp
    rcases List.mem_append.mp hp with hp | hp
    · have z := N p (List.mem_append_left _ hp); exact ⟨one p (.inl hp) z.1, z.2⟩
    · cases hp with
      | head => exact ⟨(M _ (.tail _ (.head _))).1, zd.2⟩
      | tail _ hp => have z := N p (List.mem_append_right _ (.tail _ hp)); exact ⟨one p (.inr hp) z.1, z.2⟩
theorem ring_slice {value slice : Expr} {vl vu : Value} {lo hi : Option Int} {Q : Value → Shared → Prop} {zs : List Value} (F : Fr h₀ L s.heap m) (X : (hd.heap_1 w.params).In h₀) (N : News h₀ L s.heap news) (hx : (x, ringObj dx xs k) ∈ news) (pl : IsPart vl lo) (pu : IsPart vu hi) (e : slicePick xs lo hi none = zs.toArray)
    (h : ∀ D h', Fr h₀ L h' m → News h₀ L h' ((D, listOf zs.toArray 0) :: news) → (∀ p ∈ news, p.1 < D) → Q (.ref D) { s with heap := h' })
    (hs : subscripted slice false (.ref x) (.ref s.heap.objs.size) = operate [.ref s.heap.objs.size, .ref x] (getItem (.ref x) (.ref s.heap.objs.size))) (ht : ∀ r, letTemporaryGo value (.ref x) r = pure ()) (hz : xs.size ≤ sizeLine) :
    wpAny (model prog w) A (subscriptTail value slice (.ref x) (.ref s.heap.objs.size)) Q E { s with heap := s.heap.push { cls := .type "slice", data := .fields #[vl, vu, .none] } } := by
  have X' : (hd.heap_1 w.params).In (s.heap.push { cls := .type "slice", data := .fields #[vl, vu, .none] }) := (X.keeps F.keep).keeps fun _ _ e => Heap.get?_push_of_some _ e
  have hx' : (s.heap.push { cls := .type "slice", data := .fields #[vl, vu, .none] }).get? x = some (ringObj dx xs k) := Heap.get?_push_of_some _ (N _ hx).1
  have N1 := News.push (F.push { cls := .type "slice", data := .fields #[vl, vu, .none] }) (N.grown fun _ _ e => Heap.get?_push_of_some _ e) { cls := .type "list", data := .seq zs.toArray }
  rw [Heap.size_push] at N1
  unfold subscriptTail
  refine wpAny_bind ?_
  unfold getitemInPython
  have sp : Looks (model prog w) (s.heap.push { cls := .type "slice", data := .fields #[vl, vu, .none] }) (specialOf (.ref x) "__getitem__") (some (.builtin "list.__getitem__")) := (ring_type hx').andThen (looks_findIn X' (find_own (by kernel_rfl)))
  refine wpAny_bind (sp.here ?_)
  refine wpAny_pure ?_
  rw [hs]
  refine wpAny_bind (wpAny_operating (ring_sliceAt X' hx' (Heap.IsSliceOf.new ..) pl pu .none (by simp) hz ?_))
  rw [e]
  refine wpAny_bind (wpAny_of_eq (ht _) (wpAny_pure ?_))
  show Q (.ref (s.heap.push _).objs.size) _
  rw [Heap.size_push]
  exact h _ _ ((F.push _).push _) N1 fun p hp => Nat.lt_succ_of_lt (Heap.lt_size (N p hp).1)
end
end Mine
namespace Mine
/-- an entry drawn to the front of the ledger -/
inductive Ext (a : Addr × Obj) : List (Addr × Obj) → List (Addr × Obj) → Prop
  | head {r} : Ext a (a :: r) r
  | tail {p l r} : Ext a l r → Ext a (p :: l) (p :: r)
theorem Ext.mem {a : Addr × Obj} {l r : List (Addr × Obj)} (e : Ext a l r) : ∀ p ∈ a :: r, p ∈ l := by
  induction e with
  | head => exact fun _ h => h
  | tail _ ih =>
    intro p hp
    cases hp with
    | head => exact .tail _ (ih _ (.head _))
    | tail _ hp =>
      cases hp with
      | head => exact .head _
      | tail _ hp => exact .tail _ (ih _ (.tail _ hp))
theorem news_front {a : Addr × Obj} {l r : List (Addr × Obj)} {h₀ h : Heap} {L : Addr} (e : Ext a l r) (N : News h₀ L h l) : News h₀ L h (a :: r) := fun p hp => N p (e.mem p hp)
theorem news_front2 {a b : Addr × Obj} {l r q : List (Addr × Obj)} {h₀ h : Heap} {L : Addr} (e : Ext a l r) (e' : Ext b r q) (N : News h₀ L h l) : News h₀ L h (a :: b :: q) := fun p hp => by
  cases hp with
  | head => exact news_front e N _ (.head _)
  | tail _ hp => exact news_front e N p (.tail _ (e'.mem p hp))
end Mine
namespace Mine
section
variable {prog : Program} {w : World} {A : Around} {E : Value → Shared → Prop} {s : Shared} {h₀ : Heap} {L x dx l : Addr} {m : Str → Option Value} {news news' : List (Addr × Obj)} {k : Nat}
theorem ring_cut {xs new ys : Array Value} {vl vu : Value} {lo hi : Option Int} {kl a b : Nat} {Q : Unit → Shared → Prop} (F : Fr h₀ L s.heap m) (X : (hd.heap_1 w.params).In h₀) (N : News h₀ L s.heap news) (hl : (l, listOf new kl) ∈ news) (pl : IsPart vl lo) (pu : IsPart vu hi) (hb : sliceBounds lo hi none xs.size = ((a : Int), (b : Int), 1)) (hz : xs.size + new.size ≤ sizeLine)
    (e : cutIn xs a b new = ys) (U : Upd x (ringObj dx xs k) (ringObj dx ys (ringBump xs ys k)) news news')
    (h : ∀ h', Fr h₀ L h' m → News h₀ L h' news' → Q () { s with heap := h' }) :
    wpAny (model prog w) A (setItem (.ref x) (.ref s.heap.objs.size) (.ref l)) Q E { s with heap := s.heap.push { cls := .type "slice", data := .fields #[vl, vu, .none] } } := by
  have z := N _ (upd_mem U)
  have X' : (hd.heap_1 w.params).In (s.heap.push { cls := .type "slice", data := .fields #[vl, vu, .none] }) := (X.keeps F.keep).keeps fun _ _ e => Heap.get?_push_of_some _ e
  have F' : Fr h₀ L (s.heap.push { cls := .type "slice", data := .fields #[vl, vu, .none] }) m := F.push _
  have N' : News h₀ L (s.heap.push { cls := .type "slice", data := .fields #[vl, vu, .none] }) news := N.grown fun _ _ e => Heap.get?_push_of_some _ e
  have hxl : x ≠ l := by
    rintro rfl
    have := (N _ hl).1
    rw [z.1] at this
    cases this
  refine ring_cutAt X' (Heap.get?_push_of_some _ z.1) (Heap.IsSliceOf.new ..) pl pu (Heap.get?_push_of_some _ (N _ hl).1) hxl hb hz fun h' hs ho => h h' (F'.change hs z.2.1 z.2.2) (upd_same U N' hs ?_)
  rw [e] at ho
  exact ho
theorem ring_cut6 {v0 v1 v2 v3 v4 v5 : Value} {t : Tok} {kl : Nat} {Q : Unit → Shared → Prop} (F : Fr h₀ L s.heap m) (X : (hd.heap_1 w.params).In h₀) (N : News h₀ L s.heap news) (hl : (l, listOf #[] kl) ∈ news)
    (U : Upd x (ringObj dx #[v0, v1, v2, v3, v4, v5] k) (ringObj dx #[v0] (k + 1)) news news') (h : ∀ h', Fr h₀ L h' m → News h₀ L h' news' → Q () { s with heap := h' }) :
    wpAny (model prog w) A (setItem (.ref x) (.ref s.heap.objs.size) (.ref l)) Q E { s with heap := s.heap.push { cls := .type "slice", data := .fields #[.int 1 t, .none, .none] } } :=
  ring_cut (a := 1) (b := 6) (lo := some 1) (hi := none) (xs := #[v0, v1, v2, v3, v4, v5]) (new := #[]) (ys := #[v0]) F X N hl (IsPart.int _ _) .none (by show sliceBounds (some 1) none none 6 = _; decide) (by show 6 + 0 ≤ sizeLine; decide) (by simp [cutIn]) U h
theorem ring_cut0 {v0 v1 v2 v3 v4 v5 : Value} {kl : Nat} {Q : Unit → Shared → Prop} (F : Fr h₀ L s.heap m) (X : (hd.heap_1 w.params).In h₀) (N : News h₀ L s.heap news) (hl : (l, listOf #[v0, v1, v2, v3, v4, v5] kl) ∈ news)
    (U : Upd x (ringObj dx #[] k) (ringObj dx #[v0, v1, v2, v3, v4, v5] (k + 1)) news news') (h : ∀ h', Fr h₀ L h' m → News h₀ L h' news' → Q () { s with heap := h' }) :
    wpAny (model prog w) A (setItem (.ref x) (.ref s.heap.objs.size) (.ref l)) Q E { s with heap := s.heap.push { cls := .type "slice", data := .fields #[.none, .none, .none] } } :=
  ring_cut (a := 0) (b := 0) (lo := none) (hi := none) (xs := #[]) (new := #[v0, v1, v2, v3, v4, v5]) (ys := #[v0, v1, v2, v3, v4, v5]) F X N hl .none .none (by show sliceBounds none none none 0 = _; decide) (by show 0 + 6 ≤ sizeLine; decide) (by simp [cutIn]) U h
theorem ring_rest {value slice : Expr} {v0 v1 v2 v3 v4 v5 : Value} {t : Tok} {Q : Value → Shared → Prop} (F : Fr h₀ L s.heap m) (X : (hd.heap_1 w.params).In h₀) (N : News h₀ L s.heap news) (hx : (x, ringObj dx #[v0, v1, v2, v3, v4, v5] k) ∈ news)
    (h : ∀ D h', Fr h₀ L h' m → News h₀ L h' ((D, listOf #[v1, v2, v3, v4, v5] 0) :: news) → (∀ p ∈ news, p.1 < D) → Q (.ref D) { s with heap := h' })
    (hs : subscripted slice false (.ref x) (.ref s.heap.objs.size) = operate [.ref s.heap.objs.size, .ref x] (getItem (.ref x) (.ref s.heap.objs.size))) (ht : ∀ r, letTemporaryGo value (.ref x) r = pure ()) :
    wpAny (model prog w) A (subscriptTail value slice (.ref x) (.ref s.heap.objs.size)) Q E { s with heap := s.heap.push { cls := .type "slice", data := .fields #[.int 1 t, .none, .none] } } :=
  ring_slice (zs := [v1, v2, v3, v4, v5]) (lo := some 1) (hi := none) F X N hx (IsPart.int _ _) .none ((slicePick_from _ 1 (by show 1 ≤ 6; decide)).trans rfl) h hs ht (by show 6 ≤ sizeLine; decide)
end
end Mine
namespace Mine
theorem ring_instN {h₀ h : Heap} {L x dx : Addr} {news : List (Addr × Obj)} {xs : Array Value} {k : Nat} {od : Obj} (N : News h₀ L h news) (h1 : (x, ringObj dx xs k) ∈ news) (h2 : (dx, od) ∈ news) : W.InstAt h x (ringObj dx xs k) 129 (some od) := ⟨(N _ h1).1, rfl, rfl, (N _ h2).1⟩
end Mine
namespace Mine
theorem callWith_bnd {M : Model} {A : Around} {E : Value → Shared → Prop} {s : Shared} {h₀ : Heap} {L : Addr} {news : List (Addr × Obj)} {pos : Pos} {env : Env} {q x : Addr} {gt i : String} {Q : Value → Shared → Prop} (N : News h₀ L s.heap news) (hq : (q, bndObj gt i x) ∈ news) (hg : gt = "builtin_function_or_method" ∨ gt = "method-wrapper")
    (h : wpAny M A (call (.ref q) []) Q E s) : wpAny M A (callWith pos (.ref q) [] (backTo pos (starEach [] env)) []) Q E s :=
  callWith_of (P := fun h => h.get? q = some (bndObj gt i x)) rfl (fun h X => ⟨.machine, .inr (.inl rfl), (Looks.ld (part := none) X).andThen (by rcases hg with rfl | rfl <;> exact .now)⟩) (evalArgs_nil3 ⟨(N _ hq).1, h⟩)
end Mine
end
section
open PySem PySem.Spec PySem.Calls PySem.W PyProof.Rows
set_option maxRecDepth 100000
set_option maxHeartbeats 4000000
namespace Mine
section
variable {prog : Program} {w : World} {A : Around} {E : Value → Shared → Prop} {s : Shared} {C : Addr} {m₂ : Str → Option Value}
theorem own_name {env : Env} {x : Str} {pos : Pos} {v : Value} {Q : Value → Shared → Prop} (hns : s.heap.Ns env.locals m₂) (hv : m₂ x = some v) (hk : env.scope.kind = .function) (hx : env.kindOf x = some .local) (hb : (x == ("__debug__" : Str)) = false) (h : Q v s) :
    wpAny (model prog w) A (eval (.Name x pos) env) Q E s := wpAny_Name (wpAny_loadName_local hk hx hns hv h) hb
theorem glob_name {env : Env} {x : Str} {pos : Pos} {v : Value} {mg : Str → Option Value} {Q : Value → Shared → Prop} (hg : s.heap.Ns env.globals mg) (hv : mg x = some v) (hk : env.scope.kind = .function) (hx : env.kindOf x = some .globalImplicit) (hb : (x == ("__debug__" : Str)) = false) (h : Q v s) :
    wpAny (model prog w) A (eval (.Name x pos) env) Q E s := Calls.Name_function_global hk hx (Calls.loadGlobal_global hg hv h) hb
theorem Keeps.self : Keeps s s := ⟨s.heap, s.toks, rfl, fun _ _ e => e⟩
/-- EMPTYSTRING.join((fws, part)) -/
theorem str_elt {env : Env} {p1 p2 p3 p4 : Pos} {kt : Nat} {t0 t1 t2 : Tok} {c : Nat} {mg : Str → Option Value} (hloc : env.locals = C) (hglob : env.globals = mainGlobals) (hg : s.heap.Ns mainGlobals mg) (hE : mg "EMPTYSTRING" = some (.str ⟨#[]⟩ t0)) (hns : s.heap.Ns C m₂) (h1 : m₂ "fws" = some (.str ⟨#[]⟩ t1)) (h2 : m₂ "part" = some (.str ⟨#[c]⟩ t2))
    (hk : env.scope.kind = .function) (k1 : env.kindOf "EMPTYSTRING" = some .globalImplicit) (k2 : env.kindOf "fws" = some .local) (k3 : env.kindOf "part" = some .local) :
    wpAny (model prog w) A (eval (.Call (.Attribute (.Name "EMPTYSTRING" p1) "join" ⟨107, 33, 107, 49⟩) [.Tuple [.Name "fws" p2, .Name "part" p3] kt p4] [] ⟨107, 33, 107, 62⟩) env) (fun y s₃ => (∃ tk, y = .str ⟨#[c]⟩ tk) ∧ Keeps s s₃) E s := by
  subst hloc
  refine MethodCall_ ?_
  refine glob_name (hglob ▸ hg) hE hk k1 (by decide) ?_
  refine GM.join ?_
  refine callWith_method1 ?_
  refine spliced_more ?_
  refine Tuple_ ?_
  refine spliced_more ?_
  refine own_name hns h1 hk k2 (by decide) ?_
  refine spliced_more ?_
  refine own_name hns h2 hk k3 (by decide) ?_
  refine spliced_none ?_
  refine wpAny_newTuple (hsz := by show 2 ≤ sizeLine; decide) ?_
  refine spliced_none ?_
  refine join_tuple (items := #[.str ⟨#[]⟩ t1, .str ⟨#[c]⟩ t2]) (ys := [⟨#[]⟩, ⟨#[c]⟩]) ⟨_, Heap.get?_push_size _ rfl, rfl, 0, rfl⟩ (.cons _ _ (.cons _ _ .nil)) (by simp [Str.length]) fun t' k => ⟨⟨t', ?_⟩, _, k, rfl, fun b o e => Heap.get?_push_of_some _ e⟩
  have e : Txt.join (⟨#[]⟩ : Str) [⟨#[]⟩, ⟨#[c]⟩] = ⟨#[c]⟩ := by rfl
  rw [e]
end
end Mine
namespace Mine
/-- a piece of the ring: its tuple's address, the tokens of its two texts, its letter -/
abbrev Piece := Addr × Tok × Tok × Nat
noncomputable def pieceVals (p : Piece) : Array Value := #[.str ⟨#[]⟩ p.2.1, .str ⟨#[p.2.2.2]⟩ p.2.2.1]
noncomputable abbrev pieceObj (p : Piece) : Obj := { cls := .type "tuple", data := .seq #[.str ⟨#[]⟩ p.2.1, .str ⟨#[p.2.2.2]⟩ p.2.2.1] }
noncomputable abbrev piecesOf (its : List Piece) : Array Value := (its.map fun p => Value.ref p.1).toArray
noncomputable def textOf (its : List Piece) : Str := ⟨(its.map fun p => p.2.2.2).toArray⟩
theorem join_letters : ∀ l : List Nat, Txt.join (⟨#[]⟩ : Str) (l.map fun c => ⟨#[c]⟩) = ⟨l.toArray⟩ := by
  intro l
  rw [show ∀ ys : List Str, Txt.join (⟨#[]⟩ : Str) ys = Str.join ⟨#[]⟩ ys from fun ys => StrLaws.glued_eq_join _ ys]
  induction l with
  | nil => rfl
  | cons c r ih =>
    cases r with
    | nil => rfl
    | cons d r =>
      rw [List.map_cons, List.map_cons]
      rw [List.map_cons] at ih
      rw [join_cons_cons, ih]
      show Str.mk (((#[c] : Array Nat) ++ #[]) ++ (d :: r).toArray) = _
      congr 1
      simp
section
variable {prog : Program} {w : World} {A : Around} {E : Value → Shared → Prop} {s : Shared} {h₀ : Heap} {L x dx : Addr} {m mg mb : Str → Option Value} {pv : Program} {lo : List Str} {mean : ExcName → Option Value} {ps : Array Value} {k : Nat} {news : List (Addr × Obj)} {its : List Piece}
theorem ring_genexp {env : Env} {q1 q2 q3 q4 pa pb pt pn : Pos} {kt kt' : Nat} {scope : Scope} {cl : List (Str × Addr)} {pos : Pos} {Q : Value → Shared → Prop} {oc : Obj} {t0 : Tok}
    (hh : A.handled = none) (hco : scope.isCoroutine = false) (hclos : closureFor scope env = pure cl) (hcell : ∀ y ∈ scope.names, y.2 ≠ .cell) (h0 : scope.names.lookup (".0" : Str) = some NameKind.local)
    (hxa : scope.names.lookup ("fws" : Str) = some .local) (hxb : scope.names.lookup ("part" : Str) = some .local) (hxe : scope.names.lookup ("EMPTYSTRING" : Str) = some .globalImplicit) (hkind : scope.kind = .function) (hroom : A.depth < recursionLimit)
    (hcode : env.code = .ref 102) (hglob : env.globals = mainGlobals) (X : (hd.heap_1 w.params).In h₀) (T : Top pv lo mean mg mb h₀) (hE : mg "EMPTYSTRING" = some (.str ⟨#[]⟩ t0)) (hoc : h₀.get? 102 = some oc) (ht : HasTab oc 98) (tri : TriplesOk ps.toList)
    (hloc : env.locals = L) (hself : m "self" = some (.ref x)) (hks : env.kindOf "self" = some .local) (hek : env.scope.kind = .function)
    (F : Fr h₀ L s.heap m) (N : News h₀ L s.heap ((98, tabOf ps) :: news)) (off : ∀ p ∈ news, p.1 ≠ 98) (hx : (x, ringObj dx (piecesOf its) k) ∈ news) (hits : ∀ p ∈ its, (p.1, pieceObj p) ∈ news)
    (h : ∀ a h' g' tk ps', TriplesOk ps'.toList → Bare2 s.gens g' → Fr h₀ L h' m → News h₀ L h' ((98, tabOf ps') :: news) → (∀ p ∈ (98, tabOf ps') :: news, p.1 < a) →
      GenPk prog w A h₀ L a its.length (fun i v => ∃ y tk, (its.map fun p => (⟨#[p.2.2.2]⟩ : Str))[i]? = some y ∧ v = Value.str y tk) ((98, tabOf ps') :: news) { s with heap := h', gens := g', toks := tk } → Q (.ref a) { s with heap := h', gens := g', toks := tk })
    (hs : ∀ y, genFold (.Name "self" pn) env y = pure y) :
    wpAny (model prog w) A (eval (.GeneratorExp (.Call (.Attribute (.Name "EMPTYSTRING" q1) "join" ⟨107, 33, 107, 49⟩) [.Tuple [.Name "fws" q2, .Name "part" q3] kt q4] [] ⟨107, 33, 107, 62⟩) [⟨.Tuple [.Name "fws" pa, .Name "part" pb] kt' pt, .Name "self" pn, [], 0⟩] scope pos) env) Q E s := by
  subst hloc
  refine gen_K (L := env.locals) (m := m) (ps := ps) (n := its.length) (Fn := fun i v => ∃ y tk, (its.map fun p => (⟨#[p.2.2.2]⟩ : Str))[i]? = some y ∧ v = Value.str y tk) hh hco hclos hcell h0 hxa hxb (by decide) hkind hroom hcode hglob T hoc ht tri (by decide) ?_ hs
  refine own_name F.ns hself hek hks (by decide) ?_
  refine ring_iter (X.keeps F.keep) (N _ (.tail _ hx)).1 ?_
  have xsz : (piecesOf its).size = its.length := by simp
  have lt := fun (p : Addr × Obj) (hp : p ∈ (98, tabOf ps) :: news) => Heap.lt_size (N p hp).1
  have xne : x ≠ s.heap.objs.size := Nat.ne_of_lt (lt _ (.tail _ hx))
  have N1 : News h₀ env.locals (s.heap.push { cls := .type "list_iterator", data := .fields #[.ref x, .int 0 0] }) ((98, tabOf ps) :: news) := N.grown fun _ _ e => Heap.get?_push_of_some _ e
  have Lne : env.locals ≠ s.heap.objs.size := Nat.ne_of_lt F.ns.lt
  have get : ∀ j (hj : j < (piecesOf its).size), its[j]? = some (its[j]'(xsz ▸ hj)) := fun j hj => List.getElem?_eq_getElem _
  have mem : ∀ j (hj : j < (piecesOf its).size), its[j]'(xsz ▸ hj) ∈ its := fun j hj => List.getElem_mem _
  have W := fun (A' : Around) (hA : A'.handled = none) => ring_walks (prog := prog) (w := w) (A := A') (x := x) (dx := dx) (xs := piecesOf its) (k := k) hA s.heap.objs.size xne (fun j => (its[j]?.map (·.1)).getD 0) (fun j => (its[j]?.map pieceVals).getD #[.none, .none])
    (fun j hj => by
      have q : (its.map fun p => Value.ref p.1)[j]? = some (Value.ref (its[j]'(xsz ▸ hj)).1) := by rw [List.getElem?_map, get j hj]; rfl
      rw [get j hj]
      show (its.map fun p => Value.ref p.1).toArray[j]? = _
      rw [List.getElem?_toArray, q]; rfl) (fun j hj => by rw [get j hj]; exact Nat.ne_of_lt (lt _ (.tail _ (hits _ (mem j hj)))))
  rw [xsz] at W
  have base : ∀ b o, h₀.get? b = some o → b ≠ 98 ∧ b ≠ s.heap.objs.size := fun b o e => by
    refine ⟨fun q => ?_, fun q => ?_⟩
    · subst q; rw [(N _ (.head _)).2.2] at e; cases e
    · exact absurd (Nat.lt_of_lt_of_le (Heap.lt_size e) F.above) (Nat.not_lt.mpr (q ▸ Nat.le_of_lt F.ns.lt))
  refine ⟨s.heap.objs.size, _, _, _, _, _, news, rfl, F.push _, N1, W, ?_, ⟨⟨_, Heap.get?_push_size _ rfl, rfl, rfl⟩, (N1 _ (.tail _ hx)).1, ?_⟩, ?_, ?_, ?_, ?_, ?_, ?_, ?_⟩
  · intro i vals hv
    cases e : its[i]? with
    | none => rw [e] at hv; exact ⟨_, _, hv⟩
    | some p => rw [e] at hv; exact ⟨_, _, hv⟩
  · intro j hj₀
    have hj : j < (piecesOf its).size := by rw [xsz]; exact hj₀
    have hm := N1 _ (.tail _ (hits _ (mem j hj)))
    rw [get j hj]
    exact ⟨_, hm.1, rfl, 0, rfl⟩
  · intro b hb
    show b < (s.heap.push _).objs.size
    rw [Heap.size_push]
    rcases List.mem_cons.mp hb with rfl | hb
    · exact Nat.lt_succ_self _
    · rcases List.mem_cons.mp hb with rfl | hb
      · exact Nat.lt_succ_of_lt (lt _ (.tail _ hx))
      · obtain ⟨j, hj, rfl⟩ := List.mem_map.mp hb
        have hj' : j < (piecesOf its).size := by rw [xsz]; exact List.mem_range.mp hj
        rw [get j hj']
        exact Nat.lt_succ_of_lt (lt _ (.tail _ (hits _ (mem j hj'))))
  · intro hb
    rcases List.mem_cons.mp hb with e | hb
    · exact absurd (lt _ (.head _)) (Nat.not_lt.mpr (Nat.le_of_eq e.symm))
    · rcases List.mem_cons.mp hb with e | hb
      · exact off _ hx e.symm
      · obtain ⟨j, hj, e⟩ := List.mem_map.mp hb
        have hj' : j < (piecesOf its).size := by rw [xsz]; exact List.mem_range.mp hj
        rw [get j hj'] at e
        exact off _ (hits _ (mem j hj')) e
  · intro p hp
    exact ⟨off p hp, fun hm => Nat.ne_of_lt (lt _ (.tail _ hp)) (List.mem_singleton.mp hm)⟩
  · exact fun hm => Lne (List.mem_singleton.mp hm)
  · intro b hb
    rw [List.mem_singleton.mp hb]
    cases e : h₀.get? s.heap.objs.size with
    | none => rfl
    | some o => exact absurd rfl (base _ _ e).2
  · intro A' E' i va vb s' m₂ C code bi hA hi hp hns h1 h2 hk
    have hg : s'.heap.Ns mainGlobals mg := T.g.keeps fun b o e => hk b o (base b o e).1 (fun hm => (base b o e).2 (List.mem_singleton.mp hm)) (Heap.get?_push_of_some _ (F.keep b o e))
    have e : its[i]? = some its[i] := List.getElem?_eq_getElem hi
    rw [e] at hp
    have hv : va = .str ⟨#[]⟩ its[i].2.1 ∧ vb = .str ⟨#[its[i].2.2.2]⟩ its[i].2.2.1 := by simpa [pieceVals] using hp
    rw [hv.1] at h1
    rw [hv.2] at h2
    refine wpAny_mono (str_elt (env := genEnv scope cl C code bi env) rfl hglob hg hE hns h1 h2 hkind hxe hxa hxb) (fun y s₃ hy => ⟨?_, hy.2⟩) fun _ _ z => z
    obtain ⟨tk, rfl⟩ := hy.1
    exact ⟨_, tk, by rw [List.getElem?_map, e]; rfl, rfl⟩
  · exact fun a h' g' tk ps' tri' bb F' N' l' G => h a h' g' tk ps' tri' bb F' N' l' G
end
end Mine
namespace Mine
theorem joinOk_letters (its : List Piece) (h : its.length ≤ 1000) : JoinOk (Str.ofString "") (its.map fun p => (⟨#[p.2.2.2]⟩ : Str)) = true := by
  refine joinOk_of ?_
  have e : ((its.map fun p => (⟨#[p.2.2.2]⟩ : Str)).map (·.length)).sum = its.length := by
    clear h
    induction its with
    | nil => rfl
    | cons p r ih =>
      rw [List.map_cons, List.map_cons, List.sum_cons, ih, List.length_cons]
      show 1 + r.length = _
      omega
  rw [e, List.length_map, show (Str.ofString "").length = 0 from rfl]
  omega
theorem join_pieces (its : List Piece) : Txt.join (Str.ofString "") (its.map fun p => (⟨#[p.2.2.2]⟩ : Str)) = textOf its := by
  have e := join_letters (its.map fun p => p.2.2.2)
  rw [List.map_map] at e
  exact e
end Mine
end
section
open PySem PySem.Spec PySem.Calls PySem.W PyProof.Rows
set_option maxRecDepth 100000
set_option maxHeartbeats 4000000
namespace Mine
section
variable {prog : Program} {w : World} {A : Around} {E : Value → Shared → Prop} {s : Shared} {h₀ : Heap} {L c P : Addr} {m mg mb : Str → Option Value} {pv : Program} {lo : List Str} {mean : ExcName → Option Value} {ps : Array Value} {news : List (Addr × Obj)}
theorem gen_G {env : Env} {elt iter : Expr} {xa xb : Str} {pa pb pt : Pos} {kt : Nat} {scope : Scope} {cl : List (Str × Addr)} {pos : Pos} {Q : Value → Shared → Prop} {oc : Obj} (n : Nat) (Fn : Nat → Value → Prop) (ps : Array Value) (_F : Fr h₀ L s.heap m)
    (hh : A.handled = none) (hco : scope.isCoroutine = false) (hclos : closureFor scope env = pure cl) (hcell : ∀ y ∈ scope.names, y.2 ≠ .cell) (h0 : scope.names.lookup (".0" : Str) = some NameKind.local)
    (hxa : scope.names.lookup xa = some .local) (hxb : scope.names.lookup xb = some .local) (hab : xa ≠ xb) (hkind : scope.kind = .function) (hroom : A.depth < recursionLimit)
    (hcode : env.code = .ref c) (hglob : env.globals = mainGlobals) (T : Top pv lo mean mg mb h₀) (hoc : h₀.get? c = some oc) (ht : HasTab oc P) (tri : TriplesOk ps.toList) (hPs : P ≠ cStatics)
    (h : wpAny (model prog w) A (eval iter env) (fun xv s₁ => wpAny (model prog w) A (pyIter xv) (GSrc prog w A h₀ L m P ps n xa xb elt scope cl env Fn Q) E s₁) E s)
    (hs : ∀ x, genFold iter env x = pure x) :
    wpAny (model prog w) A (eval (.GeneratorExp elt [⟨.Tuple [.Name xa pa, .Name xb pb] kt pt, iter, [], 0⟩] scope pos) env) Q E s :=
  gen_K hh hco hclos hcell h0 hxa hxb hab hkind hroom hcode hglob T hoc ht tri hPs h hs
/-- zip of two tuples of three whole numbers, added -/
theorem add_gsrc {la lb : Addr} {a0 a1 a2 b0 b1 b2 : Int} {ta0 ta1 ta2 tb0 tb1 tb2 : Tok} {ka kb : Nat} {xa xb : Str} {p1 p2 p3 : Pos} {scope : Scope} {cl : List (Str × Addr)} {env : Env} {Q : Value → Shared → Prop}
    (hh : A.handled = none) (F : Fr h₀ L s.heap m) (N : News h₀ L s.heap ((P, tabOf ps) :: news)) (off : ∀ p ∈ news, p.1 ≠ P) (ha : (la, ({ cls := .type "tuple", data := .seq #[.int a0 ta0, .int a1 ta1, .int a2 ta2] ka } : Obj)) ∈ news) (hb : (lb, ({ cls := .type "tuple", data := .seq #[.int b0 tb0, .int b1 tb1, .int b2 tb2] kb } : Obj)) ∈ news)
    (hxa : scope.names.lookup xa = some .local) (hxb : scope.names.lookup xb = some .local) (hkind : scope.kind = .function) (da : (xa == ("__debug__" : Str)) = false) (db : (xb == ("__debug__" : Str)) = false)
    (h : ∀ a h' g' tk ps', TriplesOk ps'.toList → Bare2 s.gens g' → Fr h₀ L h' m → News h₀ L h' ((P, tabOf ps') :: news) → (∀ p ∈ (P, tabOf ps') :: news, p.1 < a) →
      GenPk prog w A h₀ L a 3 (fun i v => ∃ tk, v = .int (([a0 + b0, a1 + b1, a2 + b2] : List Int).getD i 0) tk) ((P, tabOf ps') :: news) { s with heap := h', gens := g', toks := tk } → Q (.ref a) { s with heap := h', gens := g', toks := tk }) :
    wpAny (model prog w) A (call (.type "zip") [.ref la, .ref lb]) (fun xv s₁ => wpAny (model prog w) A (pyIter xv) (GSrc prog w A h₀ L m P ps 3 xa xb (.BinOp (.Name xa p1) .Add (.Name xb p2) p3) scope cl env (fun i v => ∃ tk, v = .int (([a0 + b0, a1 + b1, a2 + b2] : List Int).getD i 0) tk) Q) E s₁) E s := by
  have I1 := Itb.tuple (prog := prog) (w := w) la #[.int a0 ta0, .int a1 ta1, .int a2 ta2]
  have I2 := Itb.tuple (prog := prog) (w := w) lb #[.int b0 tb0, .int b1 tb1, .int b2 tb2]
  have za := N _ (.tail _ ha)
  have zb := N _ (.tail _ hb)
  refine zip_gen (n := 3) I1 I2 hh F N ⟨_, za.1, rfl, ka, rfl⟩ ⟨_, zb.1, rfl, kb, rfl⟩ fun h' Z fp wr Pt St Mid W hPt hst hfp F' N' hnw hLw hwr hfb => ?_
  refine ⟨Z, fp, wr, Pt, St, Mid, news, rfl, F', N', W, fun i vals hv => ?_, hst, hfp, fun hP => ?_, fun p hp => ⟨off p hp, hnw p (.tail _ hp)⟩, hLw, hwr, ?_, h⟩
  · obtain ⟨x, y, _, _, e⟩ := hPt i vals hv
    exact ⟨x, y, e⟩
  · rcases hfb P hP with q | q | q
    · exact absurd (Heap.lt_size (N _ (.head _)).1) (Nat.not_lt.mpr q)
    · exact off _ ha (List.mem_singleton.mp q).symm
    · exact off _ hb (List.mem_singleton.mp q).symm
  · intro A' E' i va vb s' m₂ C code bi hA hi hp hns h1 h2 _
    obtain ⟨x, y, hx, hy, e⟩ := hPt i _ hp
    obtain ⟨rfl, rfl⟩ : va = x ∧ vb = y := by simpa using e
    have key : ∃ u v tu tv, va = .int u tu ∧ vb = .int v tv ∧ u + v = ([a0 + b0, a1 + b1, a2 + b2] : List Int).getD i 0 := by
      match i, hi with
      | 0, _ => simp at hx hy; exact ⟨_, _, _, _, hx.symm, hy.symm, rfl⟩
      | 1, _ => simp at hx hy; exact ⟨_, _, _, _, hx.symm, hy.symm, rfl⟩
      | 2, _ => simp at hx hy; exact ⟨_, _, _, _, hx.symm, hy.symm, rfl⟩
    obtain ⟨u, v, tu, tv, rfl, rfl, ev⟩ := key
    refine wpAny_BinOp ?_
    refine own_name (env := genEnv scope cl C code bi env) hns h1 hkind hxa da ?_
    refine own_name (env := genEnv scope cl C code bi env) hns h2 hkind hxb db ?_
    refine add_int ?_
    exact ⟨⟨_, by rw [ev]⟩, _, _, rfl, fun _ _ e => e⟩
end
end Mine
end
section
open PySem PySem.Spec PySem.Calls PySem.W PyProof.Rows PySem.Flt PyProof.Rows.LCg
set_option maxRecDepth 100000
namespace Mine
/-- three whole numbers -/
abbrev P3 := Int × Int × Int
noncomputable def add3 (a b : P3) : P3 := (a.1 + b.1, a.2.1 + b.2.1, a.2.2 + b.2.2)
/-- a paint in the ledger -/
inductive HasPaint (nw : List (Addr × Obj)) (a : Addr) (p : P3) : Prop
  | mk (t0 t1 t2 : Tok) (h : (a, ({ cls := .type "tuple", data := .seq #[.int p.1 t0, .int p.2.1 t1, .int p.2.2 t2] } : Obj)) ∈ nw)
theorem HasPaint.sub {a b : List (Addr × Obj)} {x : Addr} {p : P3} (h : HasPaint a x p) (s : Sub a b) : HasPaint b x p := let ⟨t0, t1, t2, e⟩ := h; ⟨t0, t1, t2, s _ e⟩
abbrev Rw := Str × Addr × P3
noncomputable abbrev kvsOf (rs : List Rw) : List (Str × Value) := rs.map fun r => (r.1, Value.ref r.2.1)
noncomputable abbrev lawOf (rs : List Rw) : List (Str × P3) := rs.map fun r => (r.1, r.2.2)
/-- a dict of paints in the ledger -/
inductive PaintDict (prog : Program) (w : World) (nw : List (Addr × Obj)) (D : Addr) (l : List (Str × P3)) : Prop
  | mk (oD : Obj) (rs : List Rw) (hm : (D, oD) ∈ nw) (hs : (D == sysModules) = false) (hd : oD.IsDictOf (PySem.strKind prog w) (kvsOf rs)) (hl : lawOf rs = l) (hp : ∀ r ∈ rs, HasPaint nw r.2.1 r.2.2)
theorem PaintDict.sub {prog : Program} {w : World} {a b : List (Addr × Obj)} {D : Addr} {l : List (Str × P3)} (h : PaintDict prog w a D l) (s : Sub a b) : PaintDict prog w b D l :=
  let ⟨o, rs, h1, h2, h3, h4, h5⟩ := h; ⟨o, rs, s _ h1, h2, h3, h4, fun r hr => (h5 r hr).sub s⟩
theorem valueAt_nil (k : Str) : valueAt ([] : List (Str × Value)) k = none := rfl
theorem valueAt_cons {a k : Str} {v : Value} {r : List (Str × Value)} : valueAt ((a, v) :: r) k = if a = k then some v else valueAt r k := by
  unfold valueAt
  by_cases h : a = k <;> simp [h]
theorem valueAt_get {kvs : List (Str × Value)} (hn : (kvs.map (·.1)).Nodup) {i : Nat} {k : Str} {v : Value} (h : kvs[i]? = some (k, v)) : valueAt kvs k = some v := by
  induction kvs generalizing i with
  | nil => simp at h
  | cons p r ih =>
    obtain ⟨a, x⟩ := p
    rw [valueAt_cons]
    simp only [List.map_cons, List.nodup_cons] at hn
    cases i with
    | zero =>
      have e : a = k ∧ x = v := by simpa using h
      rw [if_pos e.1, e.2]
    | succ i =>
      have h' : r[i]? = some (k, v) := by simpa using h
      have hm : k ∈ r.map (·.1) := List.mem_map.mpr ⟨_, List.mem_of_getElem? h', rfl⟩
      rw [if_neg (fun e => hn.1 (by rw [e]; exact hm))]
      exact ih hn.2 h'
theorem stored_new {kvs : List (Str × Value)} {k : Str} {v : Value} (h : k ∉ kvs.map (·.1)) : stored kvs k v = kvs ++ [(k, v)] := by
  unfold stored
  rw [if_neg]
  simp only [List.any_eq_true, decide_eq_true_eq, not_exists, not_and]
  exact fun p hp e => h (List.mem_map.mpr ⟨p, hp, e⟩)
theorem stored_at {a b : List (Str × Value)} {k : Str} {u v : Value} (h : (((a ++ (k, u) :: b).map (·.1))).Nodup) : stored (a ++ (k, u) :: b) k v = a ++ (k, v) :: b := by
  unfold stored
  rw [if_pos (by simp)]
  simp only [List.map_append, List.map_cons] at h ⊢
  rw [List.nodup_append] at h
  obtain ⟨_, h2, h3⟩ := h
  simp only [List.nodup_cons] at h2
  have ea : a.map (fun kv => if kv.1 = k then (kv.1, v) else kv) = a := by
    refine (List.map_congr_left fun p hp => ?_).trans (List.map_id _)
    rw [if_neg (fun e => h3 p.1 (List.mem_map.mpr ⟨p, hp, rfl⟩) k (by simp) e)]
    rfl
  have eb : b.map (fun kv => if kv.1 = k then (kv.1, v) else kv) = b := by
    refine (List.map_congr_left fun p hp => ?_).trans (List.map_id _)
    rw [if_neg (fun e => h2.1 (List.mem_map.mpr ⟨p, hp, e⟩))]
    rfl
  simp [ea, eb]
theorem stored_take {kvs : List (Str × Value)} (hn : (kvs.map (·.1)).Nodup) {i : Nat} {k : Str} {v : Value} (h : kvs[i]? = some (k, v)) : stored (kvs.take i) k v = kvs.take (i + 1) := by
  have hlt : i < kvs.length := (List.getElem?_eq_some_iff.mp h).1
  have he : kvs[i] = (k, v) := (List.getElem?_eq_some_iff.mp h).2
  rw [List.take_add_one, h]
  refine stored_new fun hm => ?_
  obtain ⟨p, hp, e⟩ := List.mem_map.mp hm
  obtain ⟨j, hj, e2⟩ := List.mem_iff_getElem.mp hp
  have hj' : j < i := by simp at hj; lia
  have e3 : kvs[j] = p := by simpa using e2
  have hn' := List.pairwise_iff_getElem.mp hn j i (by simpa using (by (clear hn h he hm hp e hj e2 e3; lia))) (by simpa using hlt) hj'
  simp only [List.getElem_map] at hn'
  exact hn' (by rw [e3, he]; exact e)
theorem news_ne {h₀ h : Heap} {L a b : Addr} {o o' : Obj} {l : List (Addr × Obj)} (N : News h₀ L h l) (h1 : (a, o) ∈ l) (h2 : (b, o') ∈ l) (hne : o.cls ≠ o'.cls) : a ≠ b := fun e => by
  have e1 := (N _ h1).1
  have e2 := (N _ h2).1
  subst e
  exact hne (congrArg Obj.cls (Option.some.inj (e1.symm.trans e2)))
theorem PaintDict.filter {prog : Program} {w : World} {nw : List (Addr × Obj)} {D : Addr} {l : List (Str × P3)} (h : PaintDict prog w nw D l) (f : Addr → Bool) (hD : f D = true) (hp : ∀ a p, HasPaint nw a p → f a = true) : PaintDict prog w (nw.filter fun q => f q.1) D l := by
  obtain ⟨o, rs, h1, h2, h3, h4, h5⟩ := h
  refine ⟨o, rs, List.mem_filter.mpr ⟨h1, hD⟩, h2, h3, h4, fun r hr => ?_⟩
  have hf := hp _ _ (h5 r hr)
  obtain ⟨t0, t1, t2, e⟩ := h5 r hr
  exact ⟨t0, t1, t2, List.mem_filter.mpr ⟨e, hf⟩⟩
theorem paint_look {nw : List (Addr × Obj)} {k : Str} {q : P3} : ∀ (rs : List Rw), (∀ r ∈ rs, HasPaint nw r.2.1 r.2.2) → (lawOf rs).lookup k = some q → ∃ a, valueAt (kvsOf rs) k = some (.ref a) ∧ HasPaint nw a q
  | [], _, h => by simp at h
  | r :: rs, hp, h => by
    simp only [lawOf, List.map_cons, List.lookup_cons] at h
    by_cases e : (k == r.1) = true
    · rw [e] at h
      have e1 : k = r.1 := by simpa using e
      have e2 : r.2.2 = q := Option.some.inj h
      refine ⟨r.2.1, ?_, e2 ▸ hp r (.head _)⟩
      simp only [kvsOf, List.map_cons]
      rw [valueAt_cons, if_pos e1.symm]
    · have e' : (k == r.1) = false := by simpa using e
      rw [e'] at h
      obtain ⟨a, h1, h2⟩ := paint_look rs (fun r hr => hp r (.tail _ hr)) h
      refine ⟨a, ?_, h2⟩
      simp only [kvsOf, List.map_cons]
      rw [valueAt_cons, if_neg (fun e2 => e (by rw [e2]; simp))]
      exact h1
theorem one_ne {a b : Nat} (h : a ≠ b) : (⟨#[a]⟩ : Str) ≠ ⟨#[b]⟩ := fun e => h (by simpa using e)
theorem names_nodup {l : List Nat} (h : l.Nodup) : (l.map fun c => (⟨#[c]⟩ : Str)).Nodup := List.Pairwise.map _ (fun _ _ hne => one_ne hne) h
theorem stored6 {c0 c1 c2 c3 c4 c5 : Nat} (h : [c0, c1, c2, c3, c4, c5].Nodup) (v0 v1 v2 v3 v4 v5 : Value) :
    stored (stored (stored (stored (stored (stored [] (⟨#[c0]⟩ : Str) v0) ⟨#[c1]⟩ v1) ⟨#[c2]⟩ v2) ⟨#[c3]⟩ v3) ⟨#[c4]⟩ v4) ⟨#[c5]⟩ v5 = [(⟨#[c0]⟩, v0), (⟨#[c1]⟩, v1), (⟨#[c2]⟩, v2), (⟨#[c3]⟩, v3), (⟨#[c4]⟩, v4), (⟨#[c5]⟩, v5)] := by
  simp only [List.nodup_cons, List.mem_cons, List.not_mem_nil, or_false, not_or] at h
  obtain ⟨⟨h01, h02, h03, h04, h05⟩, ⟨h12, h13, h14, h15⟩, ⟨h23, h24, h25⟩, ⟨h34, h35⟩, h45, _⟩ := h
  rw [stored_new (kvs := []) (by simp), List.nil_append]
  rw [stored_new (kvs := [_]) (by simp; exact fun e => h01 e.symm), List.singleton_append]
  rw [stored_new (kvs := [_, _]) (by simp; exact ⟨fun e => h02 e.symm, fun e => h12 e.symm⟩)]
  simp only [List.cons_append, List.nil_append]
  rw [stored_new (kvs := [_, _, _]) (by simp; exact ⟨fun e => h03 e.symm, fun e => h13 e.symm, fun e => h23 e.symm⟩)]
  simp only [List.cons_append, List.nil_append]
  rw [stored_new (kvs := [_, _, _, _]) (by simp; exact ⟨fun e => h04 e.symm, fun e => h14 e.symm, fun e => h24 e.symm, fun e => h34 e.symm⟩)]
  simp only [List.cons_append, List.nil_append]
  rw [stored_new (kvs := [_, _, _, _, _]) (by simp; exact ⟨fun e => h05 e.symm, fun e => h15 e.symm, fun e => h25 e.symm, fun e => h35 e.symm, fun e => h45 e.symm⟩)]
  simp only [List.cons_append, List.nil_append]
theorem pd_of6 {prog : Program} {w : World} {nw : List (Addr × Obj)} {E : Addr} {oE : Obj} {c0 c1 c2 c3 c4 c5 : Nat} {b0 b1 b2 b3 b4 b5 : Addr} {q0 q1 q2 q3 q4 q5 : P3} (hc : [c0, c1, c2, c3, c4, c5].Nodup) (hm : (E, oE) ∈ nw)
    (hE : KeepD (oE.IsDictOf (PySem.strKind prog w) (stored (stored (stored (stored (stored (stored [] (⟨#[c0]⟩ : Str) (.ref b0)) ⟨#[c1]⟩ (.ref b1)) ⟨#[c2]⟩ (.ref b2)) ⟨#[c3]⟩ (.ref b3)) ⟨#[c4]⟩ (.ref b4)) ⟨#[c5]⟩ (.ref b5))))
    (hs : (E == sysModules) = false) (h0 : HasPaint nw b0 q0) (h1 : HasPaint nw b1 q1) (h2 : HasPaint nw b2 q2) (h3 : HasPaint nw b3 q3) (h4 : HasPaint nw b4 q4) (h5 : HasPaint nw b5 q5) :
    PaintDict prog w nw E [(⟨#[c0]⟩, q0), (⟨#[c1]⟩, q1), (⟨#[c2]⟩, q2), (⟨#[c3]⟩, q3), (⟨#[c4]⟩, q4), (⟨#[c5]⟩, q5)] := by
  have hE' := hE.out
  rw [stored6 hc] at hE'
  refine ⟨oE, [(⟨#[c0]⟩, b0, q0), (⟨#[c1]⟩, b1, q1), (⟨#[c2]⟩, b2, q2), (⟨#[c3]⟩, b3, q3), (⟨#[c4]⟩, b4, q4), (⟨#[c5]⟩, b5, q5)], hm, hs, hE', rfl, fun r hr => ?_⟩
  simp only [List.mem_cons, List.not_mem_nil, or_false] at hr
  rcases hr with rfl | rfl | rfl | rfl | rfl | rfl <;> assumption
theorem zw_fst : ∀ (la lb : List (Str × P3)), la.length ≤ lb.length → (List.zipWith (fun a b => (a.1, add3 b.2 a.2)) la lb).map (·.1) = la.map (·.1)
  | [], _, _ => by simp
  | a :: la, [], h => by simp at h
  | a :: la, b :: lb, h => by
    have := zw_fst la lb (by simpa using h)
    simp only [List.zipWith_cons_cons, List.map_cons, this]
theorem three_of {x y z : Int} {acc : Array Value} (h : ItemsOf (fun i v => ∃ tk, v = Value.int (([x, y, z] : List Int).getD i 0) tk) acc 3) : ∃ t0 t1 t2, acc = #[.int x t0, .int y t1, .int z t2] := by
  obtain ⟨hs, hi⟩ := h
  obtain ⟨l⟩ := acc
  match l, hs, hi with
  | [a, b, c], _, hi =>
    obtain ⟨t0, e0⟩ := hi 0 a (by simp)
    obtain ⟨t1, e1⟩ := hi 1 b (by simp)
    obtain ⟨t2, e2⟩ := hi 2 c (by simp)
    exact ⟨t0, t1, t2, by rw [e0, e1, e2]; rfl⟩
section
variable {prog : Program} {w : World} {A : Around} {E : Value → Shared → Prop} {s : Shared} {env : Env} {h₀ : Heap} {target : Expr} {body : List Stmt} {Q : Flow → Shared → Prop}
/-- the turns, by what holds ahead of each -/
theorem GItems.inv {I : Addr} {c : String} {keep : List (Addr × Obj)} (J : Nat → (Str → Option Value) → List (Addr × Obj) → Prop) (xs : List Itm)
    (step : ∀ i a m news, xs[i]? = some a → J i m news → SubL keep news → ∀ v h tk g oI, Bare2 s.gens g → a.Is v h → oI.cls = .type c → Fr h₀ env.locals h m → News h₀ env.locals h ((I, oI) :: news) →
      wpAny (model prog w) A (assign target env v) (fun _ s₂ => wpAny (model prog w) A (execs body env) (GPost h₀ env.locals { s with heap := h, toks := tk, gens := g } [(I, oI)] (fun m' n' => SubL keep n' ∧ J (i + 1) m' n') Q) E s₂) E { s with heap := h, toks := tk, gens := g })
    (fin : ∀ m news, J xs.length m news → ∀ h tk g, Bare2 s.gens g → Fr h₀ env.locals h m → News h₀ env.locals h news → Q .next { s with heap := h, toks := tk, gens := g }) :
    ∀ (k i : Nat) m news, k + i = xs.length → J i m news → SubL keep news → GItems prog w A E h₀ env target body Q s [(I, c)] keep (xs.drop i) m news := by
  intro k
  induction k with
  | zero =>
    intro i m news hi hJ _
    have : xs.drop i = [] := List.drop_eq_nil_of_le (by lia)
    rw [this]
    exact fin m news (by have : i = xs.length := by lia
                         rw [← this]; exact hJ)
  | succ k ih =>
    intro i m news hi hJ hk
    have hlt : i < xs.length := by lia
    rw [List.drop_eq_getElem_cons hlt]
    intro v h tk g bb hav F o hc N
    refine wpAny_mono (step i _ m news (List.getElem?_eq_getElem hlt) hJ hk v h tk g o bb hav hc F N) (fun _ s₂ h₂ => wpAny_mono h₂ (fun f s₃ p => ?_) fun _ _ e => e) fun _ _ e => e
    have conv : GEnd h₀ env.locals { s with heap := h, toks := tk, gens := g } [(I, o)] (fun m' n' => SubL keep n' ∧ J (i + 1) m' n') s₃ → GEnd h₀ env.locals { s with heap := h, toks := tk, gens := g } [(I, o)] (fun m' n' => SubL keep n' ∧ GItems prog w A E h₀ env target body Q s [(I, c)] keep (xs.drop (i + 1)) m' n') s₃ := by
      rintro ⟨h', tk', g', m', news', e, bb', F', N', off, hk', hJ'⟩
      exact ⟨h', tk', g', m', news', e, bb', F', N', off, hk', ih (i + 1) m' news' (by grind) hJ' hk'⟩
    cases f with
    | ret v => exact p
    | brk => exact p
    | next => exact conv p
    | cont => exact conv p
theorem GItems.all {I : Addr} {c : String} {keep : List (Addr × Obj)} (J : Nat → (Str → Option Value) → List (Addr × Obj) → Prop) {xs : List Itm} {m : Str → Option Value} {news : List (Addr × Obj)} (h0 : J 0 m news) (hk : SubL keep news)
    (step : ∀ i a m news, xs[i]? = some a → J i m news → SubL keep news → ∀ v h tk g oI, Bare2 s.gens g → a.Is v h → oI.cls = .type c → Fr h₀ env.locals h m → News h₀ env.locals h ((I, oI) :: news) →
      wpAny (model prog w) A (assign target env v) (fun _ s₂ => wpAny (model prog w) A (execs body env) (GPost h₀ env.locals { s with heap := h, toks := tk, gens := g } [(I, oI)] (fun m' n' => SubL keep n' ∧ J (i + 1) m' n') Q) E s₂) E { s with heap := h, toks := tk, gens := g })
    (fin : ∀ m news, J xs.length m news → ∀ h tk g, Bare2 s.gens g → Fr h₀ env.locals h m → News h₀ env.locals h news → Q .next { s with heap := h, toks := tk, gens := g }) :
    GItems prog w A E h₀ env target body Q s [(I, c)] keep xs m news := by
  have := GItems.inv (prog := prog) (w := w) (A := A) (E := E) (target := target) J xs step fin xs.length 0 m news (by simp +arith) h0 hk
  rwa [List.drop_zero] at this
end
end Mine
end
section
open PySem PySem.Spec PySem.Calls PySem.W PyProof.Rows PySem.Flt
namespace Mine
/-- the law's own body and scope -/
noncomputable def lawBody : List Stmt := ((recsOf PySem.Challenge.pw_wo0025_01).getLast?.map fun r => r.body).getD []
noncomputable def lawScope : Scope := ((recsOf PySem.Challenge.pw_wo0025_01).getLast?.map fun r => r.scope).getD ⟨.function, [], false, false, []⟩
noncomputable def lawEnv (L fa : Addr) (cd : Value) : Env := envOfC (Str.ofString "law") lawScope L fa cd
def Six (n0 n1 n2 n3 n4 n5 : Int) : Prop := (0 ≤ n0 ∧ n0 < 1000000) ∧ (0 ≤ n1 ∧ n1 < 1000000) ∧ (0 ≤ n2 ∧ n2 < 1000000) ∧ (0 ≤ n3 ∧ n3 < 1000000) ∧ (0 ≤ n4 ∧ n4 < 1000000) ∧ (0 ≤ n5 ∧ n5 < 1000000)
end Mine
end
section
local macro_rules | `(tactic| walk_at $s:str) => `(tactic| k_extra $s)
local macro_rules | `(tactic| k_mem) => `(tactic| first | with_reducible assumption | exact List.Mem.head _ | (refine' List.Mem.tail _ ?_; k_mem) | exact Mine.Sub.mem (by with_reducible assumption) (by k_mem) | assumption)
local macro_rules | `(tactic| k_all) => `(tactic| assumption)
section
open PySem PySem.Spec PySem.Calls PySem.W PyProof.Rows PySem.Flt
set_option maxRecDepth 100000
set_option maxHeartbeats 8000000
namespace Mine
abbrev AddClaim (w : World) (pv : Program) (lo : List Str) (mean : ExcName → Option Value) (mg mb : Str → Option Value) : Prop :=
  ∀ (dp un : Nat) (gd : Option (List Code)) (cn : Str) (cs : Scope) (a : Addr) (ccd : Value) (cl : List (Str × Addr)) (outer : List Env) (A₀ : Around) (base h₀ : Heap) (L : Addr) (m : Str → Option Value) (s : Shared) (Q E : Value → Shared → Prop) (news : List (Addr × Obj)) (d1 d2 : Addr) (la lb : List (Str × P3)) (ps : Array Value) (nw : List (Addr × Obj)),
    Below A₀ base outer h₀ → Fr h₀ L s.heap m → (hd.heap_1 w.params).In h₀ → News h₀ L s.heap news → Top pv lo mean mg mb h₀ → cs.kind = .function →
    dp + 2 < recursionLimit → un + 16 < cLine →
    (news = (23, tabOf ps) :: nw) →
    (TriplesOk ps.toList ∧ (∀ p ∈ nw, p.1 ≠ 23)) →
    (PaintDict PySem.Challenge.rw_wo0025_01.row.prog w nw d1 la) →
    (PaintDict PySem.Challenge.rw_wo0025_01.row.prog w nw d2 lb) →
    (la.map (·.1) = lb.map (·.1) ∧ (la.map (·.1)).Nodup ∧ la.length ≤ 1000) →
    (∀ D h' g' tk ps' nw', TriplesOk ps'.toList → Bare2 s.gens g' → Fr h₀ L h' m → News h₀ L h' ((23, tabOf ps') :: nw') → (∀ p ∈ nw', p.1 ≠ 23) → Sub nw nw' → (∀ p ∈ nw, p.1 < D) → PaintDict PySem.Challenge.rw_wo0025_01.row.prog w nw' D (List.zipWith (fun a b => (a.1, add3 b.2 a.2)) la lb) → Q (.ref D) { s with heap := h', gens := g', toks := tk }) →
      wpAny (model PySem.Challenge.rw_wo0025_01.row.prog w) (ktrTop dp un gd cn cs L a ccd cl outer) (call (.ref 28) [.ref d1, .ref d2]) Q E s
noncomputable abbrev addCode : Obj := { cls := .type "code", data := .fields #[.str (Str.ofString "add_callers") 196, .str (Str.ofString "add_callers") 197, .str (Str.ofString "/claim/cut.py") 198, .int 5 0, .int 2 0, .int 0 0, .int 0 0, .int 3 0, .ref 22, .bool true, .int 181 0, .ref 23, .none, .ref 24, .ref 25, .ref 26, .int 204 0, .int 5 0, .str (Str.ofString "/claim/cut.py") 205] }
theorem addCode_at (w : World) : List.lookup 27 (hd.heap_1 w.params) = some addCode := by kernel_rfl
theorem addCode_tab : HasTab addCode 23 := ⟨_, _, _, _, _, _, _, _, rfl, rfl, rfl, rfl, rfl, rfl, rfl, rfl⟩
inductive AddJ (prog : Program) (w : World) (I V2 dD d1 d2 : Addr) (o2 : Obj) (r1 r2 : List Rw) (nw : List (Addr × Obj)) (i : Nat) (m' : Str → Option Value) (news' : List (Addr × Obj)) : Prop
  | mk (oE : Obj) (cv fv : Option Value) (ps' : Array Value) (nwx : List (Addr × Obj)) (rs : List Rw) (f0 : m' = (fun z => if z = Str.ofString "caller" then cv else if z = Str.ofString "func" then fv else if z = Str.ofString "new_callers" then some (.ref dD) else List.lookup z [(Str.ofString "source", .ref d2), (Str.ofString "target", .ref d1)])) (f1 : news' = (23, tabOf ps') :: (dD, oE) :: (V2, { cls := .type "dict_items", data := .fields #[.ref d2] }) :: nwx) (f2 : TriplesOk ps'.toList) (f3 : Sub nw nwx) (f4 : (∀ p ∈ nwx, p.1 ≠ 23 ∧ p.1 ≠ dD ∧ p.1 ≠ I)) (f5 : oE.IsDictOf (PySem.strKind prog w) (kvsOf rs ++ (kvsOf r1).drop i)) (f6 : rs.length = i) (f7 : lawOf rs = (List.zipWith (fun a b => (a.1, add3 b.2 a.2)) (lawOf r1) (lawOf r2)).take i) (f8 : (∀ r ∈ rs, HasPaint nwx r.2.1 r.2.2)) (f9 : (d2, o2) ∈ nwx)
theorem addc (w : World) (pv : Program) (lo : List Str) (mean : ExcName → Option Value) (mg mb : Str → Option Value) : AddClaim w pv lo mean mg mb := by
  w_top off
  k_with_none
  k_with "eval ListComp" => ((k_here; k_dflt (refine ListComp_F (by k_asm) (by with_unfolding_all rfl) (by decide) (by rfl) (by decide) ?_ (by intro _; rfl))))
  k_with "exec Assign cons ListComp" => ((k_here; k_dflt (refine Assign_ListComp_F (by k_asm) (by rfl) (by with_unfolding_all rfl) (by with_unfolding_all rfl) (by decide) (by rfl) (by decide) (by rfl) (by rfl) ?_ (by intro _; rfl))))
  k_with "eval DictComp" => ((k_here; k_dflt (refine DictComp_F (by k_asm) (by rfl) (by decide) (by with_unfolding_all rfl) (by decide) (by rfl) (by decide) ?_ (by intro _; rfl))))
  k_with "exec Assign cons DictComp" => ((k_here; k_dflt (refine Assign_DictComp_F (by k_asm) (by rfl) (by with_unfolding_all rfl) (by rfl) (by decide) (by with_unfolding_all rfl) (by decide) (by rfl) (by decide) (by rfl) (by rfl) ?_ (by intro _; rfl))))
  k_with "pyIter ref" => ((k_here; (fail_if_success (fail_if_success with_reducible show wpAny _ _ (pyIter (Value.ref _)) (LSrc _ _ _ _ _ _ _ _ _ _ _ _) _ _)); k_dflt (first
  | refine lsrc_tup (by rfl) (by k_asm) (by k_asm) (by k_mem) (by rfl) (by rfl) (by first | (rw [sizeLine_eq]; exact Nat.le_of_ble_eq_true rfl) | size_fits) ?_
  | refine lsrc_list (by rfl) (by k_asm) (by k_asm) (by k_mem) (by rfl) (by rfl) (by first | (rw [sizeLine_eq]; exact Nat.le_of_ble_eq_true rfl) | size_fits) ?_); intro g' tk'))
  k_with "pyIter str" => ((k_here; k_dflt (first
  | ((with_reducible show wpAny _ _ (pyIter (Value.str _ _)) (LSrc _ _ _ _ _ _ _ _ _ _ _ _) _ _); refine lsrc_str (by rfl) (by k_asm) (by k_asm) (by rfl) (by rfl) (by first | (rw [sizeLine_eq]; exact Nat.le_of_ble_eq_true rfl) | size_fits) ?_)
  | ((with_reducible show wpAny _ _ (pyIter (Value.str _ _)) (DSrc _ _ _ _ _ _ _ _ _ _ _ _ _) _ _); refine dsrc_str (by rfl) (by k_asm) (by k_asm) (by rfl) (by rfl) (by first | (rw [sizeLine_eq]; exact Nat.le_of_ble_eq_true rfl) | size_fits) ?_)); intro g' tk'))
  k_with "LTurns" => (with_unfolding_all (refine LT.intro ?_; intro T9 nil9 cons9))
  k_with "LT" => (with_unfolding_all (first
  | (refine nil9 _ _ ?_)
  | (refine cons9 _ _ _ _ ?_; intro t9' u9' C' oC' mC' D' h' tk' nw' E' hns' hb' F' N' hC' hD' hsub'; (first | replace hb' := bound_one hb' | (have hb1' := (bound_two hb').1; have hb2' := (bound_two hb').2; clear hb')); (try k_sweep))))
  k_with "DTurns" => (with_unfolding_all (refine DT.intro ?_; intro T9 nil9 cons9))
  k_with "DT" => (with_unfolding_all (first
  | (refine nil9 _ _ ?_)
  | (refine cons9 _ _ _ _ _ ?_; intro t9' u9' C' oC' mC' D' oD' h' tk' nw' E' hns' hb' F' N' hC' hD' hdict' hsub'; (first | replace hb' := bound_one hb' | (have hb1' := (bound_two hb').1; have hb2' := (bound_two hb').2; clear hb')); (try k_sweep))))
  k_with "EltEnd" => ((k_dflt (first | refine LT.none (by k_asm) (by k_asm) ?_ | refine DT.none (by k_asm) (by k_asm) ?_ | refine LT.one (by k_asm) (by k_asm) (by k_asm) ?_ | refine DT.one (by k_asm) (by k_asm) (by k_asm) ?_ | refine LT.drop (by k_asm) (by k_asm) ?_ | refine DT.drop (by k_asm) (by k_asm) ?_)); (try (rename Sub _ _ => H; clear H)); (try (rename Obj.IsDictOf _ _ (stored _ _ _) => H; clear H)); (try (rename LCg.NsObj _ _ => H; clear H)); (try (rename (_ : Addr × Obj) ∈ (_ : List (Addr × Obj)) => H; clear H)); (try (rename (_ : Addr × Obj) ∈ (_ : List (Addr × Obj)) => H; clear H)); (try (rename InElt _ _ => H; clear H)); (try (rename ∀ p : Str × Value, p ∈ _ → _ = some _ => H; clear H)); (try k_sweep); (repeat (rename Value → Shared → Prop => H; clear H)))
  k_with "LFinE" => (((unfold LFinE); intro D' h' tk' F' N' o1'; (try simp only [List.nil_append, List.cons_append] at N' o1'); (try dsimp only)))
  k_with "LFinA" => (((unfold LFinA); intro D' h' tk' F' N' o1'; (try simp only [List.nil_append, List.cons_append] at N' o1'); (try dsimp only)))
  k_with "DFinE" => (((unfold DFinE); intro D' oD' h' tk' F' N' d1' lD' o1'; (replace d1' := KeepD.intro d1'); (try simp only [List.nil_append, List.cons_append] at N' o1'); (try dsimp only)))
  k_with "DFinA" => (((unfold DFinA); intro D' oD' h' tk' F' N' d1' lD' o1'; (replace d1' := KeepD.intro d1'); (try simp only [List.nil_append, List.cons_append] at N' o1'); (try dsimp only)))
  k_with "pyIter ref" => ((k_here; (fail_if_success (fail_if_success with_reducible show wpAny _ _ (pyIter (Value.ref _)) (LSrc _ _ _ _ _ _ _ _ (Expr.Tuple [_, _] _ _) _ _ _) _ _)); k_dflt (refine lsrc_pairs (by rfl) (by k_asm) (by k_asm) (by k_mem) (by repeat (first | exact Tups.nil | (apply Tups.cons; k_mem))) (by rfl) (by rfl) (by rfl) (by decide) (by first | (rw [sizeLine_eq]; exact Nat.le_of_ble_eq_true rfl) | size_fits) ?_); intro g' tk'))
  k_with "call builtin:sum" => ((k_here; (fail_if_success (fail_if_success with_reducible show wpAny _ _ (call (Value.builtin "sum") [Value.ref _]) _ _ _)); k_dflt (refine' sum_lst ?k0 ?k1 ?k2 ?k3 ?k4 ?_; (case k0 => rfl); (case k1 => k_asm); (case k2 => k_asm); (case k3 => k_mem); (case k4 => first | l_ints | l_intsW); k_whole); intro h' tk' t' F' N'; (try simp only [List.sum_cons, List.sum_nil])))
  k_with "getMethod ref" => ((k_here; (fail_if_success (fail_if_success with_reducible show wpAny _ _ (getMethod (Value.ref _) (Str.ofString "items") _) _ _ _)); k_dflt (refine kdl_method (knd := PySem.strKind _ _) PySem.F.slot_dict_items PySem.F.type_dict_items (by k_asm) (by k_mem) (by assumption) ?_)))
  k_with "call builtin:dict.items" => ((k_here; (fail_if_success (fail_if_success with_reducible show wpAny _ _ (call (Value.builtin "dict.items") [Value.ref _]) _ _ _)); k_dflt (refine kdx_view (knd := PySem.strKind _ _) (by k_asm) (by k_asm) (by k_mem) (by assumption) (by assumption) ?_); intro D' h' F' N' l1; (try k_lt l1)))
  k_with "exec For" => ((k_here; k_dflt (refine For_G (by k_asm) ?_ (by intro _; rfl) (by passes_own))))
  k_with "pyIter ref" => ((k_here; (fail_if_success (fail_if_success with_reducible show wpAny _ _ (pyIter (Value.ref _)) (GAt _ _ _ _ _ _ _ _ _) _ _)); k_dflt (refine g_items (knd := PySem.strKind _ _) (enc := PyData.str) (by rfl) (by k_asm) (by k_asm) ⟨_, (by k_asm : News _ _ _ _) |>.head', rfl, rfl⟩ (by k_mem) (by assumption) (fun k v h => Value.isStrOf_shape h) rfl ?_); intro I' lI'))
  k_with "compareOp In str ref" => ((refine Stop.out ?_))
  k_with "call builtin:isinstance" => ((refine Stop.out ?_))
  k_with "eval GeneratorExp" => ((refine Stop.out ?_))
  k_with "subscriptTail" => ((refine Stop.out ?_))
  k_with "call type:zip" => ((refine Stop.out ?_))
  k_with "call type:tuple" => ((refine Stop.out ?_))
  k_with "setItem ref str" => ((refine Stop.out ?_))
  k_with "pyIter ref" => ((refine Stop.out ?_))
  k_with "GPost" => ((refine Stop.out ?_))
  k_with "GItems" => ((refine Stop.out ?_))
  delta AddClaim
  k_fill
  intro dp un gd cn cs a ccd cl outer A₀ base h₀ L m s Q E news d1 d2 la lb ps nw B F X N T hk hd hu hp0 hp1 hp2 hp3 hp4 hret
  subst hp0
  obtain ⟨tri, off⟩ := hp1
  obtain ⟨o1, r1, m1, s1, i1, e1, q1⟩ := hp2
  obtain ⟨o2, r2, m2, s2, i2, e2, q2⟩ := hp3
  subst e1 e2
  have hlr12 : (lawOf r1).length = (lawOf r2).length := by have := congrArg List.length hp4.1; simpa using this
  have hlr0 : r1.length = r2.length := by simpa using hlr12
  have hlen : r1.length ≤ 1000 := by simpa using hp4.2.2
  have hnd : ((kvsOf r1).map (·.1)).Nodup := by have := hp4.2.1; simp only [lawOf, kvsOf, List.map_map] at this ⊢; exact this
  refine wpAny_call ?_
  k_dflt (refine' code_def (binds := [(Str.ofString "target", .ref d1), (Str.ofString "source", .ref d2)]) ?k1 ?k2 ?k3 ?k4 ?k5 ?kA ?kF ?kK ?k6 ?k7 ?k8 ?k9 ?kB ?_ ?c2 ?c3 ?c4 ?c5; (case kA => exact rfl); (case kF => exact rfl); (case kK => assumption); (case k1 => k_asm); (case k2 => k_asm); (case k3 => k_asm); (case k4 => k_asm); (case k5 => k_asm); (case k6 => k_is); (case k7 => k_is); (case k8 => ktr_room); (case k9 => exact BindsTo.of_eq rfl); (case c5 => decide); (case kB => exact locs rfl); (case c2 => exact rfl); (case c3 => exact rfl); (case c4 => exact rfl); k_whole)
  intro g' L' h' FG' F' N' B' X' T'
  k_dflt (replace F' : Fr g' L' h' (fun z => List.lookup z [(Str.ofString "source", .ref d2), (Str.ofString "target", .ref d1)]) := F')
  k_dflt ((try dsimp only); (try k_lift B'); (try k_fold))
  k_steps
  (have D' := trivial; have h' := trivial; have F' := trivial; have N' := trivial; have l1 := trivial)
  rename_i dD hD2 oD loD hsD fsD hiD fiD lD h1 F1 N1 V h2 F2 N2 lV
  clear D' h' F' N' l1
  k_dflt (refine g_items (knd := PySem.strKind _ _) (enc := PyData.str) rfl F2 N2 ⟨_, (N2 _ (.head _)).1, rfl, rfl⟩ (.tail _ (.tail _ (.tail _ m1))) i1 (fun k v h => Value.isStrOf_shape h) rfl ?_)
  intro I lI
  k_dflt (refine GItems.all (J := fun i m' news' => ∃ oE cv fv, m' = (fun z => if z = Str.ofString "caller" then cv else if z = Str.ofString "func" then fv else if z = Str.ofString "new_callers" then some (.ref dD) else List.lookup z [(Str.ofString "source", .ref d2), (Str.ofString "target", .ref d1)]) ∧ news' = (V, { cls := .type "dict_items", data := .fields #[.ref d1] }) :: (dD, oE) :: (23, tabOf ps) :: nw ∧ oE.IsDictOf (PySem.strKind PySem.Challenge.rw_wo0025_01.row.prog w) ((kvsOf r1).take i)) ⟨oD, none, none, ?_, rfl, by simpa using hsD⟩ ⟨.tail _ (.tail _ (.tail _ m1)), trivial⟩ ?_ ?_)
  case refine_1 =>
    funext z
    by_cases h1 : z = Str.ofString "caller" <;> by_cases h2 : z = Str.ofString "func"
    · subst h1; k_dflt exact rfl
    · subst h1; k_dflt exact rfl
    · subst h2; k_dflt exact rfl
    · rw [if_neg h1, if_neg h2]
  case refine_2 =>
    intro i a m' news' hi hJ hk v h tk g oI bg hav hc Fq Nq
    obtain ⟨oE, cv, fv, rfl, rfl, hE⟩ := hJ
    obtain ⟨r, hr, rfl⟩ : ∃ r, r1[i]? = some r ∧ a = Itm.pair (fun t => .str r.1 t) (.ref r.2.1) := by
      simp only [kvsOf, List.map_map, List.getElem?_map, Option.map_eq_some_iff] at hi
      obtain ⟨r, hr, rfl⟩ := hi
      exact ⟨r, hr, rfl⟩
    obtain ⟨T, t, rfl, hT⟩ := hav
    clear F1 N1 F2 N2
    k_steps
    (rename Fr _ _ _ _ => F3); (rename News _ _ _ _ => N3)
    have nV := lI _ (.head _)
    have nd := lI _ (.tail _ (.head _))
    k_dflt (refine kda_set (knd := PySem.strKind _ _) F3 N3 (UpdF.tail (Ne.symm (Nat.ne_of_lt nd)) (UpdF.tail (Ne.symm (Nat.ne_of_lt lV.1)) (UpdF.head (List.forall_mem_cons.mpr ⟨Nat.ne_of_lt lD.1, fun p hp => Nat.ne_of_lt (allLt_all lD.2 p hp)⟩)))) hE (strKind_is _ _ _ _) (by rw [sizeLine_eq]; have := hlen; simp; omega) ?_)
    intro h4 oF F4 N4 hF
    k_steps
    (rename Fr _ _ _ _ => F5); (rename News _ _ _ _ => N5)
    have hd9 := stored_take hnd (i := i) (k := r.1) (v := .ref r.2.1) (by simp [hr])
    rw [hd9] at hF
    k_dflt (refine GEnd.at (news' := (V, { cls := .type "dict_items", data := .fields #[.ref d1] }) :: (dD, oF) :: (23, tabOf ps) :: nw) F5 N5 (Bare2.refl _) (fun p hp => hp) ?_ ⟨⟨.tail _ (.tail _ (.tail _ m1)), trivial⟩, oF, some (.ref r.2.1), some (.str r.1 t), ?_, rfl, hF⟩)
    · intro p hp
      rcases List.mem_cons.mp hp with rfl | hp
      · exact Nat.ne_of_lt nV
      rcases List.mem_cons.mp hp with rfl | hp
      · exact Nat.ne_of_lt nd
      · exact Nat.ne_of_lt (lI p (.tail _ (.tail _ hp)))
    · funext z
      by_cases h1 : z = Str.ofString "caller" <;> by_cases h2 : z = Str.ofString "func" <;> simp [h1, h2]
  case refine_3 =>
    rintro m' news' ⟨oE, cv, fv, rfl, rfl, hE⟩ h tk g bg1 Fq Nq
    have hE2 : oE.IsDictOf (PySem.strKind PySem.Challenge.rw_wo0025_01.row.prog w) (kvsOf r1) := by
      have e : (List.map (fun p : Str × Value => Itm.pair (kyVal (PyData.str p.1)) p.2) (kvsOf r1)).length = (kvsOf r1).length := by simp
      rw [e, List.take_length] at hE
      exact hE
    clear F1 N1 F2 N2 hE
    k_steps
    (have D' := trivial; have h' := trivial; have F' := trivial; have N' := trivial; have l1 := trivial)
    rename_i V2 h3 F3 N3 lV2
    clear D' h' F' N' l1
    have N4 := news_sub N3 (a := (23, tabOf ps) :: (dD, oE) :: (V2, { cls := .type "dict_items", data := .fields #[.ref d2] }) :: nw) (Sub.cons (.tail _ (.tail _ (.tail _ (.head _)))) (Sub.cons (.tail _ (.tail _ (.head _))) (Sub.cons (.head _) (Sub.skip (Sub.skip (Sub.skip (Sub.skip Sub.same)))))))
    clear N3
    k_dflt (refine g_items (knd := PySem.strKind _ _) (enc := PyData.str) rfl F3 N4 ⟨_, (N4 _ (.tail _ (.tail _ (.head _)))).1, rfl, rfl⟩ (.tail _ (.tail _ (.tail _ m2))) i2 (fun k v h => Value.isStrOf_shape h) rfl ?_)
    intro I lI
    k_dflt (refine GItems.all (J := AddJ PySem.Challenge.rw_wo0025_01.row.prog w I V2 dD d1 d2 o2 r1 r2 nw) ?_ ⟨.tail _ (.tail _ (.tail _ m2)), trivial⟩ ?_ ?_)
    case refine_1 => exact ⟨oE, cv, fv, ps, nw, [], rfl, rfl, tri, Sub.same, fun p hp => ⟨off p hp, Nat.ne_of_lt (allLt_all lD.2 p hp), Nat.ne_of_lt (lI p (.tail _ (.tail _ (.tail _ hp))))⟩, hE2, rfl, rfl, (fun r hr => nomatch hr), m2⟩
    case refine_3 =>
      rintro m' news' ⟨oE, cv, fv, ps', nwx, rs, rfl, rfl, tri', hsub, hoff, hE, hlr, hlaw, hpt, hm2⟩ h tk g bg2 Fq Nq
      clear F3 N4
      have hn9 : (List.map (fun p : Str × Value => Itm.pair (kyVal (PyData.str p.1)) p.2) (kvsOf r2)).length = r1.length := by simp [hlr0]
      rw [hn9] at hE hlaw
      have z9 : (kvsOf r1).drop r1.length = [] := List.drop_eq_nil_of_le (by simp)
      rw [z9, List.append_nil] at hE
      rw [List.take_of_length_le (by simp [hlr0])] at hlaw
      k_steps
      (rename Fr h₀ L _ m => F9); (rename News h₀ L _ _ => N9)
      exact hret dD _ _ _ ps' ((dD, oE) :: nwx) tri' (bg1.trans bg2) F9 (news_sub N9 (Sub.cons (.head _) (Sub.cons (.tail _ (.head _)) (Sub.skip (Sub.skip (Sub.skip Sub.same)))))) (List.forall_mem_cons.mpr ⟨Ne.symm (Nat.ne_of_lt lD.1), fun p hp => (hoff p hp).1⟩) (fun p hp => .tail _ (hsub p hp)) (allLt_all lD.2) ⟨oE, rs, .head _, loD, hE, hlaw, fun r hr => (hpt r hr).sub (Sub.skip Sub.same)⟩
    case refine_2 =>
      intro i a m' news' hi hJ hk v h tk g oI bg hav hc Fq Nq
      obtain ⟨oE, cv, fv, ps', nwx, rs, rfl, rfl, tri', hsub, hoff, hE, hlr, hlaw, hpt, hm2⟩ := hJ
      obtain ⟨r, hr, rfl⟩ : ∃ r, r2[i]? = some r ∧ a = Itm.pair (fun t => .str r.1 t) (.ref r.2.1) := by
        simp only [kvsOf, List.map_map, List.getElem?_map, Option.map_eq_some_iff] at hi
        obtain ⟨r, hr, rfl⟩ := hi
        exact ⟨r, hr, rfl⟩
      obtain ⟨T, t, rfl, hT⟩ := hav
      clear F3 N4
      replace hT : IsTup h T #[.str r.1 t, .ref r.2.1] := hT
      obtain ⟨q, hq, hqk⟩ : ∃ q, r1[i]? = some q ∧ q.1 = r.1 := by
        have e := congrArg (fun l => l[i]?) hp4.1
        simp only [lawOf, List.map_map, List.getElem?_map, hr, Option.map_some] at e
        cases hq : r1[i]? with
        | none => rw [hq] at e; cases e
        | some q => rw [hq] at e; exact ⟨q, rfl, Option.some.inj e⟩
      have hilt : i < r1.length := (List.getElem?_eq_some_iff.mp hq).1
      have hdrop : (kvsOf r1).drop i = (r.1, Value.ref q.2.1) :: (kvsOf r1).drop (i + 1) := by
        have hl : i < (kvsOf r1).length := by simpa using hilt
        have hg : (kvsOf r1)[i] = (r.1, Value.ref q.2.1) := by
          have := (List.getElem?_eq_some_iff.mp hq).2
          simp [kvsOf, this, hqk]
        rw [List.drop_eq_getElem_cons hl, hg]
      rw [hdrop] at hE
      have hnd2 : ((kvsOf rs ++ (r.1, Value.ref q.2.1) :: (kvsOf r1).drop (i + 1)).map (·.1)).Nodup := by
        rw [← hdrop]
        have e1 : (kvsOf rs).map (·.1) = ((kvsOf r1).map (·.1)).take i := by
          have := congrArg (fun l => l.map (·.1)) hlaw
          simp only [lawOf, kvsOf, List.map_map, List.map_take] at this ⊢
          have z := zw_fst (lawOf r1) (lawOf r2) (Nat.le_of_eq hlr12)
          simp only [lawOf] at z
          refine Eq.trans (b := List.map (fun x : Rw => x.1) rs) rfl (this.trans ?_)
          rw [z, List.map_map]
          rfl
        rw [List.map_append, e1, List.map_drop, List.take_append_drop]
        exact hnd
      have hv : valueAt (kvsOf rs ++ (r.1, Value.ref q.2.1) :: (kvsOf r1).drop (i + 1)) r.1 = some (.ref q.2.1) := valueAt_get hnd2 (i := (kvsOf rs).length) (by simp)
      k_steps
      (rename Fr _ _ _ _ => F4); (rename News _ _ _ _ => N4)
      k_dflt (refine kda_in (knd := PySem.strKind _ _) N4 (.tail _ (.tail _ (.head _))) hE loD (strKind_is _ _ _ _) true (by rw [hv]; rfl) ?_)
      k_steps
      obtain ⟨ta0, ta1, ta2, ha⟩ := (q2 r (List.mem_of_getElem? hr)).sub hsub
      obtain ⟨tb0, tb1, tb2, hb⟩ := (q1 q (List.mem_of_getElem? hq)).sub hsub
      (rename Fr _ _ _ _ => F4); (rename News _ _ _ _ => N4)
      k_dflt (refine' IsiPair.tuple_tuple ?x ?y ?_; (case x => exact (N4 _ (.tail _ (.tail _ (.tail _ (.tail _ ha))))).1); (case y => rfl))
      k_steps
      (rename Fr _ _ _ _ => F5); (rename News _ _ _ _ => N5)
      have N6 := news_sub N5 (a := (23, tabOf ps') :: (I, oI) :: (dD, oE) :: (V2, { cls := .type "dict_items", data := .fields #[.ref d2] }) :: nwx) (Sub.cons (.tail _ (.head _)) (Sub.cons (.head _) (Sub.skip (Sub.skip Sub.same))))
      clear N5
      have off6 : ∀ p ∈ (I, oI) :: (dD, oE) :: (V2, { cls := .type "dict_items", data := .fields #[.ref d2] }) :: nwx, p.1 ≠ 23 :=
        List.forall_mem_cons.mpr ⟨Ne.symm (Nat.ne_of_lt (lI _ (.head _))), List.forall_mem_cons.mpr ⟨Ne.symm (Nat.ne_of_lt lD.1), List.forall_mem_cons.mpr ⟨Ne.symm (Nat.ne_of_lt lV2.2.2.1), fun p hp => (hoff p hp).1⟩⟩⟩
      k_dflt (refine' gen_G (oc := addCode) 3 (fun i v => ∃ tk, v = Value.int (([r.2.2.1 + q.2.2.1, r.2.2.2.1 + q.2.2.2.1, r.2.2.2.2 + q.2.2.2.2] : List Int).getD i 0) tk) ps' F5 rfl ?a1 ?a2 ?a3 ?a4 ?a5 ?a6 ?a7 ?a8 ?a9 ?b1 ?b2 T' ?b3 addCode_tab tri' ?b4 ?_ ?b5)
      case a1 => exact rfl
      case a2 => with_unfolding_all rfl
      case a3 => decide
      case a4 => exact rfl
      case a5 => exact rfl
      case a6 => exact rfl
      case a7 => decide
      case a8 => exact rfl
      case a9 => ktr_room
      case b1 => exact rfl
      case b2 => exact rfl
      case b3 => exact X' _ _ (addCode_at w)
      case b4 => decide
      case b5 => exact fun _ => rfl
      k_steps
      k_dflt (refine kda_item (knd := PySem.strKind _ _) N6 (.tail _ (.tail _ (.head _))) hE (strKind_is _ _ _ _) hv ?_)
      k_steps
      k_dflt (refine add_gsrc rfl F5 N6 off6 (.tail _ (.tail _ (.tail _ ha))) (.tail _ (.tail _ (.tail _ hb))) rfl rfl rfl rfl rfl ?_)
      intro ga h7 g7 tk7 ps7 tri7 bb7 F7 N7 l7 G7
      clear F5 N6
      k_steps
      k_dflt (refine tuple_K F7 N7 G7 (by rw [sizeLine_eq]; decide) ?_)
      intro D8 h8 g8 tk8 acc8 bb8 it8 F8 N8 l8
      obtain ⟨u0, u1, u2, rfl⟩ := three_of it8
      clear G7 N7 F7
      k_steps
      have n8d := l8 _ (.tail _ (.tail _ (.head _)))
      k_dflt (refine kda_set (knd := PySem.strKind _ _) F8 N8 (UpdF.tail (Ne.symm (Nat.ne_of_lt n8d)) (UpdF.tail (Nat.ne_of_lt lD.1) (UpdF.tail (Ne.symm (Nat.ne_of_lt (lI _ (.tail _ (.head _))))) (UpdF.head (List.forall_mem_cons.mpr ⟨Ne.symm (Nat.ne_of_lt lV2.2.1), fun p hp => (hoff p hp).2.1⟩))))) hE (strKind_is _ _ _ _) (by rw [sizeLine_eq]; have := hlen; simp; omega) ?_)
      intro h9 oF F9 N9 hF
      rw [stored_at hnd2] at hF
      k_steps
      (rename Fr _ _ _ _ => FA); (rename News _ _ _ _ => NA)
      have nI := l8 _ (.tail _ (.head _))
      k_dflt (refine GEnd.at (news' := (23, tabOf ps7) :: (dD, oF) :: (V2, { cls := .type "dict_items", data := .fields #[.ref d2] }) :: (D8, { cls := .type "tuple", data := .seq #[.int (r.2.2.1 + q.2.2.1) u0, .int (r.2.2.2.1 + q.2.2.2.1) u1, .int (r.2.2.2.2 + q.2.2.2.2) u2] }) :: nwx) FA NA (bb7.trans bb8) ?_ ?_ ⟨⟨.tail _ (.tail _ (.tail _ (.tail _ hm2))), trivial⟩, oF, some (.ref r.2.1), some (.str r.1 t), ps7, (D8, { cls := .type "tuple", data := .seq #[.int (r.2.2.1 + q.2.2.1) u0, .int (r.2.2.2.1 + q.2.2.2.1) u1, .int (r.2.2.2.2 + q.2.2.2.2) u2] }) :: nwx, rs ++ [(r.1, D8, add3 r.2.2 q.2.2)], ?_, rfl, tri7, fun p hp => .tail _ (hsub p hp), ?_, ?_, ?_, ?_, ?_, .tail _ hm2⟩)
      · exact Sub.cons (.tail _ (.tail _ (.head _))) (Sub.cons (.tail _ (.head _)) (Sub.cons (.tail _ (.tail _ (.tail _ (.head _)))) (Sub.cons (.tail _ (.tail _ (.tail _ (.tail _ (.head _))))) (Sub.cons (.head _) (Sub.skip (Sub.skip (Sub.skip (Sub.skip (Sub.skip Sub.same)))))))))
      · have z1 := lI _ (.head _)
        have z2 := lI _ (.tail _ (.head _))
        have z3 := lI _ (.tail _ (.tail _ (.head _)))
        exact List.forall_mem_cons.mpr ⟨Nat.ne_of_lt z1, List.forall_mem_cons.mpr ⟨Nat.ne_of_lt z2, List.forall_mem_cons.mpr ⟨Nat.ne_of_lt z3, List.forall_mem_cons.mpr ⟨Ne.symm (Nat.ne_of_lt nI), fun p hp => (hoff p hp).2.2⟩⟩⟩⟩
      · funext z
        by_cases h1 : z = Str.ofString "caller" <;> by_cases h2 : z = Str.ofString "func" <;> simp [h1, h2]
      · exact List.forall_mem_cons.mpr ⟨⟨Ne.symm (Nat.ne_of_lt (l8 _ (.head _))), Ne.symm (Nat.ne_of_lt n8d), Ne.symm (Nat.ne_of_lt nI)⟩, hoff⟩
      · have e9 : kvsOf (rs ++ [(r.1, D8, add3 r.2.2 q.2.2)]) ++ (kvsOf r1).drop (i + 1) = kvsOf rs ++ (r.1, Value.ref D8) :: (kvsOf r1).drop (i + 1) := by simp [kvsOf]
        rw [e9]
        exact hF
      · simp [hlr]
      · rw [List.take_add_one, ← hlaw]
        simp [lawOf, List.getElem?_zipWith, hr, hq, hqk]
      · intro r' hr'
        rcases List.mem_append.mp hr' with h' | h'
        · exact (hpt r' h').sub (Sub.skip Sub.same)
        · rw [List.mem_singleton.mp h']
          exact ⟨u0, u1, u2, .head _⟩
end Mine
end
section
open PySem PySem.Spec PySem.Calls PySem.W PyProof.Rows PySem.Flt
set_option maxRecDepth 100000
set_option maxHeartbeats 8000000
namespace Mine
noncomputable abbrev strCode : Obj := { cls := .type "code", data := .fields #[.str "__str__" 320, .str "_Accumulator.__str__" 321, .str "/claim/cut.py" 322, .int 106 0, .int 1 0, .int 0 0, .int 0 0, .int 3 0, .ref 97, .bool true, .int 181 0, .ref 98, .none, .ref 99, .ref 100, .ref 101, .int 324 0, .int 106 0, .str "/claim/cut.py" 325] }
theorem strCode_at (w : World) : List.lookup 102 (hd.heap_1 w.params) = some strCode := by kernel_rfl
theorem strCode_tab : HasTab strCode 98 := ⟨_, _, _, _, _, _, _, _, rfl, rfl, rfl, rfl, rfl, rfl, rfl, rfl⟩
theorem empty_at (w : World) : nsIn (hd.heap_1 w.params) mainGlobals "EMPTYSTRING" = some (some (.str ⟨#[]⟩ 262)) := by kernel_rfl
abbrev DstrClaim (w : World) (pv : Program) (lo : List Str) (mean : ExcName → Option Value) (mg mb : Str → Option Value) : Prop :=
  ∀ (dp un : Nat) (gd : Option (List Code)) (cn : Str) (cs : Scope) (a : Addr) (ccd : Value) (cl : List (Str × Addr)) (outer : List Env) (A₀ : Around) (base h₀ : Heap) (L : Addr) (m : Str → Option Value) (s : Shared) (Q E : Value → Shared → Prop) (news : List (Addr × Obj)) (x dx : Addr) (k : Nat) (od : Obj) (nw : List (Addr × Obj)) (its : List Piece) (ps : Array Value),
    Below A₀ base outer h₀ → Fr h₀ L s.heap m → (hd.heap_1 w.params).In h₀ → News h₀ L s.heap news → Top pv lo mean mg mb h₀ → cs.kind = .function →
    dp + 1 < recursionLimit → un + 8 < cLine →
    (news = (98, tabOf ps) :: (x, ringObj dx (piecesOf its) k) :: (dx, od) :: nw) →
    (TriplesOk ps.toList ∧ x ≠ 98 ∧ dx ≠ 98 ∧ (∀ p ∈ nw, p.1 ≠ 98) ∧ its.length ≤ 1000 ∧ ∀ p ∈ its, (p.1, pieceObj p) ∈ nw) →
    (∀ h' g' tk t ps', TriplesOk ps'.toList → Bare2 s.gens g' → Fr h₀ L h' m → News h₀ L h' ((98, tabOf ps') :: (x, ringObj dx (piecesOf its) k) :: (dx, od) :: nw) → Q (.str (textOf its) t) { s with heap := h', gens := g', toks := tk }) →
      wpAny (model PySem.Challenge.rw_wo0025_01.row.prog w) (ktrTop dp un gd cn cs L a ccd cl outer) (call (.ref 103) [.ref x]) Q E s
theorem dstr (w : World) (pv : Program) (lo : List Str) (mean : ExcName → Option Value) (mg mb : Str → Option Value) : DstrClaim w pv lo mean mg mb := by
  w_top off
  k_with_none
  delta DstrClaim
  k_fill
  intro dp un gd cn cs a ccd cl outer A₀ base h₀ L m s Q E news x dx k od nw its ps B F X N T hk hd hu hp hz hret
  obtain ⟨hz1, hz2, hz3, hz4, hz5, hz6⟩ := hz
  subst hp
  refine wpAny_call ?_
  k_dflt cell_enter
  k_steps
  (rename Fr _ _ _ _ => F1); (rename News _ _ _ ((98, _) :: _) => N1); (rename Top pv lo mean mg mb _ => T1); (rename Frag.In _ _ => X1)
  k_dflt (refine' ring_genexp (oc := strCode) (t0 := 262) ?a1 ?a2 ?a3 ?a4 ?a5 ?a6 ?a7 ?a8 ?a9 ?b0 ?b1 ?b2 X1 T1 ?b3 ?b4 ?b5 hz1 ?b6 ?b7 ?b8 ?b9 F1 N1 ?c1 ?c2 ?c3 ?_ ?c4)
  case a1 => exact rfl
  case a2 => exact rfl
  case a3 => with_unfolding_all rfl
  case a4 => decide
  case a5 => exact rfl
  case a6 => exact rfl
  case a7 => exact rfl
  case a8 => exact rfl
  case a9 => exact rfl
  case b0 => ktr_room
  case b1 => exact rfl
  case b2 => exact rfl
  case b3 => exact mg_of X1 T1.g (empty_at w)
  case b4 => exact X1 _ _ (strCode_at w)
  case b5 => exact strCode_tab
  case b6 => exact rfl
  case b7 => exact rfl
  case b8 => exact rfl
  case b9 => exact rfl
  case c1 => exact List.forall_mem_cons.mpr ⟨hz2, List.forall_mem_cons.mpr ⟨hz3, hz4⟩⟩
  case c2 => exact List.Mem.head _
  case c3 => exact fun p hp => .tail _ (.tail _ (hz6 p hp))
  case c4 => exact fun _ => rfl
  intro a2 h2 g2 tk2 ps2 tri2 bb2 F2 N2 l2 G2
  k_dflt (try k_lt l2)
  k_steps
  have ez : (its.map fun p => (⟨#[p.2.2.2]⟩ : Str)).length = its.length := by simp
  rw [← ez] at G2
  refine join_K (ys := its.map fun p => (⟨#[p.2.2.2]⟩ : Str)) F2 N2 G2 (by rw [ez, sizeLine_eq]; omega) ?_ fun h3 g3 tk3 t3 bb3 F3 N3 => ?_
  · exact joinOk_letters its hz5
  rw [join_pieces its]
  k_steps
  all_goals ((rename Fr h₀ L _ m => F4); (rename News h₀ L _ _ => N4); exact hret _ _ _ _ _ tri2 (bb2.trans bb3) F4 N4)
end Mine
end
section
open PySem PySem.Spec PySem.Calls PySem.W PyProof.Rows
namespace Mine
section
variable {prog : Program} {w : World} {A : Around} {E : Value → Shared → Prop} {s : Shared} {env : Env} {h₀ : Heap} {L : Addr} {st : Stmt} {rest : List Stmt} {Q : Flow → Shared → Prop} {x : Str} {m : Str → Option Value} {news : List (Addr × Obj)}
/-- what a statement leaves that gives one name a value: the branches meet here -/
def Joined (h₀ : Heap) (L : Addr) (s : Shared) (m : Str → Option Value) (news : List (Addr × Obj)) (x : Str) (V : Value → Prop) (f : Flow) (s' : Shared) : Prop :=
  f = .next ∧ ∃ v h tk, V v ∧ s' = { s with heap := h, toks := tk } ∧ Fr h₀ L h (fun z => if z = x then some v else m z) ∧ News h₀ L h news
theorem Joined.intro {V : Value → Prop} {v : Value} {h : Heap} {tk : Nat} (F : Fr h₀ L h (fun z => if z = x then some v else m z)) (N : News h₀ L h news) (hv : V v) : Joined h₀ L s m news x V .next { s with heap := h, toks := tk } :=
  ⟨rfl, v, h, tk, hv, rfl, F, N⟩
theorem join_at (_F : Fr h₀ L s.heap m) (_N : News h₀ L s.heap news) (x : Str) (V : Value → Prop) (h1 : wpAny (model prog w) A (exec st env) (Joined h₀ L s m news x V) E s)
    (h2 : ∀ v h tk, V v → Fr h₀ L h (fun z => if z = x then some v else m z) → News h₀ L h news → wpAny (model prog w) A (execs rest env) Q E { s with heap := h, toks := tk }) :
    wpAny (model prog w) A (execs (st :: rest) env) Q E s := by
  refine wpAny_execs_cons (wpAny_mono h1 (fun f s' h => ?_) fun _ _ e => e)
  obtain ⟨rfl, v, h', tk, hv, rfl, F', N'⟩ := h
  exact h2 v h' tk hv F' N'
end
end Mine
end
section
open PySem PySem.Spec PySem.Calls PySem.W PyProof.Rows PySem.Flt
set_option maxRecDepth 100000
set_option maxHeartbeats 8000000
namespace Mine
abbrev HsvClaim (w : World) (pv : Program) (lo : List Str) (mean : ExcName → Option Value) (mg mb : Str → Option Value) : Prop :=
  ∀ (dp un : Nat) (gd : Option (List Code)) (cn : Str) (cs : Scope) (a : Addr) (ccd : Value) (cl : List (Str × Addr)) (outer : List Env) (A₀ : Around) (base h₀ : Heap) (L : Addr) (m : Str → Option Value) (s : Shared) (Q E : Value → Shared → Prop) (news : List (Addr × Obj)) (r g b : UInt64) (t1 t2 t3 : Tok),
    Below A₀ base outer h₀ → Fr h₀ L s.heap m → (hd.heap_1 w.params).In h₀ → News h₀ L s.heap news → Top pv lo mean mg mb h₀ → cs.kind = .function →
    dp + 1 < recursionLimit → un + 8 < cLine →
    (HsvOk r g b) →
    (∀ D h' tk X Y Z t1 t2 t3, Fr h₀ L h' m → News h₀ L h' ((D, { cls := .type "tuple", data := .seq #[.float X t1, .float Y t2, .float Z t3] }) :: news) → (∀ p ∈ news, p.1 < D) → (X, Y, Z) = hsvF r g b → Q (.ref D) { s with heap := h', toks := tk }) →
      wpAny (model PySem.Challenge.rw_wo0025_01.row.prog w) (ktrTop dp un gd cn cs L a ccd cl outer) (call (.ref 42) [.float r t1, .float g t2, .float b t3]) Q E s
theorem hsv (w : World) (pv : Program) (lo : List Str) (mean : ExcName → Option Value) (mg mb : Str → Option Value) : HsvClaim w pv lo mean mg mb := by
  w_top off
  k_with_none
  k_with "call builtin:max" => (((fail_if_success (fail_if_success with_reducible show wpAny _ _ (call _ [Value.float _ _, Value.float _ _, Value.float _ _]) _ _ _)); (rename News _ _ _ _ => N'); (rename Fr _ _ _ _ => F'); refine max_three_fff rfl F' N' ?_; clear N'; intro _ _ _ _ _))
  k_with "call builtin:min" => (((fail_if_success (fail_if_success with_reducible show wpAny _ _ (call _ [Value.float _ _, Value.float _ _, Value.float _ _]) _ _ _)); (rename News _ _ _ _ => N'); (rename Fr _ _ _ _ => F'); refine min_three_fff rfl F' N' ?_; clear N'; intro _ _ _ _ _))
  k_with "execs cons" => ((k_here; (fail_if_success (fail_if_success with_reducible show wpAny _ _ (execs (Stmt.If _ _ (_ :: _) _ :: _ :: _) _) _ _ _)); refine Stop.out ?_))
  delta HsvClaim
  k_fill
  intro dp un gd cn cs a ccd cl outer A₀ base h₀ L m s Q E news r g b t1 t2 t3 B F X N T hk hd hu hz hret
  refine wpAny_call ?_
  k_dflt cell_enter
  k_steps
  · exact hret _ _ _ _ _ _ _ _ _ (by k_asm) (by k_asm) (by k_asm) (hsvF_grey (by assumption)).symm
  · exact absurd (by assumption) (hz (by assumption)).1
  · exact absurd (by assumption) (hz (by assumption)).2
  (rename Fr _ _ _ _ => F1); (rename News _ _ _ _ => N1)
  refine Stop.intro (join_at F1 N1 (Str.ofString "h") (fun v => ∃ u t, v = .float u t ∧ ((Float64.divmod (Float64.div u 4618441417868443648) 4607182418800017408).snd, Float64.div (Float64.sub (max3 r g b) (min3 r g b)) (max3 r g b), max3 r g b) = hsvF r g b) ?_ ?_)
  · k_steps
    all_goals refine Joined.intro (by k_asm) (by k_asm) ⟨_, _, rfl, ?_⟩
    · exact (hsvF_r (by assumption) (by assumption)).symm
    · exact (hsvF_g (by assumption) (by assumption) (by assumption)).symm
    · exact (hsvF_b (by assumption) (by assumption) (by assumption)).symm
  clear F1 N1
  rintro v h tk ⟨u, t, rfl, hX⟩ F1 N1
  k_steps
  exact hret _ _ _ _ _ _ _ _ _ (by k_asm) (by k_asm) (by k_asm) hX
end Mine
end
section
open PySem PySem.Spec PySem.Calls PySem.W PyProof.Rows PySem.Flt
set_option maxRecDepth 100000
set_option maxHeartbeats 8000000
namespace Mine
abbrev RgbClaim (w : World) (pv : Program) (lo : List Str) (mean : ExcName → Option Value) (mg mb : Str → Option Value) : Prop :=
  ∀ (dp un : Nat) (gd : Option (List Code)) (cn : Str) (cs : Scope) (a : Addr) (ccd : Value) (cl : List (Str × Addr)) (outer : List Env) (A₀ : Around) (base h₀ : Heap) (L : Addr) (m : Str → Option Value) (s : Shared) (Q E : Value → Shared → Prop) (news : List (Addr × Obj)) (h x v : UInt64) (t1 t2 t3 : Tok),
    Below A₀ base outer h₀ → Fr h₀ L s.heap m → (hd.heap_1 w.params).In h₀ → News h₀ L s.heap news → Top pv lo mean mg mb h₀ → cs.kind = .function →
    dp + 1 < recursionLimit → un + 8 < cLine →
    (RgbOk h x v) →
    (∀ D h' tk X Y Z t1 t2 t3, Fr h₀ L h' m → News h₀ L h' ((D, { cls := .type "tuple", data := .seq #[.float X t1, .float Y t2, .float Z t3] }) :: news) → (∀ p ∈ news, p.1 < D) → (X, Y, Z) = rgbF h x v → Q (.ref D) { s with heap := h', toks := tk }) →
      wpAny (model PySem.Challenge.rw_wo0025_01.row.prog w) (ktrTop dp un gd cn cs L a ccd cl outer) (call (.ref 49) [.float h t1, .float x t2, .float v t3]) Q E s
theorem rgb (w : World) (pv : Program) (lo : List Str) (mean : ExcName → Option Value) (mg mb : Str → Option Value) : RgbClaim w pv lo mean mg mb := by
  w_top off
  k_with_none
  k_with "call builtin:max" => (((fail_if_success (fail_if_success with_reducible show wpAny _ _ (call _ [Value.float _ _, Value.float _ _, Value.float _ _]) _ _ _)); (rename News _ _ _ _ => N'); (rename Fr _ _ _ _ => F'); refine max_three_fff rfl F' N' ?_; clear N'; intro _ _ _ _ _))
  k_with "call builtin:min" => (((fail_if_success (fail_if_success with_reducible show wpAny _ _ (call _ [Value.float _ _, Value.float _ _, Value.float _ _]) _ _ _)); (rename News _ _ _ _ => N'); (rename Fr _ _ _ _ => F'); refine min_three_fff rfl F' N' ?_; clear N'; intro _ _ _ _ _))
  delta RgbClaim
  k_fill
  intro dp un gd cn cs a ccd cl outer A₀ base h₀ L m s Q E news h x v t1 t2 t3 B F X N T hk hd hu hz hret
  refine wpAny_call ?_
  k_dflt cell_enter
  k_steps
  all_goals first
    | (refine hret _ _ _ _ _ _ _ _ _ (by k_asm) (by k_asm) (by k_asm) ?_; first | exact (rgbF_grey (by assumption)).symm | exact (rgbF_j 0 (by assumption) (by assumption)).symm | exact (rgbF_j 1 (by assumption) (by assumption)).symm | exact (rgbF_j 2 (by assumption) (by assumption)).symm | exact (rgbF_j 3 (by assumption) (by assumption)).symm | exact (rgbF_j 4 (by assumption) (by assumption)).symm | exact (rgbF_j 5 (by assumption) (by assumption)).symm)
    | exact absurd (by assumption) (big_no (hz (by assumption)).2)
    | exact (six_no (by assumption) (by assumption) (by assumption) (by assumption) (by assumption) (by assumption)).elim
    | exact (fin_nan (hz (by assumption)).1 (by assumption)).elim
    | exact (fin_inf (hz (by assumption)).1 (by assumption)).elim
end Mine
end
section
open PySem PySem.Spec PySem.Calls PySem.W PyProof.Rows PySem.Flt
set_option maxRecDepth 100000
set_option maxHeartbeats 8000000
namespace Mine
theorem hsv_use {w : World} {pv : Program} {lo : List Str} {mean : ExcName → Option Value} {mg mb : Str → Option Value} {dp un : Nat} {gd : Option (List Code)} {cn : Str} {cs : Scope} {a : Addr} {ccd : Value} {cl : List (Str × Addr)} {outer : List Env} {A₀ : Around} {base h₀ : Heap} {L : Addr} {m : Str → Option Value} {s : Shared} {Q E : Value → Shared → Prop} {news : List (Addr × Obj)} {r g b : UInt64} {t1 t2 t3 : Tok}
    (B : Below A₀ base outer h₀) (F : Fr h₀ L s.heap m) (X : (hd.heap_1 w.params).In h₀) (N : News h₀ L s.heap news) (T : Top pv lo mean mg mb h₀) (hk : cs.kind = .function)
    (hd : dp + 1 < recursionLimit) (hu : un + 8 < cLine)
    (hz0 : HsvOk r g b)
    (hret : ∀ D h' tk X Y Z t1 t2 t3, Fr h₀ L h' m → News h₀ L h' ((D, { cls := .type "tuple", data := .seq #[.float X t1, .float Y t2, .float Z t3] }) :: news) → (∀ p ∈ news, p.1 < D) → (X, Y, Z) = hsvF r g b → Q (.ref D) { s with heap := h', toks := tk }) :
    wpAny (model PySem.Challenge.rw_wo0025_01.row.prog w) (ktrTop dp un gd cn cs L a ccd cl outer) (call (.ref 42) [.float r t1, .float g t2, .float b t3]) Q E s :=
  hsv w pv lo mean mg mb _ _ _ _ _ _ _ _ _ _ _ _ _ _ _ _ _ _ _ _ _ _ _ _  B F X N T hk hd hu hz0 hret
theorem rgb_use {w : World} {pv : Program} {lo : List Str} {mean : ExcName → Option Value} {mg mb : Str → Option Value} {dp un : Nat} {gd : Option (List Code)} {cn : Str} {cs : Scope} {a : Addr} {ccd : Value} {cl : List (Str × Addr)} {outer : List Env} {A₀ : Around} {base h₀ : Heap} {L : Addr} {m : Str → Option Value} {s : Shared} {Q E : Value → Shared → Prop} {news : List (Addr × Obj)} {h x v : UInt64} {t1 t2 t3 : Tok}
    (B : Below A₀ base outer h₀) (F : Fr h₀ L s.heap m) (X : (hd.heap_1 w.params).In h₀) (N : News h₀ L s.heap news) (T : Top pv lo mean mg mb h₀) (hk : cs.kind = .function)
    (hd : dp + 1 < recursionLimit) (hu : un + 8 < cLine)
    (hz0 : RgbOk h x v)
    (hret : ∀ D h' tk X Y Z t1 t2 t3, Fr h₀ L h' m → News h₀ L h' ((D, { cls := .type "tuple", data := .seq #[.float X t1, .float Y t2, .float Z t3] }) :: news) → (∀ p ∈ news, p.1 < D) → (X, Y, Z) = rgbF h x v → Q (.ref D) { s with heap := h', toks := tk }) :
    wpAny (model PySem.Challenge.rw_wo0025_01.row.prog w) (ktrTop dp un gd cn cs L a ccd cl outer) (call (.ref 49) [.float h t1, .float x t2, .float v t3]) Q E s :=
  rgb w pv lo mean mg mb _ _ _ _ _ _ _ _ _ _ _ _ _ _ _ _ _ _ _ _ _ _ _ _  B F X N T hk hd hu hz0 hret
abbrev TurnClaim (w : World) (pv : Program) (lo : List Str) (mean : ExcName → Option Value) (mg mb : Str → Option Value) : Prop :=
  ∀ (dp un : Nat) (gd : Option (List Code)) (cn : Str) (cs : Scope) (a : Addr) (ccd : Value) (cl : List (Str × Addr)) (outer : List Env) (A₀ : Around) (base h₀ : Heap) (L : Addr) (m : Str → Option Value) (s : Shared) (Q E : Value → Shared → Prop) (news : List (Addr × Obj)) (p : Addr) (r g b n x y z : Int) (t1 t2 t3 tn : Tok),
    Below A₀ base outer h₀ → Fr h₀ L s.heap m → (hd.heap_1 w.params).In h₀ → News h₀ L s.heap news → Top pv lo mean mg mb h₀ → cs.kind = .function →
    dp + 2 < recursionLimit → un + 16 < cLine →
    ((p, { cls := .type "tuple", data := .seq #[.int r t1, .int g t2, .int b t3] }) ∈ news) →
    (r.natAbs < 2 ^ 64 ∧ g.natAbs < 2 ^ 64 ∧ b.natAbs < 2 ^ 64 ∧ n.natAbs < 2 ^ 64) →
    (TurnOk r g b n x y z) →
    (∀ D h' tk t1 t2 t3, Fr h₀ L h' m → News h₀ L h' ((D, { cls := .type "tuple", data := .seq #[.int x t1, .int y t2, .int z t3] }) :: news) → (∀ p ∈ news, p.1 < D) → Q (.ref D) { s with heap := h', toks := tk }) →
      wpAny (model PySem.Challenge.rw_wo0025_01.row.prog w) (ktrTop dp un gd cn cs L a ccd cl outer) (call (.ref 138) [.ref p, .int n tn]) Q E s
theorem turn (w : World) (pv : Program) (lo : List Str) (mean : ExcName → Option Value) (mg mb : Str → Option Value) : TurnClaim w pv lo mean mg mb := by
  w_top off
  k_with_none
  k_with "eval ListComp" => ((k_here; k_dflt (refine ListComp_F (by k_asm) (by with_unfolding_all rfl) (by decide) (by rfl) (by decide) ?_ (by intro _; rfl))))
  k_with "exec Assign cons ListComp" => ((k_here; k_dflt (refine Assign_ListComp_F (by k_asm) (by rfl) (by with_unfolding_all rfl) (by with_unfolding_all rfl) (by decide) (by rfl) (by decide) (by rfl) (by rfl) ?_ (by intro _; rfl))))
  k_with "eval DictComp" => ((k_here; k_dflt (refine DictComp_F (by k_asm) (by rfl) (by decide) (by with_unfolding_all rfl) (by decide) (by rfl) (by decide) ?_ (by intro _; rfl))))
  k_with "exec Assign cons DictComp" => ((k_here; k_dflt (refine Assign_DictComp_F (by k_asm) (by rfl) (by with_unfolding_all rfl) (by rfl) (by decide) (by with_unfolding_all rfl) (by decide) (by rfl) (by decide) (by rfl) (by rfl) ?_ (by intro _; rfl))))
  k_with "pyIter ref" => ((k_here; (fail_if_success (fail_if_success with_reducible show wpAny _ _ (pyIter (Value.ref _)) (LSrc _ _ _ _ _ _ _ _ _ _ _ _) _ _)); k_dflt (first
  | refine lsrc_tup (by rfl) (by k_asm) (by k_asm) (by k_mem) (by rfl) (by rfl) (by first | (rw [sizeLine_eq]; exact Nat.le_of_ble_eq_true rfl) | size_fits) ?_
  | refine lsrc_list (by rfl) (by k_asm) (by k_asm) (by k_mem) (by rfl) (by rfl) (by first | (rw [sizeLine_eq]; exact Nat.le_of_ble_eq_true rfl) | size_fits) ?_); intro g' tk'))
  k_with "pyIter str" => ((k_here; k_dflt (first
  | ((with_reducible show wpAny _ _ (pyIter (Value.str _ _)) (LSrc _ _ _ _ _ _ _ _ _ _ _ _) _ _); refine lsrc_str (by rfl) (by k_asm) (by k_asm) (by rfl) (by rfl) (by first | (rw [sizeLine_eq]; exact Nat.le_of_ble_eq_true rfl) | size_fits) ?_)
  | ((with_reducible show wpAny _ _ (pyIter (Value.str _ _)) (DSrc _ _ _ _ _ _ _ _ _ _ _ _ _) _ _); refine dsrc_str (by rfl) (by k_asm) (by k_asm) (by rfl) (by rfl) (by first | (rw [sizeLine_eq]; exact Nat.le_of_ble_eq_true rfl) | size_fits) ?_)); intro g' tk'))
  k_with "LTurns" => (with_unfolding_all (refine LT.intro ?_; intro T9 nil9 cons9))
  k_with "LT" => (with_unfolding_all (first
  | (refine nil9 _ _ ?_)
  | (refine cons9 _ _ _ _ ?_; intro t9' u9' C' oC' mC' D' h' tk' nw' E' hns' hb' F' N' hC' hD' hsub'; (first | replace hb' := bound_one hb' | (have hb1' := (bound_two hb').1; have hb2' := (bound_two hb').2; clear hb')); (try k_sweep))))
  k_with "DTurns" => (with_unfolding_all (refine DT.intro ?_; intro T9 nil9 cons9))
  k_with "DT" => (with_unfolding_all (first
  | (refine nil9 _ _ ?_)
  | (refine cons9 _ _ _ _ _ ?_; intro t9' u9' C' oC' mC' D' oD' h' tk' nw' E' hns' hb' F' N' hC' hD' hdict' hsub'; (first | replace hb' := bound_one hb' | (have hb1' := (bound_two hb').1; have hb2' := (bound_two hb').2; clear hb')); (try k_sweep))))
  k_with "EltEnd" => ((k_dflt (first | refine LT.none (by k_asm) (by k_asm) ?_ | refine DT.none (by k_asm) (by k_asm) ?_ | refine LT.one (by k_asm) (by k_asm) (by k_asm) ?_ | refine DT.one (by k_asm) (by k_asm) (by k_asm) ?_ | refine LT.drop (by k_asm) (by k_asm) ?_ | refine DT.drop (by k_asm) (by k_asm) ?_)); (try (rename Sub _ _ => H; clear H)); (try (rename Obj.IsDictOf _ _ (stored _ _ _) => H; clear H)); (try (rename LCg.NsObj _ _ => H; clear H)); (try (rename (_ : Addr × Obj) ∈ (_ : List (Addr × Obj)) => H; clear H)); (try (rename (_ : Addr × Obj) ∈ (_ : List (Addr × Obj)) => H; clear H)); (try (rename InElt _ _ => H; clear H)); (try (rename ∀ p : Str × Value, p ∈ _ → _ = some _ => H; clear H)); (try k_sweep); (repeat (rename Value → Shared → Prop => H; clear H)))
  k_with "LFinE" => (((unfold LFinE); intro D' h' tk' F' N' o1'; (try simp only [List.nil_append, List.cons_append] at N' o1'); (try dsimp only)))
  k_with "LFinA" => (((unfold LFinA); intro D' h' tk' F' N' o1'; (try simp only [List.nil_append, List.cons_append] at N' o1'); (try dsimp only)))
  k_with "DFinE" => (((unfold DFinE); intro D' oD' h' tk' F' N' d1' lD' o1'; (replace d1' := KeepD.intro d1'); (try simp only [List.nil_append, List.cons_append] at N' o1'); (try dsimp only)))
  k_with "DFinA" => (((unfold DFinA); intro D' oD' h' tk' F' N' d1' lD' o1'; (replace d1' := KeepD.intro d1'); (try simp only [List.nil_append, List.cons_append] at N' o1'); (try dsimp only)))
  k_with "pyIter ref" => ((k_here; (fail_if_success (fail_if_success with_reducible show wpAny _ _ (pyIter (Value.ref _)) (LSrc _ _ _ _ _ _ _ _ (Expr.Tuple [_, _] _ _) _ _ _) _ _)); k_dflt (refine lsrc_pairs (by rfl) (by k_asm) (by k_asm) (by k_mem) (by repeat (first | exact Tups.nil | (apply Tups.cons; k_mem))) (by rfl) (by rfl) (by rfl) (by decide) (by first | (rw [sizeLine_eq]; exact Nat.le_of_ble_eq_true rfl) | size_fits) ?_); intro g' tk'))
  k_with "call builtin:sum" => ((k_here; (fail_if_success (fail_if_success with_reducible show wpAny _ _ (call (Value.builtin "sum") [Value.ref _]) _ _ _)); k_dflt (refine' sum_lst ?k0 ?k1 ?k2 ?k3 ?k4 ?_; (case k0 => rfl); (case k1 => k_asm); (case k2 => k_asm); (case k3 => k_mem); (case k4 => first | l_ints | l_intsW); k_whole); intro h' tk' t' F' N'; (try simp only [List.sum_cons, List.sum_nil])))
  k_with "call ref" => ((k_here; (fail_if_success (fail_if_success with_reducible show wpAny _ _ (call (Value.ref 42) [Value.float _ _, Value.float _ _, Value.float _ _]) _ _ _)); k_dflt (refine' hsv_use ?k1 ?k2 ?k3 ?k4 ?k5 ?kK ?kd ?ku ?kz0 ?_; (case k1 => k_asm); (case k2 => k_asm); (case k3 => k_asm); (case k4 => k_asm); (case k5 => k_asm); (case kK => first | exact rfl | assumption); (case kd => ktr_room); (case ku => ktr_units); (case kz0 => k_asm); k_whole; intro D' h' tk' X' Y' Z' t1' t2' t3' F' N' l1' e'; (try k_sweep)); walk_say "ASKED hsv"))
  k_with "call ref" => ((k_here; (fail_if_success (fail_if_success with_reducible show wpAny _ _ (call (Value.ref 49) [Value.float _ _, Value.float _ _, Value.float _ _]) _ _ _)); k_dflt (refine' rgb_use ?k1 ?k2 ?k3 ?k4 ?k5 ?kK ?kd ?ku ?kz0 ?_; (case k1 => k_asm); (case k2 => k_asm); (case k3 => k_asm); (case k4 => k_asm); (case k5 => k_asm); (case kK => first | exact rfl | assumption); (case kd => ktr_room); (case ku => ktr_units); (case kz0 => (rename (∀ X Y Z, (X, Y, Z) = hsvF _ _ _ → RgbOk _ _ _ ∧ _) => H'; exact (H' _ _ _ (by assumption)).1)); k_whole; intro D' h' tk' X' Y' Z' t1' t2' t3' F' N' l1' e'; (try k_sweep)); walk_say "ASKED rgb"))
  delta TurnClaim
  k_fill
  intro dp un gd cn cs a ccd cl outer A₀ base h₀ L m s Q E news p r g b n x y z t1 t2 t3 tn B F X N T hk hd hu hp hs hz hret
  obtain ⟨hz1, hz2⟩ := hz
  refine wpAny_call ?_
  k_dflt cell_enter
  k_steps
  all_goals first
    | exact absurd (by assumption) (big_no hs.1)
    | exact absurd (by assumption) (big_no hs.2.1)
    | exact absurd (by assumption) (big_no hs.2.2.1)
    | exact absurd (by assumption) (big_no hs.2.2.2)
    | ((rename _ = rgbF _ _ _ => e1); (rename _ = hsvF _ _ _ => e2); obtain ⟨⟨a1, a2, a3⟩, ⟨b1, b2, b3⟩, ⟨c1, c2, c3⟩⟩ := (hz2 _ _ _ e2).2 _ _ _ e1; first
      | ((rename Float64.isNaN _ = true => e3); first | exact absurd (a1.symm.trans e3) (by decide) | exact absurd (b1.symm.trans e3) (by decide) | exact absurd (c1.symm.trans e3) (by decide))
      | ((rename Float64.isInf _ = true => e3); first | exact absurd (a2.symm.trans e3) (by decide) | exact absurd (b2.symm.trans e3) (by decide) | exact absurd (c2.symm.trans e3) (by decide))
      | ((rename _ ∧ _ ∧ _ ∧ AllLt _ _ => l1); (rename Fr h₀ L _ m => F1); (rename News h₀ L _ _ => N1); subst a3 b3 c3; exact hret _ _ _ _ _ _ F1 (news_sub N1 (Sub.keep (Sub.skip (Sub.skip (Sub.skip Sub.same))))) (allLt_all l1.2.2.2)))
  trace_state
end Mine
end
section
open PySem PySem.Spec PySem.Calls PySem.W PyProof.Rows PySem.Flt
set_option maxRecDepth 100000
set_option maxHeartbeats 8000000
namespace Mine
abbrev CountClaim (w : World) (pv : Program) (lo : List Str) (mean : ExcName → Option Value) (mg mb : Str → Option Value) : Prop :=
  ∀ (dp un : Nat) (gd : Option (List Code)) (cn : Str) (cs : Scope) (a : Addr) (ccd : Value) (cl : List (Str × Addr)) (outer : List Env) (A₀ : Around) (base h₀ : Heap) (L : Addr) (m : Str → Option Value) (s : Shared) (Q E : Value → Shared → Prop) (news : List (Addr × Obj)) (x dx : Addr) (k : Nat) (od : Obj) (nw : List (Addr × Obj)) (xs : Array Value),
    Below A₀ base outer h₀ → Fr h₀ L s.heap m → (hd.heap_1 w.params).In h₀ → News h₀ L s.heap news → Top pv lo mean mg mb h₀ → cs.kind = .function →
    dp + 1 < recursionLimit → un + 8 < cLine →
    (news = (x, ringObj dx xs k) :: (dx, od) :: nw) →
    (RD od ∧ (∀ p ∈ nw, p.1 ≠ x) ∧ (∀ p ∈ nw, p.1 ≠ dx) ∧ @LT.lt Nat _ dx x) →
    (∀ h' tk t, Fr h₀ L h' m → News h₀ L h' ((x, ringObj dx xs k) :: (dx, od) :: nw) → Q (.int xs.size t) { s with heap := h', toks := tk }) →
      wpAny (model PySem.Challenge.rw_wo0025_01.row.prog w) (ktrTop dp un gd cn cs L a ccd cl outer) (call (.ref 126) [.ref x]) Q E s
theorem count (w : World) (pv : Program) (lo : List Str) (mean : ExcName → Option Value) (mg mb : Str → Option Value) : CountClaim w pv lo mean mg mb := by
  w_top off
  k_with_none
  k_with "wpAt" => ((ks_step "attributeBase Call"; k_here; k_dflt (refine' ks_node ?F ?X ?N ?T ?hf ?hp ?hv ?I ?hcode ?hvs ?hfile ?hcell ?hD ?hsub ?hsuper ?hat ?hks ?hkc ?hka ?hk ?htop ?hboot ?_; (case F => k_asm); (case X => k_asm); (case N => k_asm); (case T => k_asm); (case hf => k_is); (case hp => rfl); (case hv => rfl); (case I => (refine' ring_instN ?Ia ?Ib ?Ic; (case Ia => k_asm); (case Ib => k_mem); (case Ic => k_mem))); (case hcode => k_is); (case hvs => rfl); (case hfile => first | rfl | decide +kernel); (case hcell => k_is); (case hD => k_is); (case hsub => k_is); (case hsuper => k_is); (case hat => decide); (case hks => rfl); (case hkc => rfl); (case hka => rfl); (case hk => rfl); (case htop => decide +kernel); (case hboot => first | boot_by_name | rfl | kernel_rfl); intro so' h' F' N' l1; (try k_lt l1); (try k_sweep))))
  k_with "getMethod ref" => ((k_here; k_dflt (refine' ring_meth ?rF ?rX ?rN ?rx ?rd ?rr ?rf ?rt ?ru ?rs ?_; (case rF => k_asm); (case rX => k_asm); (case rN => k_asm); (case rx => k_mem); (case rd => k_mem); (case rr => assumption); (case rf => k_is); (case rt => first | k_is | rfl); (case ru => decide); (case rs => (intro _ _ _; rfl)); k_whole)))
  k_with "call builtin:list.append" => ((k_here; (fail_if_success (fail_if_success with_reducible show wpAny _ _ (call (Value.builtin _) [Value.ref _, _]) _ _ _)); k_dflt (refine' ring_append ?rF ?rX ?rN ?rU ?rz ?_; (case rF => k_asm); (case rX => k_asm); (case rN => k_asm); (case rU => k_upd); (case rz => first | decide | size_fits | assumption); k_whole); intro h' F' N'; (try k_sweep)))
  k_with "getMethod ref" => ((k_here; k_dflt (first
  | (refine' ring_super (name := "pop") ?rF ?rX ?rN ?rs ?rx bnd_pop ?rf ?rn ?_; (case rF => k_asm); (case rX => k_asm); (case rN => k_asm); (case rs => k_mem); (case rx => k_mem); (case rf => kernel_rfl); (case rn => decide); k_whole)
  | (refine' ring_super (name := "__len__") ?rF ?rX ?rN ?rs ?rx bnd_len ?rf ?rn ?_; (case rF => k_asm); (case rX => k_asm); (case rN => k_asm); (case rs => k_mem); (case rx => k_mem); (case rf => kernel_rfl); (case rn => decide); k_whole)
  | (refine' ring_super (name := "__init__") ?rF ?rX ?rN ?rs ?rx bnd_init ?rf ?rn ?_; (case rF => k_asm); (case rX => k_asm); (case rN => k_asm); (case rs => k_mem); (case rx => k_mem); (case rf => kernel_rfl); (case rn => decide); k_whole)); intro q' h' F' N' l1; (try k_lt l1); (try k_sweep); (try dsimp only)))
  k_with "call ref" => ((k_here; (fail_if_success (fail_if_success with_reducible show wpAny _ _ (call (Value.ref _) []) _ _ _)); k_dflt (first
  | (refine' ring_callLen ?rN ?rq ?rx ?_; (case rN => k_asm); (case rq => k_mem); (case rx => k_mem); k_whole; intro t')
  | (refine' ring_callPop ?rF ?rX ?rN ?rq ?rU ?_; (case rF => k_asm); (case rX => k_asm); (case rN => k_asm); (case rq => k_mem); (case rU => k_upd); k_whole; intro h' F' N'; (try k_sweep))
  | (refine' ring_callInit ?rF ?rN ?rq ?rx ?_; (case rF => k_asm); (case rN => k_asm); (case rq => k_mem); (case rx => k_mem); k_whole; intro h' F' N'; (try k_sweep)))))
  k_with "setAttr ref" => ((k_here; k_dflt (refine' ring_store ?rF ?rX ?rN ?rx ?rU ?rr ?_; (case rF => k_asm); (case rX => k_asm); (case rN => k_asm); (case rx => k_mem); (case rU => k_updF); (case rr => assumption); k_whole); intro od' h' tk' rd' F' N'; (try dsimp only at N'); (try k_sweep)))
  k_with "subscriptTail Name Slice ref ref" => ((k_here; (fail_if_success (fail_if_success with_reducible show wpAny _ _ (subscriptTail _ (PySem.Expr.Slice _ _ none _) (Value.ref _) (Value.ref _)) _ _ _)); k_dflt (refine' ring_rest ?rF ?rX ?rN ?rx ?_ ?s ?t; (case rF => k_asm); (case rX => k_asm); (case rN => k_asm); (case rx => k_mem); (case s => with_unfolding_all rfl); (case t => kmk_pure)); intro D' h' F' N' l1; (try k_lt l1); (try k_sweep)))
  k_with "setItem ref ref" => ((k_here; k_dflt (first
  | (refine' ring_cut6 ?rF ?rX ?rN ?rl ?rU ?_; (case rF => k_asm); (case rX => k_asm); (case rN => k_asm); (case rl => k_mem); (case rU => k_upd))
  | (refine' ring_cut0 ?rF ?rX ?rN ?rl ?rU ?_; (case rF => k_asm); (case rX => k_asm); (case rN => k_asm); (case rl => first | k_mem | (refine List.Mem.tail _ (List.Mem.tail _ ?_); assumption)); (case rU => k_upd))); intro h' F' N'; (try k_sweep)))
  k_with "callWith ref" => ((k_here; (fail_if_success (fail_if_success with_reducible show wpAny _ _ (callWith _ (Value.ref _) [] (backTo _ (starEach [] _)) []) _ _ _)); k_dflt (refine' callWith_bnd ?rN ?rq ?rg ?_; (case rN => k_asm); (case rq => k_mem); (case rg => first | exact .inl rfl | exact .inr rfl))))
  delta CountClaim
  k_fill
  intro dp un gd cn cs a ccd cl outer A₀ base h₀ L m s Q E news x dx k od nw xs B F X N T hk hd hu hp hz hret
  obtain ⟨hz1, hz2, hz3, hz4⟩ := hz
  subst hp
  refine wpAny_call ?_
  k_dflt  (refine' ks_code_super ?k1 ?k2 ?k3 ?k4 ?k5 ?kA ?kF ?kK ?k6 ?k7 ?k8 ?k9 ?kB ?_ ?c1 ?c2 ?c3 ?c4; (case kA => exact rfl); (case kF => exact rfl); (case kK => assumption); (case k1 => k_asm); (case k2 => k_asm); (case k3 => k_asm); (case k4 => k_asm); (case k5 => k_asm); (case k6 => k_is); (case k7 => k_is); (case k8 => ktr_room); (case k9 => first | exact BindsTo.of_eq rfl | exact binds_K (by k_in) rfl (by k_is) rfl rfl rfl); (case kB => exact locs rfl); (case c1 => decide); (case c2 => exact rfl); (case c3 => exact rfl); (case c4 => exact rfl); k_whole; intro g' L' h' FG' F' N' B' X' T' l1; (try k_lt l1); (try dsimp only); (try k_lift B'))
  k_steps
  all_goals ((rename Fr h₀ L _ m => F1); (rename News h₀ L _ _ => N1); exact hret _ _ _ F1 (news_sub N1 (Sub.skip (Sub.skip Sub.same))))
end Mine
end
section
open PySem PySem.Spec PySem.Calls PySem.W PyProof.Rows PySem.Flt
set_option maxRecDepth 100000
set_option maxHeartbeats 8000000
namespace Mine
theorem count_use {w : World} {pv : Program} {lo : List Str} {mean : ExcName → Option Value} {mg mb : Str → Option Value} {dp un : Nat} {gd : Option (List Code)} {cn : Str} {cs : Scope} {a : Addr} {ccd : Value} {cl : List (Str × Addr)} {outer : List Env} {A₀ : Around} {base h₀ : Heap} {L : Addr} {m : Str → Option Value} {s : Shared} {Q E : Value → Shared → Prop} {news : List (Addr × Obj)} {x dx : Addr} {k : Nat} {od : Obj} {nw : List (Addr × Obj)} {xs : Array Value}
    (B : Below A₀ base outer h₀) (F : Fr h₀ L s.heap m) (X : (hd.heap_1 w.params).In h₀) (N : News h₀ L s.heap news) (T : Top pv lo mean mg mb h₀) (hk : cs.kind = .function)
    (hd : dp + 1 < recursionLimit) (hu : un + 8 < cLine)
    (hz0 : news = (x, ringObj dx xs k) :: (dx, od) :: nw)
    (hz1 : RD od ∧ (∀ p ∈ nw, p.1 ≠ x) ∧ (∀ p ∈ nw, p.1 ≠ dx) ∧ @LT.lt Nat _ dx x)
    (hret : ∀ h' tk t, Fr h₀ L h' m → News h₀ L h' ((x, ringObj dx xs k) :: (dx, od) :: nw) → Q (.int xs.size t) { s with heap := h', toks := tk }) :
    wpAny (model PySem.Challenge.rw_wo0025_01.row.prog w) (ktrTop dp un gd cn cs L a ccd cl outer) (call (.ref 126) [.ref x]) Q E s :=
  count w pv lo mean mg mb _ _ _ _ _ _ _ _ _ _ _ _ _ _ _ _ _ _ _ _ _ _ _ _  B F X N T hk hd hu hz0 hz1 hret
abbrev PopClaim (w : World) (pv : Program) (lo : List Str) (mean : ExcName → Option Value) (mg mb : Str → Option Value) : Prop :=
  ∀ (dp un : Nat) (gd : Option (List Code)) (cn : Str) (cs : Scope) (a : Addr) (ccd : Value) (cl : List (Str × Addr)) (outer : List Env) (A₀ : Around) (base h₀ : Heap) (L : Addr) (m : Str → Option Value) (s : Shared) (Q E : Value → Shared → Prop) (news : List (Addr × Obj)) (x dx : Addr) (k : Nat) (od : Obj) (nw : List (Addr × Obj)) (v : Value),
    Below A₀ base outer h₀ → Fr h₀ L s.heap m → (hd.heap_1 w.params).In h₀ → News h₀ L s.heap news → Top pv lo mean mg mb h₀ → cs.kind = .function →
    dp + 2 < recursionLimit → un + 16 < cLine →
    (news = (x, ringObj dx #[v] k) :: (dx, od) :: nw) →
    (RD od ∧ (∀ p ∈ nw, p.1 ≠ x) ∧ (∀ p ∈ nw, p.1 ≠ dx) ∧ @LT.lt Nat _ dx x) →
    (∀ h' tk, Fr h₀ L h' m → News h₀ L h' ((x, ringObj dx #[] (k + 1)) :: (dx, od) :: nw) → Q v { s with heap := h', toks := tk }) →
      wpAny (model PySem.Challenge.rw_wo0025_01.row.prog w) (ktrTop dp un gd cn cs L a ccd cl outer) (call (.ref 89) [.ref x]) Q E s
theorem pop (w : World) (pv : Program) (lo : List Str) (mean : ExcName → Option Value) (mg mb : Str → Option Value) : PopClaim w pv lo mean mg mb := by
  w_top off
  k_with_none
  k_with "wpAt" => (k_dflt (ks_step "eval Call"; refine ks_wpAt_MethodCall ?_))
  k_with "wpAt" => (k_dflt (ks_step "exec Return"; refine ks_wpAt_Return_some ?_))
  k_with "wpAt" => (k_dflt (ks_step "exec Expr"; refine ks_wpAt_Expr_any ?_))
  k_with "wpAt" => ((ks_step "attributeBase Call"; k_here; k_dflt (refine' ks_node ?F ?X ?N ?T ?hf ?hp ?hv ?I ?hcode ?hvs ?hfile ?hcell ?hD ?hsub ?hsuper ?hat ?hks ?hkc ?hka ?hk ?htop ?hboot ?_; (case F => k_asm); (case X => k_asm); (case N => k_asm); (case T => k_asm); (case hf => k_is); (case hp => rfl); (case hv => rfl); (case I => (refine' ring_instN ?Ia ?Ib ?Ic; (case Ia => k_asm); (case Ib => k_mem); (case Ic => k_mem))); (case hcode => k_is); (case hvs => rfl); (case hfile => first | rfl | decide +kernel); (case hcell => k_is); (case hD => k_is); (case hsub => k_is); (case hsuper => k_is); (case hat => decide); (case hks => rfl); (case hkc => rfl); (case hka => rfl); (case hk => rfl); (case htop => decide +kernel); (case hboot => first | boot_by_name | rfl | kernel_rfl); intro so' h' F' N' l1; (try k_lt l1); (try k_sweep))))
  k_with "getMethod ref" => ((k_here; k_dflt (refine' ring_meth ?rF ?rX ?rN ?rx ?rd ?rr ?rf ?rt ?ru ?rs ?_; (case rF => k_asm); (case rX => k_asm); (case rN => k_asm); (case rx => k_mem); (case rd => k_mem); (case rr => assumption); (case rf => k_is); (case rt => first | k_is | rfl); (case ru => decide); (case rs => (intro _ _ _; rfl)); k_whole)))
  k_with "call builtin:list.append" => ((k_here; (fail_if_success (fail_if_success with_reducible show wpAny _ _ (call (Value.builtin _) [Value.ref _, _]) _ _ _)); k_dflt (refine' ring_append ?rF ?rX ?rN ?rU ?rz ?_; (case rF => k_asm); (case rX => k_asm); (case rN => k_asm); (case rU => k_upd); (case rz => first | decide | size_fits | assumption); k_whole); intro h' F' N'; (try k_sweep)))
  k_with "getMethod ref" => ((k_here; k_dflt (first
  | (refine' ring_super (name := "pop") ?rF ?rX ?rN ?rs ?rx bnd_pop ?rf ?rn ?_; (case rF => k_asm); (case rX => k_asm); (case rN => k_asm); (case rs => k_mem); (case rx => k_mem); (case rf => kernel_rfl); (case rn => decide); k_whole)
  | (refine' ring_super (name := "__len__") ?rF ?rX ?rN ?rs ?rx bnd_len ?rf ?rn ?_; (case rF => k_asm); (case rX => k_asm); (case rN => k_asm); (case rs => k_mem); (case rx => k_mem); (case rf => kernel_rfl); (case rn => decide); k_whole)
  | (refine' ring_super (name := "__init__") ?rF ?rX ?rN ?rs ?rx bnd_init ?rf ?rn ?_; (case rF => k_asm); (case rX => k_asm); (case rN => k_asm); (case rs => k_mem); (case rx => k_mem); (case rf => kernel_rfl); (case rn => decide); k_whole)); intro q' h' F' N' l1; (try k_lt l1); (try k_sweep); (try dsimp only)))
  k_with "call ref" => ((k_here; (fail_if_success (fail_if_success with_reducible show wpAny _ _ (call (Value.ref _) []) _ _ _)); k_dflt (first
  | (refine' ring_callLen ?rN ?rq ?rx ?_; (case rN => k_asm); (case rq => k_mem); (case rx => k_mem); k_whole; intro t')
  | (refine' ring_callPop ?rF ?rX ?rN ?rq ?rU ?_; (case rF => k_asm); (case rX => k_asm); (case rN => k_asm); (case rq => k_mem); (case rU => k_upd); k_whole; intro h' F' N'; (try k_sweep))
  | (refine' ring_callInit ?rF ?rN ?rq ?rx ?_; (case rF => k_asm); (case rN => k_asm); (case rq => k_mem); (case rx => k_mem); k_whole; intro h' F' N'; (try k_sweep)))))
  k_with "setAttr ref" => ((k_here; k_dflt (refine' ring_store ?rF ?rX ?rN ?rx ?rU ?rr ?_; (case rF => k_asm); (case rX => k_asm); (case rN => k_asm); (case rx => k_mem); (case rU => k_updF); (case rr => assumption); k_whole); intro od' h' tk' rd' F' N'; (try dsimp only at N'); (try k_sweep)))
  k_with "subscriptTail Name Slice ref ref" => ((k_here; (fail_if_success (fail_if_success with_reducible show wpAny _ _ (subscriptTail _ (PySem.Expr.Slice _ _ none _) (Value.ref _) (Value.ref _)) _ _ _)); k_dflt (refine' ring_rest ?rF ?rX ?rN ?rx ?_ ?s ?t; (case rF => k_asm); (case rX => k_asm); (case rN => k_asm); (case rx => k_mem); (case s => with_unfolding_all rfl); (case t => kmk_pure)); intro D' h' F' N' l1; (try k_lt l1); (try k_sweep)))
  k_with "setItem ref ref" => ((k_here; k_dflt (first
  | (refine' ring_cut6 ?rF ?rX ?rN ?rl ?rU ?_; (case rF => k_asm); (case rX => k_asm); (case rN => k_asm); (case rl => k_mem); (case rU => k_upd))
  | (refine' ring_cut0 ?rF ?rX ?rN ?rl ?rU ?_; (case rF => k_asm); (case rX => k_asm); (case rN => k_asm); (case rl => first | k_mem | (refine List.Mem.tail _ (List.Mem.tail _ ?_); assumption)); (case rU => k_upd))); intro h' F' N'; (try k_sweep)))
  k_with "callWith ref" => ((k_here; (fail_if_success (fail_if_success with_reducible show wpAny _ _ (callWith _ (Value.ref _) [] (backTo _ (starEach [] _)) []) _ _ _)); k_dflt (refine' callWith_bnd ?rN ?rq ?rg ?_; (case rN => k_asm); (case rq => k_mem); (case rg => first | exact .inl rfl | exact .inr rfl))))
  k_with "wpAt" => (((fail_if_success first | ks_step "execs cons" | ks_step "exec Expr" | ks_step "exec Return" | ks_step "exec Assign" | ks_step "exec If" | ks_step "eval BinOp" | ks_step "eval Call" | ks_step "attributeBase Call"); dsimp only))
  k_with "call ref" => ((k_here; (fail_if_success (fail_if_success k_dflt (show wpAny _ _ (call (Value.ref 126) [Value.ref _]) _ _ _))); k_dflt (refine' count_use ?k1 ?k2 ?k3 ?k4 ?k5 ?kK ?kd ?ku ?kz0 ?kz1 ?_; (case kz0 => exact rfl); (case k1 => k_asm); (case k2 => k_asm); (case k3 => k_asm); (case k4 => (refine' news_front2 ?e1 ?e2 ?nN; (case nN => k_asm); (case e1 => repeat (first | exact Ext.head | refine Ext.tail ?_)); (case e2 => repeat (first | exact Ext.head | refine Ext.tail ?_)))); (case k5 => k_asm); (case kK => first | exact rfl | assumption); (case kd => ktr_room); (case ku => ktr_units); (case kz1 => exact ⟨by assumption, by k_all, by k_all, by first | assumption | omega⟩); k_whole; intro h' tk' t' F' N'; (try k_sweep)); walk_say "ASKED count"))
  delta PopClaim
  k_fill
  intro dp un gd cn cs a ccd cl outer A₀ base h₀ L m s Q E news x dx k od nw v B F X N T hk hd hu hp hz hret
  obtain ⟨hz1, hz2, hz3, hz4⟩ := hz
  subst hp
  refine wpAny_call ?_
  k_dflt  (refine' ks_code_super ?k1 ?k2 ?k3 ?k4 ?k5 ?kA ?kF ?kK ?k6 ?k7 ?k8 ?k9 ?kB ?_ ?c1 ?c2 ?c3 ?c4; (case kA => exact rfl); (case kF => exact rfl); (case kK => assumption); (case k1 => k_asm); (case k2 => k_asm); (case k3 => k_asm); (case k4 => k_asm); (case k5 => k_asm); (case k6 => k_is); (case k7 => k_is); (case k8 => ktr_room); (case k9 => first | exact BindsTo.of_eq rfl | exact binds_K (by k_in) rfl (by k_is) rfl rfl rfl); (case kB => exact locs rfl); (case c1 => decide); (case c2 => exact rfl); (case c3 => exact rfl); (case c4 => exact rfl); k_whole; intro g' L' h' FG' F' N' B' X' T' l1; (try k_lt l1); (try dsimp only); (try k_lift B'))
  k_steps
  all_goals first
    | (rename ((#[v] : Array Value).size : Int) = 0 => e0; simp at e0)
    | ((rename Fr h₀ L _ m => F1); (rename News h₀ L _ _ => N1); exact hret _ _ F1 (news_sub N1 (Sub.skip (Sub.skip Sub.same))))
  trace_state
end Mine
end
section
open PySem PySem.Spec PySem.Calls PySem.W PyProof.Rows PySem.Flt
set_option maxRecDepth 100000
set_option maxHeartbeats 8000000
namespace Mine
abbrev PopfromClaim (w : World) (pv : Program) (lo : List Str) (mean : ExcName → Option Value) (mg mb : Str → Option Value) : Prop :=
  ∀ (dp un : Nat) (gd : Option (List Code)) (cn : Str) (cs : Scope) (a : Addr) (ccd : Value) (cl : List (Str × Addr)) (outer : List Env) (A₀ : Around) (base h₀ : Heap) (L : Addr) (m : Str → Option Value) (s : Shared) (Q E : Value → Shared → Prop) (news : List (Addr × Obj)) (x dx : Addr) (k : Nat) (od : Obj) (nw : List (Addr × Obj)) (v0 v1 v2 v3 v4 v5 : Value) (t1 : Tok),
    Below A₀ base outer h₀ → Fr h₀ L s.heap m → (hd.heap_1 w.params).In h₀ → News h₀ L s.heap news → Top pv lo mean mg mb h₀ → cs.kind = .function →
    dp + 1 < recursionLimit → un + 8 < cLine →
    (news = (x, ringObj dx #[v0, v1, v2, v3, v4, v5] k) :: (dx, od) :: nw) →
    (RD od ∧ (∀ p ∈ nw, p.1 ≠ x) ∧ (∀ p ∈ nw, p.1 ≠ dx) ∧ @LT.lt Nat _ dx x) →
    (∀ D h' tk k' kl, Fr h₀ L h' m → News h₀ L h' ((D, listOf #[v1, v2, v3, v4, v5] kl) :: (x, ringObj dx #[v0] k') :: (dx, od) :: nw) → (∀ p ∈ news, p.1 < D) → Q (.ref D) { s with heap := h', toks := tk }) →
      wpAny (model PySem.Challenge.rw_wo0025_01.row.prog w) (ktrTop dp un gd cn cs L a ccd cl outer) (call (.ref 81) [.ref x, .int 1 t1]) Q E s
theorem popfrom (w : World) (pv : Program) (lo : List Str) (mean : ExcName → Option Value) (mg mb : Str → Option Value) : PopfromClaim w pv lo mean mg mb := by
  w_top off
  k_with_none
  k_with "wpAt" => ((ks_step "attributeBase Call"; k_here; k_dflt (refine' ks_node ?F ?X ?N ?T ?hf ?hp ?hv ?I ?hcode ?hvs ?hfile ?hcell ?hD ?hsub ?hsuper ?hat ?hks ?hkc ?hka ?hk ?htop ?hboot ?_; (case F => k_asm); (case X => k_asm); (case N => k_asm); (case T => k_asm); (case hf => k_is); (case hp => rfl); (case hv => rfl); (case I => (refine' ring_instN ?Ia ?Ib ?Ic; (case Ia => k_asm); (case Ib => k_mem); (case Ic => k_mem))); (case hcode => k_is); (case hvs => rfl); (case hfile => first | rfl | decide +kernel); (case hcell => k_is); (case hD => k_is); (case hsub => k_is); (case hsuper => k_is); (case hat => decide); (case hks => rfl); (case hkc => rfl); (case hka => rfl); (case hk => rfl); (case htop => decide +kernel); (case hboot => first | boot_by_name | rfl | kernel_rfl); intro so' h' F' N' l1; (try k_lt l1); (try k_sweep))))
  k_with "getMethod ref" => ((k_here; k_dflt (refine' ring_meth ?rF ?rX ?rN ?rx ?rd ?rr ?rf ?rt ?ru ?rs ?_; (case rF => k_asm); (case rX => k_asm); (case rN => k_asm); (case rx => k_mem); (case rd => k_mem); (case rr => assumption); (case rf => k_is); (case rt => first | k_is | rfl); (case ru => decide); (case rs => (intro _ _ _; rfl)); k_whole)))
  k_with "call builtin:list.append" => ((k_here; (fail_if_success (fail_if_success with_reducible show wpAny _ _ (call (Value.builtin _) [Value.ref _, _]) _ _ _)); k_dflt (refine' ring_append ?rF ?rX ?rN ?rU ?rz ?_; (case rF => k_asm); (case rX => k_asm); (case rN => k_asm); (case rU => k_upd); (case rz => first | decide | size_fits | assumption); k_whole); intro h' F' N'; (try k_sweep)))
  k_with "getMethod ref" => ((k_here; k_dflt (first
  | (refine' ring_super (name := "pop") ?rF ?rX ?rN ?rs ?rx bnd_pop ?rf ?rn ?_; (case rF => k_asm); (case rX => k_asm); (case rN => k_asm); (case rs => k_mem); (case rx => k_mem); (case rf => kernel_rfl); (case rn => decide); k_whole)
  | (refine' ring_super (name := "__len__") ?rF ?rX ?rN ?rs ?rx bnd_len ?rf ?rn ?_; (case rF => k_asm); (case rX => k_asm); (case rN => k_asm); (case rs => k_mem); (case rx => k_mem); (case rf => kernel_rfl); (case rn => decide); k_whole)
  | (refine' ring_super (name := "__init__") ?rF ?rX ?rN ?rs ?rx bnd_init ?rf ?rn ?_; (case rF => k_asm); (case rX => k_asm); (case rN => k_asm); (case rs => k_mem); (case rx => k_mem); (case rf => kernel_rfl); (case rn => decide); k_whole)); intro q' h' F' N' l1; (try k_lt l1); (try k_sweep); (try dsimp only)))
  k_with "call ref" => ((k_here; (fail_if_success (fail_if_success with_reducible show wpAny _ _ (call (Value.ref _) []) _ _ _)); k_dflt (first
  | (refine' ring_callLen ?rN ?rq ?rx ?_; (case rN => k_asm); (case rq => k_mem); (case rx => k_mem); k_whole; intro t')
  | (refine' ring_callPop ?rF ?rX ?rN ?rq ?rU ?_; (case rF => k_asm); (case rX => k_asm); (case rN => k_asm); (case rq => k_mem); (case rU => k_upd); k_whole; intro h' F' N'; (try k_sweep))
  | (refine' ring_callInit ?rF ?rN ?rq ?rx ?_; (case rF => k_asm); (case rN => k_asm); (case rq => k_mem); (case rx => k_mem); k_whole; intro h' F' N'; (try k_sweep)))))
  k_with "setAttr ref" => ((k_here; k_dflt (refine' ring_store ?rF ?rX ?rN ?rx ?rU ?rr ?_; (case rF => k_asm); (case rX => k_asm); (case rN => k_asm); (case rx => k_mem); (case rU => k_updF); (case rr => assumption); k_whole); intro od' h' tk' rd' F' N'; (try dsimp only at N'); (try k_sweep)))
  k_with "subscriptTail Name Slice ref ref" => ((k_here; (fail_if_success (fail_if_success with_reducible show wpAny _ _ (subscriptTail _ (PySem.Expr.Slice _ _ none _) (Value.ref _) (Value.ref _)) _ _ _)); k_dflt (refine' ring_rest ?rF ?rX ?rN ?rx ?_ ?s ?t; (case rF => k_asm); (case rX => k_asm); (case rN => k_asm); (case rx => k_mem); (case s => with_unfolding_all rfl); (case t => kmk_pure)); intro D' h' F' N' l1; (try k_lt l1); (try k_sweep)))
  k_with "setItem ref ref" => ((k_here; k_dflt (first
  | (refine' ring_cut6 ?rF ?rX ?rN ?rl ?rU ?_; (case rF => k_asm); (case rX => k_asm); (case rN => k_asm); (case rl => k_mem); (case rU => k_upd))
  | (refine' ring_cut0 ?rF ?rX ?rN ?rl ?rU ?_; (case rF => k_asm); (case rX => k_asm); (case rN => k_asm); (case rl => first | k_mem | (refine List.Mem.tail _ (List.Mem.tail _ ?_); assumption)); (case rU => k_upd))); intro h' F' N'; (try k_sweep)))
  k_with "callWith ref" => ((k_here; (fail_if_success (fail_if_success with_reducible show wpAny _ _ (callWith _ (Value.ref _) [] (backTo _ (starEach [] _)) []) _ _ _)); k_dflt (refine' callWith_bnd ?rN ?rq ?rg ?_; (case rN => k_asm); (case rq => k_mem); (case rg => first | exact .inl rfl | exact .inr rfl))))
  delta PopfromClaim
  k_fill
  intro dp un gd cn cs a ccd cl outer A₀ base h₀ L m s Q E news x dx k od nw v0 v1 v2 v3 v4 v5 t1 B F X N T hk hd hu hp hz hret
  obtain ⟨hz1, hz2, hz3, hz4⟩ := hz
  subst hp
  refine wpAny_call ?_
  k_dflt (refine' code_def ?k1 ?k2 ?k3 ?k4 ?k5 ?kA ?kF ?kK ?k6 ?k7 ?k8 ?k9 ?kB ?_ ?c2 ?c3 ?c4 ?c5; (case kA => exact rfl); (case kF => exact rfl); (case kK => assumption); (case k1 => k_asm); (case k2 => k_asm); (case k3 => k_asm); (case k4 => k_asm); (case k5 => k_asm); (case k6 => k_is); (case k7 => k_is); (case k8 => ktr_room); (case k9 => exact binds_K (by k_in) rfl (by k_is) rfl rfl rfl); (case c5 => decide); (case kB => exact locs rfl); (case c2 => exact rfl); (case c3 => exact rfl); (case c4 => exact rfl); k_whole; intro g' L' h' FG' F' N' B' X' T'; (try dsimp only); (try k_lift B'); (try k_fold))
  k_steps
  all_goals ((rename Fr h₀ L _ m => F1); (rename News h₀ L _ _ => N1); (rename _ ∧ _ ∧ AllLt _ nw => l2); exact hret _ _ _ _ _ F1 (news_sub N1 (Sub.skip Sub.same)) (allLt_all l2))
end Mine
end
section
open PySem PySem.Spec PySem.Calls PySem.W PyProof.Rows PySem.Flt
set_option maxRecDepth 100000
set_option maxHeartbeats 8000000
namespace Mine
abbrev ResetClaim (w : World) (pv : Program) (lo : List Str) (mean : ExcName → Option Value) (mg mb : Str → Option Value) : Prop :=
  ∀ (dp un : Nat) (gd : Option (List Code)) (cn : Str) (cs : Scope) (a : Addr) (ccd : Value) (cl : List (Str × Addr)) (outer : List Env) (A₀ : Around) (base h₀ : Heap) (L : Addr) (m : Str → Option Value) (s : Shared) (Q E : Value → Shared → Prop) (news : List (Addr × Obj)) (x dx : Addr) (k : Nat) (od : Obj) (nw : List (Addr × Obj)) (l : Addr) (kl : Nat) (v0 v1 v2 v3 v4 v5 : Value),
    Below A₀ base outer h₀ → Fr h₀ L s.heap m → (hd.heap_1 w.params).In h₀ → News h₀ L s.heap news → Top pv lo mean mg mb h₀ → cs.kind = .function →
    dp + 1 < recursionLimit → un + 8 < cLine →
    (news = (x, ringObj dx #[] k) :: (dx, od) :: nw) →
    (RD od ∧ (∀ p ∈ nw, p.1 ≠ x) ∧ (∀ p ∈ nw, p.1 ≠ dx) ∧ @LT.lt Nat _ dx x) →
    ((l, listOf #[v0, v1, v2, v3, v4, v5] kl) ∈ nw) →
    (∀ h' tk k' od', RD od' → Fr h₀ L h' m → News h₀ L h' ((x, ringObj dx #[v0, v1, v2, v3, v4, v5] k') :: (dx, od') :: nw) → Q .none { s with heap := h', toks := tk }) →
      wpAny (model PySem.Challenge.rw_wo0025_01.row.prog w) (ktrTop dp un gd cn cs L a ccd cl outer) (call (.ref 111) [.ref x, .ref l]) Q E s
theorem reset (w : World) (pv : Program) (lo : List Str) (mean : ExcName → Option Value) (mg mb : Str → Option Value) : ResetClaim w pv lo mean mg mb := by
  w_top off
  k_with_none
  k_with "wpAt" => ((ks_step "attributeBase Call"; k_here; k_dflt (refine' ks_node ?F ?X ?N ?T ?hf ?hp ?hv ?I ?hcode ?hvs ?hfile ?hcell ?hD ?hsub ?hsuper ?hat ?hks ?hkc ?hka ?hk ?htop ?hboot ?_; (case F => k_asm); (case X => k_asm); (case N => k_asm); (case T => k_asm); (case hf => k_is); (case hp => rfl); (case hv => rfl); (case I => (refine' ring_instN ?Ia ?Ib ?Ic; (case Ia => k_asm); (case Ib => k_mem); (case Ic => k_mem))); (case hcode => k_is); (case hvs => rfl); (case hfile => first | rfl | decide +kernel); (case hcell => k_is); (case hD => k_is); (case hsub => k_is); (case hsuper => k_is); (case hat => decide); (case hks => rfl); (case hkc => rfl); (case hka => rfl); (case hk => rfl); (case htop => decide +kernel); (case hboot => first | boot_by_name | rfl | kernel_rfl); intro so' h' F' N' l1; (try k_lt l1); (try k_sweep))))
  k_with "getMethod ref" => ((k_here; k_dflt (refine' ring_meth ?rF ?rX ?rN ?rx ?rd ?rr ?rf ?rt ?ru ?rs ?_; (case rF => k_asm); (case rX => k_asm); (case rN => k_asm); (case rx => k_mem); (case rd => k_mem); (case rr => assumption); (case rf => k_is); (case rt => first | k_is | rfl); (case ru => decide); (case rs => (intro _ _ _; rfl)); k_whole)))
  k_with "call builtin:list.append" => ((k_here; (fail_if_success (fail_if_success with_reducible show wpAny _ _ (call (Value.builtin _) [Value.ref _, _]) _ _ _)); k_dflt (refine' ring_append ?rF ?rX ?rN ?rU ?rz ?_; (case rF => k_asm); (case rX => k_asm); (case rN => k_asm); (case rU => k_upd); (case rz => first | decide | size_fits | assumption); k_whole); intro h' F' N'; (try k_sweep)))
  k_with "getMethod ref" => ((k_here; k_dflt (first
  | (refine' ring_super (name := "pop") ?rF ?rX ?rN ?rs ?rx bnd_pop ?rf ?rn ?_; (case rF => k_asm); (case rX => k_asm); (case rN => k_asm); (case rs => k_mem); (case rx => k_mem); (case rf => kernel_rfl); (case rn => decide); k_whole)
  | (refine' ring_super (name := "__len__") ?rF ?rX ?rN ?rs ?rx bnd_len ?rf ?rn ?_; (case rF => k_asm); (case rX => k_asm); (case rN => k_asm); (case rs => k_mem); (case rx => k_mem); (case rf => kernel_rfl); (case rn => decide); k_whole)
  | (refine' ring_super (name := "__init__") ?rF ?rX ?rN ?rs ?rx bnd_init ?rf ?rn ?_; (case rF => k_asm); (case rX => k_asm); (case rN => k_asm); (case rs => k_mem); (case rx => k_mem); (case rf => kernel_rfl); (case rn => decide); k_whole)); intro q' h' F' N' l1; (try k_lt l1); (try k_sweep); (try dsimp only)))
  k_with "call ref" => ((k_here; (fail_if_success (fail_if_success with_reducible show wpAny _ _ (call (Value.ref _) []) _ _ _)); k_dflt (first
  | (refine' ring_callLen ?rN ?rq ?rx ?_; (case rN => k_asm); (case rq => k_mem); (case rx => k_mem); k_whole; intro t')
  | (refine' ring_callPop ?rF ?rX ?rN ?rq ?rU ?_; (case rF => k_asm); (case rX => k_asm); (case rN => k_asm); (case rq => k_mem); (case rU => k_upd); k_whole; intro h' F' N'; (try k_sweep))
  | (refine' ring_callInit ?rF ?rN ?rq ?rx ?_; (case rF => k_asm); (case rN => k_asm); (case rq => k_mem); (case rx => k_mem); k_whole; intro h' F' N'; (try k_sweep)))))
  k_with "setAttr ref" => ((k_here; k_dflt (refine' ring_store ?rF ?rX ?rN ?rx ?rU ?rr ?_; (case rF => k_asm); (case rX => k_asm); (case rN => k_asm); (case rx => k_mem); (case rU => k_updF); (case rr => assumption); k_whole); intro od' h' tk' rd' F' N'; (try dsimp only at N'); (try k_sweep)))
  k_with "subscriptTail Name Slice ref ref" => ((k_here; (fail_if_success (fail_if_success with_reducible show wpAny _ _ (subscriptTail _ (PySem.Expr.Slice _ _ none _) (Value.ref _) (Value.ref _)) _ _ _)); k_dflt (refine' ring_rest ?rF ?rX ?rN ?rx ?_ ?s ?t; (case rF => k_asm); (case rX => k_asm); (case rN => k_asm); (case rx => k_mem); (case s => with_unfolding_all rfl); (case t => kmk_pure)); intro D' h' F' N' l1; (try k_lt l1); (try k_sweep)))
  k_with "setItem ref ref" => ((k_here; k_dflt (first
  | (refine' ring_cut6 ?rF ?rX ?rN ?rl ?rU ?_; (case rF => k_asm); (case rX => k_asm); (case rN => k_asm); (case rl => k_mem); (case rU => k_upd))
  | (refine' ring_cut0 ?rF ?rX ?rN ?rl ?rU ?_; (case rF => k_asm); (case rX => k_asm); (case rN => k_asm); (case rl => first | k_mem | (refine List.Mem.tail _ (List.Mem.tail _ ?_); assumption)); (case rU => k_upd))); intro h' F' N'; (try k_sweep)))
  k_with "callWith ref" => ((k_here; (fail_if_success (fail_if_success with_reducible show wpAny _ _ (callWith _ (Value.ref _) [] (backTo _ (starEach [] _)) []) _ _ _)); k_dflt (refine' callWith_bnd ?rN ?rq ?rg ?_; (case rN => k_asm); (case rq => k_mem); (case rg => first | exact .inl rfl | exact .inr rfl))))
  delta ResetClaim
  k_fill
  intro dp un gd cn cs a ccd cl outer A₀ base h₀ L m s Q E news x dx k od nw l kl v0 v1 v2 v3 v4 v5 B F X N T hk hd hu hp hz hs hret
  obtain ⟨hz1, hz2, hz3, hz4⟩ := hz
  subst hp
  refine wpAny_call ?_
  k_dflt (refine' code_def ?k1 ?k2 ?k3 ?k4 ?k5 ?kA ?kF ?kK ?k6 ?k7 ?k8 ?k9 ?kB ?_ ?c2 ?c3 ?c4 ?c5; (case kA => exact rfl); (case kF => exact rfl); (case kK => assumption); (case k1 => k_asm); (case k2 => k_asm); (case k3 => k_asm); (case k4 => k_asm); (case k5 => k_asm); (case k6 => k_is); (case k7 => k_is); (case k8 => ktr_room); (case k9 => exact binds_K (by k_in) rfl (by k_is) rfl rfl rfl); (case c5 => decide); (case kB => exact locs rfl); (case c2 => exact rfl); (case c3 => exact rfl); (case c4 => exact rfl); k_whole; intro g' L' h' FG' F' N' B' X' T'; (try dsimp only); (try k_lift B'); (try k_fold))
  k_steps
  all_goals ((rename Fr h₀ L _ m => F1); (rename News h₀ L _ _ => N1); (rename RD _ => r1); exact hret _ _ _ _ r1 F1 N1)
end Mine
end
section
open PySem PySem.Spec PySem.Calls PySem.W PyProof.Rows PySem.Flt
set_option maxRecDepth 100000
set_option maxHeartbeats 8000000
namespace Mine
abbrev PushClaim (w : World) (pv : Program) (lo : List Str) (mean : ExcName → Option Value) (mg mb : Str → Option Value) : Prop :=
  ∀ (dp un : Nat) (gd : Option (List Code)) (cn : Str) (cs : Scope) (a : Addr) (ccd : Value) (cl : List (Str × Addr)) (outer : List Env) (A₀ : Around) (base h₀ : Heap) (L : Addr) (m : Str → Option Value) (s : Shared) (Q E : Value → Shared → Prop) (news : List (Addr × Obj)) (x dx : Addr) (k : Nat) (od : Obj) (nw : List (Addr × Obj)) (xs : Array Value) (f g : Str) (t1 t2 : Tok),
    Below A₀ base outer h₀ → Fr h₀ L s.heap m → (hd.heap_1 w.params).In h₀ → News h₀ L s.heap news → Top pv lo mean mg mb h₀ → cs.kind = .function →
    dp + 1 < recursionLimit → un + 8 < cLine →
    (news = (x, ringObj dx xs k) :: (dx, od) :: nw) →
    (RD od ∧ (∀ p ∈ nw, p.1 ≠ x) ∧ (∀ p ∈ nw, p.1 ≠ dx) ∧ @LT.lt Nat _ dx x) →
    (xs.size ≤ sizeLine) →
    (∀ T h' tk, Fr h₀ L h' m → News h₀ L h' ((T, { cls := .type "tuple", data := .seq #[.str f t1, .str g t2] }) :: (x, ringObj dx (xs.push (.ref T)) (k + 1)) :: (dx, od) :: nw) → (∀ p ∈ news, p.1 < T) → Q .none { s with heap := h', toks := tk }) →
      wpAny (model PySem.Challenge.rw_wo0025_01.row.prog w) (ktrTop dp un gd cn cs L a ccd cl outer) (call (.ref 73) [.ref x, .str f t1, .str g t2]) Q E s
theorem push (w : World) (pv : Program) (lo : List Str) (mean : ExcName → Option Value) (mg mb : Str → Option Value) : PushClaim w pv lo mean mg mb := by
  w_top off
  k_with_none
  k_with "getMethod ref" => ((k_here; k_dflt (refine' ring_meth ?rF ?rX ?rN ?rx ?rd ?rr ?rf ?rt ?ru ?rs ?_; (case rF => k_asm); (case rX => k_asm); (case rN => k_asm); (case rx => k_mem); (case rd => k_mem); (case rr => assumption); (case rf => k_is); (case rt => first | k_is | rfl); (case ru => decide); (case rs => (intro _ _ _; rfl)); k_whole)))
  k_with "call builtin:list.append" => ((k_here; (fail_if_success (fail_if_success with_reducible show wpAny _ _ (call (Value.builtin _) [Value.ref _, _]) _ _ _)); k_dflt (refine' ring_append ?rF ?rX ?rN ?rU ?rz ?_; (case rF => k_asm); (case rX => k_asm); (case rN => k_asm); (case rU => k_upd); (case rz => first | decide | size_fits | assumption); k_whole); intro h' F' N'; (try k_sweep)))
  k_with "getMethod ref" => ((k_here; k_dflt (first
  | (refine' ring_super (name := "pop") ?rF ?rX ?rN ?rs ?rx bnd_pop ?rf ?rn ?_; (case rF => k_asm); (case rX => k_asm); (case rN => k_asm); (case rs => k_mem); (case rx => k_mem); (case rf => kernel_rfl); (case rn => decide); k_whole)
  | (refine' ring_super (name := "__len__") ?rF ?rX ?rN ?rs ?rx bnd_len ?rf ?rn ?_; (case rF => k_asm); (case rX => k_asm); (case rN => k_asm); (case rs => k_mem); (case rx => k_mem); (case rf => kernel_rfl); (case rn => decide); k_whole)
  | (refine' ring_super (name := "__init__") ?rF ?rX ?rN ?rs ?rx bnd_init ?rf ?rn ?_; (case rF => k_asm); (case rX => k_asm); (case rN => k_asm); (case rs => k_mem); (case rx => k_mem); (case rf => kernel_rfl); (case rn => decide); k_whole)); intro q' h' F' N' l1; (try k_lt l1); (try k_sweep)))
  k_with "call ref" => ((k_here; (fail_if_success (fail_if_success with_reducible show wpAny _ _ (call (Value.ref _) []) _ _ _)); k_dflt (first
  | (refine' ring_callLen ?rN ?rq ?rx ?_; (case rN => k_asm); (case rq => k_mem); (case rx => k_mem); k_whole; intro t')
  | (refine' ring_callPop ?rF ?rX ?rN ?rq ?rU ?_; (case rF => k_asm); (case rX => k_asm); (case rN => k_asm); (case rq => k_mem); (case rU => k_upd); k_whole; intro h' F' N'; (try k_sweep))
  | (refine' ring_callInit ?rF ?rN ?rq ?rx ?_; (case rF => k_asm); (case rN => k_asm); (case rq => k_mem); (case rx => k_mem); k_whole; intro h' F' N'; (try k_sweep)))))
  k_with "setAttr ref" => ((k_here; k_dflt (refine' ring_store ?rF ?rX ?rN ?rx ?rU ?rr ?_; (case rF => k_asm); (case rX => k_asm); (case rN => k_asm); (case rx => k_mem); (case rU => k_updF); (case rr => assumption); k_whole); intro od' h' tk' rd' F' N'; (try dsimp only at N'); (try k_sweep)))
  k_with "subscriptTail Name Slice ref ref" => ((k_here; (fail_if_success (fail_if_success with_reducible show wpAny _ _ (subscriptTail _ (PySem.Expr.Slice _ _ none _) (Value.ref _) (Value.ref _)) _ _ _)); k_dflt (refine' ring_slice ?rF ?rX ?rN ?rx ?p ?q ?e ?_ ?s ?t ?z; (case rF => k_asm); (case rX => k_asm); (case rN => k_asm); (case rx => k_mem); (case p => kmk_part); (case q => kmk_part); (case e => rfl); (case s => with_unfolding_all rfl); (case t => kmk_pure); (case z => first | decide | kmk_size)); intro D' h' F' N' l1; (try k_lt l1); (try k_sweep)))
  delta PushClaim
  k_fill
  intro dp un gd cn cs a ccd cl outer A₀ base h₀ L m s Q E news x dx k od nw xs f g t1 t2 B F X N T hk hd hu hp hz hs hret
  obtain ⟨hz1, hz2, hz3, hz4⟩ := hz
  subst hp
  refine wpAny_call ?_
  k_dflt cell_enter
  k_steps
  all_goals exact hret _ _ _ (by k_asm) (by k_asm) (allLt_all (by assumption))
end Mine
end
section
open PySem PySem.Spec PySem.Calls PySem.W PyProof.Rows PySem.Flt
set_option maxRecDepth 100000
set_option maxHeartbeats 8000000
namespace Mine
theorem pop_use {w : World} {pv : Program} {lo : List Str} {mean : ExcName → Option Value} {mg mb : Str → Option Value} {dp un : Nat} {gd : Option (List Code)} {cn : Str} {cs : Scope} {a : Addr} {ccd : Value} {cl : List (Str × Addr)} {outer : List Env} {A₀ : Around} {base h₀ : Heap} {L : Addr} {m : Str → Option Value} {s : Shared} {Q E : Value → Shared → Prop} {news : List (Addr × Obj)} {x dx : Addr} {k : Nat} {od : Obj} {nw : List (Addr × Obj)} {v : Value}
    (B : Below A₀ base outer h₀) (F : Fr h₀ L s.heap m) (X : (hd.heap_1 w.params).In h₀) (N : News h₀ L s.heap news) (T : Top pv lo mean mg mb h₀) (hk : cs.kind = .function)
    (hd : dp + 2 < recursionLimit) (hu : un + 16 < cLine)
    (hz0 : news = (x, ringObj dx #[v] k) :: (dx, od) :: nw)
    (hz1 : RD od ∧ (∀ p ∈ nw, p.1 ≠ x) ∧ (∀ p ∈ nw, p.1 ≠ dx) ∧ @LT.lt Nat _ dx x)
    (hret : ∀ h' tk, Fr h₀ L h' m → News h₀ L h' ((x, ringObj dx #[] (k + 1)) :: (dx, od) :: nw) → Q v { s with heap := h', toks := tk }) :
    wpAny (model PySem.Challenge.rw_wo0025_01.row.prog w) (ktrTop dp un gd cn cs L a ccd cl outer) (call (.ref 89) [.ref x]) Q E s :=
  pop w pv lo mean mg mb _ _ _ _ _ _ _ _ _ _ _ _ _ _ _ _ _ _ _ _ _ _ _ _  B F X N T hk hd hu hz0 hz1 hret
theorem popfrom_use {w : World} {pv : Program} {lo : List Str} {mean : ExcName → Option Value} {mg mb : Str → Option Value} {dp un : Nat} {gd : Option (List Code)} {cn : Str} {cs : Scope} {a : Addr} {ccd : Value} {cl : List (Str × Addr)} {outer : List Env} {A₀ : Around} {base h₀ : Heap} {L : Addr} {m : Str → Option Value} {s : Shared} {Q E : Value → Shared → Prop} {news : List (Addr × Obj)} {x dx : Addr} {k : Nat} {od : Obj} {nw : List (Addr × Obj)} {v0 v1 v2 v3 v4 v5 : Value} {t1 : Tok}
    (B : Below A₀ base outer h₀) (F : Fr h₀ L s.heap m) (X : (hd.heap_1 w.params).In h₀) (N : News h₀ L s.heap news) (T : Top pv lo mean mg mb h₀) (hk : cs.kind = .function)
    (hd : dp + 1 < recursionLimit) (hu : un + 8 < cLine)
    (hz0 : news = (x, ringObj dx #[v0, v1, v2, v3, v4, v5] k) :: (dx, od) :: nw)
    (hz1 : RD od ∧ (∀ p ∈ nw, p.1 ≠ x) ∧ (∀ p ∈ nw, p.1 ≠ dx) ∧ @LT.lt Nat _ dx x)
    (hret : ∀ D h' tk k' kl, Fr h₀ L h' m → News h₀ L h' ((D, listOf #[v1, v2, v3, v4, v5] kl) :: (x, ringObj dx #[v0] k') :: (dx, od) :: nw) → (∀ p ∈ news, p.1 < D) → Q (.ref D) { s with heap := h', toks := tk }) :
    wpAny (model PySem.Challenge.rw_wo0025_01.row.prog w) (ktrTop dp un gd cn cs L a ccd cl outer) (call (.ref 81) [.ref x, .int 1 t1]) Q E s :=
  popfrom w pv lo mean mg mb _ _ _ _ _ _ _ _ _ _ _ _ _ _ _ _ _ _ _ _ _ _ _ _ _ _ _ _ _ _  B F X N T hk hd hu hz0 hz1 hret
theorem reset_use {w : World} {pv : Program} {lo : List Str} {mean : ExcName → Option Value} {mg mb : Str → Option Value} {dp un : Nat} {gd : Option (List Code)} {cn : Str} {cs : Scope} {a : Addr} {ccd : Value} {cl : List (Str × Addr)} {outer : List Env} {A₀ : Around} {base h₀ : Heap} {L : Addr} {m : Str → Option Value} {s : Shared} {Q E : Value → Shared → Prop} {news : List (Addr × Obj)} {x dx : Addr} {k : Nat} {od : Obj} {nw : List (Addr × Obj)} {l : Addr} {kl : Nat} {v0 v1 v2 v3 v4 v5 : Value}
    (B : Below A₀ base outer h₀) (F : Fr h₀ L s.heap m) (X : (hd.heap_1 w.params).In h₀) (N : News h₀ L s.heap news) (T : Top pv lo mean mg mb h₀) (hk : cs.kind = .function)
    (hd : dp + 1 < recursionLimit) (hu : un + 8 < cLine)
    (hz0 : news = (x, ringObj dx #[] k) :: (dx, od) :: nw)
    (hz1 : RD od ∧ (∀ p ∈ nw, p.1 ≠ x) ∧ (∀ p ∈ nw, p.1 ≠ dx) ∧ @LT.lt Nat _ dx x)
    (hz2 : (l, listOf #[v0, v1, v2, v3, v4, v5] kl) ∈ nw)
    (hret : ∀ h' tk k' od', RD od' → Fr h₀ L h' m → News h₀ L h' ((x, ringObj dx #[v0, v1, v2, v3, v4, v5] k') :: (dx, od') :: nw) → Q .none { s with heap := h', toks := tk }) :
    wpAny (model PySem.Challenge.rw_wo0025_01.row.prog w) (ktrTop dp un gd cn cs L a ccd cl outer) (call (.ref 111) [.ref x, .ref l]) Q E s :=
  reset w pv lo mean mg mb _ _ _ _ _ _ _ _ _ _ _ _ _ _ _ _ _ _ _ _ _ _ _ _ _ _ _ _ _ _ _  B F X N T hk hd hu hz0 hz1 hz2 hret
theorem dstr_use {w : World} {pv : Program} {lo : List Str} {mean : ExcName → Option Value} {mg mb : Str → Option Value} {dp un : Nat} {gd : Option (List Code)} {cn : Str} {cs : Scope} {a : Addr} {ccd : Value} {cl : List (Str × Addr)} {outer : List Env} {A₀ : Around} {base h₀ : Heap} {L : Addr} {m : Str → Option Value} {s : Shared} {Q E : Value → Shared → Prop} {news : List (Addr × Obj)} {x dx : Addr} {k : Nat} {od : Obj} {nw : List (Addr × Obj)} {its : List Piece} {ps : Array Value}
    (B : Below A₀ base outer h₀) (F : Fr h₀ L s.heap m) (X : (hd.heap_1 w.params).In h₀) (N : News h₀ L s.heap news) (T : Top pv lo mean mg mb h₀) (hk : cs.kind = .function)
    (hd : dp + 1 < recursionLimit) (hu : un + 8 < cLine)
    (hz0 : news = (98, tabOf ps) :: (x, ringObj dx (piecesOf its) k) :: (dx, od) :: nw)
    (hz1 : TriplesOk ps.toList ∧ x ≠ 98 ∧ dx ≠ 98 ∧ (∀ p ∈ nw, p.1 ≠ 98) ∧ its.length ≤ 1000 ∧ ∀ p ∈ its, (p.1, pieceObj p) ∈ nw)
    (hret : ∀ h' g' tk t ps', TriplesOk ps'.toList → Bare2 s.gens g' → Fr h₀ L h' m → News h₀ L h' ((98, tabOf ps') :: (x, ringObj dx (piecesOf its) k) :: (dx, od) :: nw) → Q (.str (textOf its) t) { s with heap := h', gens := g', toks := tk }) :
    wpAny (model PySem.Challenge.rw_wo0025_01.row.prog w) (ktrTop dp un gd cn cs L a ccd cl outer) (call (.ref 103) [.ref x]) Q E s :=
  dstr w pv lo mean mg mb _ _ _ _ _ _ _ _ _ _ _ _ _ _ _ _ _ _ _ _ _ _ _ _ _  B F X N T hk hd hu hz0 hz1 hret
theorem addc_use {w : World} {pv : Program} {lo : List Str} {mean : ExcName → Option Value} {mg mb : Str → Option Value} {dp un : Nat} {gd : Option (List Code)} {cn : Str} {cs : Scope} {a : Addr} {ccd : Value} {cl : List (Str × Addr)} {outer : List Env} {A₀ : Around} {base h₀ : Heap} {L : Addr} {m : Str → Option Value} {s : Shared} {Q E : Value → Shared → Prop} {news : List (Addr × Obj)} {d1 d2 : Addr} {la lb : List (Str × P3)} {ps : Array Value} {nw : List (Addr × Obj)}
    (B : Below A₀ base outer h₀) (F : Fr h₀ L s.heap m) (X : (hd.heap_1 w.params).In h₀) (N : News h₀ L s.heap news) (T : Top pv lo mean mg mb h₀) (hk : cs.kind = .function)
    (hd : dp + 2 < recursionLimit) (hu : un + 16 < cLine)
    (hz0 : news = (23, tabOf ps) :: nw)
    (hz1 : TriplesOk ps.toList ∧ (∀ p ∈ nw, p.1 ≠ 23))
    (hz2 : PaintDict PySem.Challenge.rw_wo0025_01.row.prog w nw d1 la)
    (hz3 : PaintDict PySem.Challenge.rw_wo0025_01.row.prog w nw d2 lb)
    (hz4 : la.map (·.1) = lb.map (·.1) ∧ (la.map (·.1)).Nodup ∧ la.length ≤ 1000)
    (hret : ∀ D h' g' tk ps' nw', TriplesOk ps'.toList → Bare2 s.gens g' → Fr h₀ L h' m → News h₀ L h' ((23, tabOf ps') :: nw') → (∀ p ∈ nw', p.1 ≠ 23) → Sub nw nw' → (∀ p ∈ nw, p.1 < D) → PaintDict PySem.Challenge.rw_wo0025_01.row.prog w nw' D (List.zipWith (fun a b => (a.1, add3 b.2 a.2)) la lb) → Q (.ref D) { s with heap := h', gens := g', toks := tk }) :
    wpAny (model PySem.Challenge.rw_wo0025_01.row.prog w) (ktrTop dp un gd cn cs L a ccd cl outer) (call (.ref 28) [.ref d1, .ref d2]) Q E s :=
  addc w pv lo mean mg mb _ _ _ _ _ _ _ _ _ _ _ _ _ _ _ _ _ _ _ _ _ _ _ _  B F X N T hk hd hu hz0 hz1 hz2 hz3 hz4 hret
theorem turn_use {w : World} {pv : Program} {lo : List Str} {mean : ExcName → Option Value} {mg mb : Str → Option Value} {dp un : Nat} {gd : Option (List Code)} {cn : Str} {cs : Scope} {a : Addr} {ccd : Value} {cl : List (Str × Addr)} {outer : List Env} {A₀ : Around} {base h₀ : Heap} {L : Addr} {m : Str → Option Value} {s : Shared} {Q E : Value → Shared → Prop} {news : List (Addr × Obj)} {p : Addr} {r g b n x y z : Int} {t1 t2 t3 tn : Tok}
    (B : Below A₀ base outer h₀) (F : Fr h₀ L s.heap m) (X : (hd.heap_1 w.params).In h₀) (N : News h₀ L s.heap news) (T : Top pv lo mean mg mb h₀) (hk : cs.kind = .function)
    (hd : dp + 2 < recursionLimit) (hu : un + 16 < cLine)
    (hz0 : (p, { cls := .type "tuple", data := .seq #[.int r t1, .int g t2, .int b t3] }) ∈ news)
    (hz1 : r.natAbs < 2 ^ 64 ∧ g.natAbs < 2 ^ 64 ∧ b.natAbs < 2 ^ 64 ∧ n.natAbs < 2 ^ 64)
    (hz2 : TurnOk r g b n x y z)
    (hret : ∀ D h' tk t1 t2 t3, Fr h₀ L h' m → News h₀ L h' ((D, { cls := .type "tuple", data := .seq #[.int x t1, .int y t2, .int z t3] }) :: news) → (∀ p ∈ news, p.1 < D) → Q (.ref D) { s with heap := h', toks := tk }) :
    wpAny (model PySem.Challenge.rw_wo0025_01.row.prog w) (ktrTop dp un gd cn cs L a ccd cl outer) (call (.ref 138) [.ref p, .int n tn]) Q E s :=
  turn w pv lo mean mg mb _ _ _ _ _ _ _ _ _ _ _ _ _ _ _ _ _ _ _ _ _ _ _ _ _ _ _ _ _ _  B F X N T hk hd hu hz0 hz1 hz2 hret
abbrev RoundClaim (w : World) (pv : Program) (lo : List Str) (mean : ExcName → Option Value) (mg mb : Str → Option Value) : Prop :=
  ∀ (dp un : Nat) (gd : Option (List Code)) (cn : Str) (cs : Scope) (a : Addr) (ccd : Value) (cl : List (Str × Addr)) (outer : List Env) (A₀ : Around) (base h₀ : Heap) (L : Addr) (m : Str → Option Value) (s : Shared) (Q E : Value → Shared → Prop) (news : List (Addr × Obj)) (x dx : Addr) (k : Nat) (od : Obj) (ps qs : Array Value) (nw : List (Addr × Obj)) (p0 p1 p2 p3 p4 p5 : Piece) (D : Addr) (l : List (Str × P3)) (n : Int) (tn : Tok) (q0 q1 q2 q3 q4 q5 z0 z1 z2 z3 z4 z5 : P3),
    Below A₀ base outer h₀ → Fr h₀ L s.heap m → (hd.heap_1 w.params).In h₀ → News h₀ L s.heap news → Top pv lo mean mg mb h₀ → cs.kind = .function →
    dp + 4 < recursionLimit → un + 32 < cLine →
    (news = (98, tabOf ps) :: (23, tabOf qs) :: (x, ringObj dx (piecesOf [p0, p1, p2, p3, p4, p5]) k) :: (dx, od) :: nw) →
    (TriplesOk ps.toList ∧ TriplesOk qs.toList ∧ RD od ∧ @LT.lt Nat _ dx x ∧ @LT.lt Nat _ 98 dx ∧ (∀ p ∈ nw, p.1 ≠ 98) ∧ (∀ p ∈ nw, p.1 ≠ 23) ∧ (∀ p ∈ nw, p.1 ≠ x) ∧ (∀ p ∈ nw, p.1 ≠ dx)) →
    ((p0.1, pieceObj p0) ∈ nw ∧ (p1.1, pieceObj p1) ∈ nw ∧ (p2.1, pieceObj p2) ∈ nw ∧ (p3.1, pieceObj p3) ∈ nw ∧ (p4.1, pieceObj p4) ∈ nw ∧ (p5.1, pieceObj p5) ∈ nw) →
    (PaintDict PySem.Challenge.rw_wo0025_01.row.prog w nw D l ∧ l.lookup ⟨#[p0.2.2.2]⟩ = some q0 ∧ l.lookup ⟨#[p1.2.2.2]⟩ = some q1 ∧ l.lookup ⟨#[p2.2.2.2]⟩ = some q2 ∧ l.lookup ⟨#[p3.2.2.2]⟩ = some q3 ∧ l.lookup ⟨#[p4.2.2.2]⟩ = some q4 ∧ l.lookup ⟨#[p5.2.2.2]⟩ = some q5) →
    ([p0.2.2.2, p1.2.2.2, p2.2.2.2, p3.2.2.2, p4.2.2.2, p5.2.2.2].Nodup) →
    (n.natAbs < 2 ^ 64 ∧ (q0.1.natAbs < 2 ^ 64 ∧ q0.2.1.natAbs < 2 ^ 64 ∧ q0.2.2.natAbs < 2 ^ 64) ∧ (q1.1.natAbs < 2 ^ 64 ∧ q1.2.1.natAbs < 2 ^ 64 ∧ q1.2.2.natAbs < 2 ^ 64) ∧ (q2.1.natAbs < 2 ^ 64 ∧ q2.2.1.natAbs < 2 ^ 64 ∧ q2.2.2.natAbs < 2 ^ 64) ∧ (q3.1.natAbs < 2 ^ 64 ∧ q3.2.1.natAbs < 2 ^ 64 ∧ q3.2.2.natAbs < 2 ^ 64) ∧ (q4.1.natAbs < 2 ^ 64 ∧ q4.2.1.natAbs < 2 ^ 64 ∧ q4.2.2.natAbs < 2 ^ 64) ∧ (q5.1.natAbs < 2 ^ 64 ∧ q5.2.1.natAbs < 2 ^ 64 ∧ q5.2.2.natAbs < 2 ^ 64)) →
    (TurnOk q0.1 q0.2.1 q0.2.2 n z0.1 z0.2.1 z0.2.2 ∧ TurnOk q1.1 q1.2.1 q1.2.2 n z1.1 z1.2.1 z1.2.2 ∧ TurnOk q2.1 q2.2.1 q2.2.2 n z2.1 z2.2.1 z2.2.2 ∧ TurnOk q3.1 q3.2.1 q3.2.2 n z3.1 z3.2.1 z3.2.2 ∧ TurnOk q4.1 q4.2.1 q4.2.2 n z4.1 z4.2.1 z4.2.2 ∧ TurnOk q5.1 q5.2.1 q5.2.2 n z5.1 z5.2.1 z5.2.2) →
    (∀ D' h' g' tk ps' qs' k' od' nw', TriplesOk ps'.toList → TriplesOk qs'.toList → RD od' → Bare2 s.gens g' → Fr h₀ L h' m → News h₀ L h' ((98, tabOf ps') :: (23, tabOf qs') :: (x, ringObj dx (piecesOf [p1, p2, p3, p4, p5, p0]) k') :: (dx, od') :: nw') → (∀ p ∈ nw', p.1 ≠ 98) → (∀ p ∈ nw', p.1 ≠ 23) → (∀ p ∈ nw', p.1 ≠ x) → (∀ p ∈ nw', p.1 ≠ dx) → Sub nw nw' → PaintDict PySem.Challenge.rw_wo0025_01.row.prog w nw' D' [(⟨#[p0.2.2.2]⟩, add3 z0 q1), (⟨#[p1.2.2.2]⟩, add3 z1 q2), (⟨#[p2.2.2.2]⟩, add3 z2 q3), (⟨#[p3.2.2.2]⟩, add3 z3 q4), (⟨#[p4.2.2.2]⟩, add3 z4 q5), (⟨#[p5.2.2.2]⟩, add3 z5 q0)] → Q (.ref D') { s with heap := h', gens := g', toks := tk }) →
      wpAny (model PySem.Challenge.rw_wo0025_01.row.prog w) (ktrTop dp un gd cn cs L a ccd cl outer) (call (.ref 143) [.ref x, .ref D, .int n tn]) Q E s
theorem six_all {α : Type} {P : α → Prop} {a b c d e f : α} (h0 : P a) (h1 : P b) (h2 : P c) (h3 : P d) (h4 : P e) (h5 : P f) : ∀ p ∈ [a, b, c, d, e, f], P p := by
  intro p hp
  simp only [List.mem_cons, List.not_mem_nil, or_false] at hp
  rcases hp with rfl | rfl | rfl | rfl | rfl | rfl <;> assumption
theorem ne1 {a L : Nat} (h : a < L) : L + 1 ≠ a := by omega
theorem ne2 {a L : Nat} (h : a < L) : L + 1 + 1 ≠ a := by omega
theorem paint_at {nw : List (Addr × Obj)} {k : Str} {q : P3} {G : Prop} {rs : List Rw} (hp : ∀ r ∈ rs, HasPaint nw r.2.1 r.2.2) (h : (lawOf rs).lookup k = some q)
    (go : ∀ a t0 t1 t2, valueAt (kvsOf rs) k = some (.ref a) → (a, ({ cls := .type "tuple", data := .seq #[.int q.1 t0, .int q.2.1 t1, .int q.2.2 t2] } : Obj)) ∈ nw → G) : G :=
  let ⟨a, v, t0, t1, t2, y⟩ := paint_look rs hp h
  go a t0 t1 t2 v y
theorem round (w : World) (pv : Program) (lo : List Str) (mean : ExcName → Option Value) (mg mb : Str → Option Value) : RoundClaim w pv lo mean mg mb := by
  w_top off
  k_with_none
  k_with "eval ListComp" => ((k_here; k_dflt (refine ListComp_F (by k_asm) (by with_unfolding_all rfl) (by decide) (by rfl) (by decide) ?_ (by intro _; rfl))))
  k_with "exec Assign cons ListComp" => ((k_here; k_dflt (refine Assign_ListComp_F (by k_asm) (by rfl) (by with_unfolding_all rfl) (by with_unfolding_all rfl) (by decide) (by rfl) (by decide) (by rfl) (by rfl) ?_ (by intro _; rfl))))
  k_with "eval DictComp" => ((k_here; k_dflt (refine DictComp_F (by k_asm) (by rfl) (by decide) (by with_unfolding_all rfl) (by decide) (by rfl) (by decide) ?_ (by intro _; rfl))))
  k_with "exec Assign cons DictComp" => ((k_here; k_dflt (refine Assign_DictComp_F (by k_asm) (by rfl) (by with_unfolding_all rfl) (by rfl) (by decide) (by with_unfolding_all rfl) (by decide) (by rfl) (by decide) (by rfl) (by rfl) ?_ (by intro _; rfl))))
  k_with "pyIter ref" => ((k_here; (fail_if_success (fail_if_success with_reducible show wpAny _ _ (pyIter (Value.ref _)) (LSrc _ _ _ _ _ _ _ _ _ _ _ _) _ _)); k_dflt (first
  | refine lsrc_tup (by rfl) (by k_asm) (by k_asm) (by k_mem) (by rfl) (by rfl) (by first | (rw [sizeLine_eq]; exact Nat.le_of_ble_eq_true rfl) | size_fits) ?_
  | refine lsrc_list (by rfl) (by k_asm) (by k_asm) (by k_mem) (by rfl) (by rfl) (by first | (rw [sizeLine_eq]; exact Nat.le_of_ble_eq_true rfl) | size_fits) ?_); intro g' tk'))
  k_with "pyIter str" => ((k_here; k_dflt (first
  | ((with_reducible show wpAny _ _ (pyIter (Value.str _ _)) (LSrc _ _ _ _ _ _ _ _ _ _ _ _) _ _); refine lsrc_str (by rfl) (by k_asm) (by k_asm) (by rfl) (by rfl) (by first | (rw [sizeLine_eq]; exact Nat.le_of_ble_eq_true rfl) | size_fits) ?_)
  | ((with_reducible show wpAny _ _ (pyIter (Value.str _ _)) (DSrc _ _ _ _ _ _ _ _ _ _ _ _ _) _ _); refine dsrc_str (by rfl) (by k_asm) (by k_asm) (by rfl) (by rfl) (by first | (rw [sizeLine_eq]; exact Nat.le_of_ble_eq_true rfl) | size_fits) ?_)); intro g' tk'))
  k_with "LTurns" => (with_unfolding_all (refine LT.intro ?_; intro T9 nil9 cons9))
  k_with "LT" => (with_unfolding_all (first
  | (refine nil9 _ _ ?_)
  | (refine cons9 _ _ _ _ ?_; intro t9' u9' C' oC' mC' D' h' tk' nw' E' hns' hb' F' N' hC' hD' hsub'; (first | replace hb' := bound_one hb' | (have hb1' := (bound_two hb').1; have hb2' := (bound_two hb').2; clear hb')); (try k_sweep))))
  k_with "DTurns" => (with_unfolding_all (refine DT.intro ?_; intro T9 nil9 cons9))
  k_with "DT" => (with_unfolding_all (first
  | (refine nil9 _ _ ?_)
  | (refine cons9 _ _ _ _ _ ?_; intro t9' u9' C' oC' mC' D' oD' h' tk' nw' E' hns' hb' F' N' hC' hD' hdict' hsub'; (first | replace hb' := bound_one hb' | (have hb1' := (bound_two hb').1; have hb2' := (bound_two hb').2; clear hb')); (try k_sweep))))
  k_with "EltEnd" => ((k_dflt (first | refine LT.none (by k_asm) (by k_asm) ?_ | refine DT.none (by k_asm) (by k_asm) ?_ | refine LT.one (by k_asm) (by k_asm) (by k_asm) ?_ | refine DT.one (by k_asm) (by k_asm) (by k_asm) ?_ | refine LT.drop (by k_asm) (by k_asm) ?_ | refine DT.drop (by k_asm) (by k_asm) ?_)); (try (rename Sub _ _ => H; clear H)); (try (rename Obj.IsDictOf _ _ (stored _ _ _) => H; clear H)); (try (rename LCg.NsObj _ _ => H; clear H)); (try (rename (_ : Addr × Obj) ∈ (_ : List (Addr × Obj)) => H; clear H)); (try (rename (_ : Addr × Obj) ∈ (_ : List (Addr × Obj)) => H; clear H)); (try (rename InElt _ _ => H; clear H)); (try (rename ∀ p : Str × Value, p ∈ _ → _ = some _ => H; clear H)); (try k_sweep); (repeat (rename Value → Shared → Prop => H; clear H)))
  k_with "LFinE" => (((unfold LFinE); intro D' h' tk' F' N' o1'; (try simp only [List.nil_append, List.cons_append] at N' o1'); (try dsimp only)))
  k_with "LFinA" => (((unfold LFinA); intro D' h' tk' F' N' o1'; (try simp only [List.nil_append, List.cons_append] at N' o1'); (try dsimp only)))
  k_with "DFinE" => (((unfold DFinE); intro D' oD' h' tk' F' N' d1' lD' o1'; (replace d1' := KeepD.intro d1'); (try simp only [List.nil_append, List.cons_append] at N' o1'); (try dsimp only)))
  k_with "DFinA" => (((unfold DFinA); intro D' oD' h' tk' F' N' d1' lD' o1'; (replace d1' := KeepD.intro d1'); (try simp only [List.nil_append, List.cons_append] at N' o1'); (try dsimp only)))
  k_with "pyIter ref" => ((k_here; (fail_if_success (fail_if_success with_reducible show wpAny _ _ (pyIter (Value.ref _)) (LSrc _ _ _ _ _ _ _ _ (Expr.Tuple [_, _] _ _) _ _ _) _ _)); k_dflt (refine lsrc_pairs (by rfl) (by k_asm) (by k_asm) (by k_mem) (by repeat (first | exact Tups.nil | (apply Tups.cons; k_mem))) (by rfl) (by rfl) (by rfl) (by decide) (by first | (rw [sizeLine_eq]; exact Nat.le_of_ble_eq_true rfl) | size_fits) ?_); intro g' tk'))
  k_with "call builtin:sum" => ((k_here; (fail_if_success (fail_if_success with_reducible show wpAny _ _ (call (Value.builtin "sum") [Value.ref _]) _ _ _)); k_dflt (refine' sum_lst ?k0 ?k1 ?k2 ?k3 ?k4 ?_; (case k0 => rfl); (case k1 => k_asm); (case k2 => k_asm); (case k3 => k_mem); (case k4 => first | l_ints | l_intsW); k_whole); intro h' tk' t' F' N'; (try simp only [List.sum_cons, List.sum_nil])))
  k_with "getMethod ref" => ((k_here; k_dflt (refine' ring_meth ?rF ?rX ?rN ?rx ?rd ?rr ?rf ?rt ?ru ?rs ?_; (case rF => k_asm); (case rX => k_asm); (case rN => k_asm); (case rx => k_mem); (case rd => k_mem); (case rr => assumption); (case rf => k_is); (case rt => first | k_is | rfl); (case ru => decide); (case rs => (intro _ _ _; rfl)); k_whole)))
  k_with "getMethod ref" => ((k_here; (fail_if_success (fail_if_success with_reducible show wpAny _ _ (getMethod (Value.ref _) (PySem.Str.ofString "append") _) _ _ _)); k_dflt (refine' listMethod_K ?N ?m PySem.F.slot_list_append PySem.F.type_list_append ?_; (case N => k_asm); (case m => k_mem))))
  k_with "eval Name" => ((k_here; (fail_if_success (fail_if_success with_reducible show wpAny _ _ (eval (Expr.Name _ _) (compEnvC _ _ _ _)) _ _ _)); k_dflt (first
  | (refine' lcf_cell ?N ?c ?m ?d ?_ ?a ?b; (case a => rfl); (case b => rfl); (case N => k_asm); (case c => rfl); (case m => k_mem); (case d => k_asm); k_whole)
  | (refine' lcf_free ?N ?c ?m ?d ?_ ?a ?b; (case a => rfl); (case b => rfl); (case N => k_asm); (case c => rfl); (case m => k_mem); (case d => k_asm); k_whole))))
  k_with "call type:str" => ((k_here; (fail_if_success (fail_if_success with_reducible show wpAny _ _ (call (Value.type "str") [Value.ref _]) _ _ _)); k_dflt (refine' kso_call (C := 129) ?k1 ?k2 ?k3 ?k4 ?k5 ?_; (case k1 => ktr_units); (case k2 => k_in); (case k3 => (refine' ring_instN ?Ia ?Ib ?Ic; (case Ia => k_asm); (case Ib => k_mem); (case Ic => k_mem))); (case k4 => k_is); (case k5 => k_is); k_whole)))
  k_with "call ref" => (((fail_if_success (fail_if_success k_dflt (show wpAny _ _ (call (Value.ref 103) _) _ _ _))); refine Stop.out ?_))
  k_with "call ref" => (((fail_if_success (fail_if_success k_dflt (show wpAny _ _ (call (Value.ref 81) _) _ _ _))); refine Stop.out ?_))
  k_with "call ref" => (((fail_if_success (fail_if_success k_dflt (show wpAny _ _ (call (Value.ref 89) _) _ _ _))); refine Stop.out ?_))
  k_with "call ref" => (((fail_if_success (fail_if_success k_dflt (show wpAny _ _ (call (Value.ref 111) _) _ _ _))); refine Stop.out ?_))
  k_with "call ref" => (((fail_if_success (fail_if_success k_dflt (show wpAny _ _ (call (Value.ref 28) _) _ _ _))); refine Stop.out ?_))
  k_with "call type:zip" => ((k_here; k_dflt (refine dsrc_zip_ss (by rfl) (by k_asm) (by k_asm) (by rfl) (by rfl) (by rfl) (by rfl) (by decide) (by rw [sizeLine_eq]; exact Nat.le_of_ble_eq_true rfl) ?_); intro g' tk'))
  k_with "subscriptTail Name Name ref str" => ((k_here; k_dflt (refine kda_item (knd := PySem.strKind _ _) (by k_asm) (by k_mem) (by with_reducible assumption) (strKind_is _ _ _ _) (by with_reducible assumption) ?_)))
  k_with "call ref" => ((k_here; (fail_if_success (fail_if_success with_reducible show wpAny _ _ (call (Value.ref 138) [Value.ref _, Value.int _ _]) _ _ _)); k_dflt (refine' turn_use ?k1 ?k2 ?k3 ?k4 ?k5 ?kK ?kd ?ku ?kz0 ?kz1 ?kz2 ?_; (case k1 => k_asm); (case k2 => k_asm); (case k3 => k_asm); (case k4 => k_asm); (case k5 => k_asm); (case kK => first | exact rfl | assumption); (case kd => ktr_room); (case ku => ktr_units); (case kz0 => k_mem); (case kz1 => with_reducible assumption); (case kz2 => with_reducible assumption); k_whole; intro D' h' tk' t1' t2' t3' F' N' l1'; (try k_sweep)); walk_say "ASKED turn"))
  delta RoundClaim
  k_fill
  intro dp un gd cn cs a ccd cl outer A₀ base h₀ L m s Q E news x dx k od ps qs nw p0 p1 p2 p3 p4 p5 D l n tn q0 q1 q2 q3 q4 q5 z0 z1 z2 z3 z4 z5 B F X N T hk hd hu hp0 hp1 hp2 hp3 hp4 hp5 hp6 hret
  subst hp0
  have tri1 := hp1.1; have tri2 := hp1.2.1; have rd := hp1.2.2.1; have ltd := hp1.2.2.2.1; have lt9 := hp1.2.2.2.2.1
  have o98 := hp1.2.2.2.2.2.1; have o23 := hp1.2.2.2.2.2.2.1; have ox := hp1.2.2.2.2.2.2.2.1; have odx := hp1.2.2.2.2.2.2.2.2
  clear hp1
  refine wpAny_call ?_
  have hm0 := six_all (P := fun p : Piece => (p.1, pieceObj p) ∈ nw) hp2.1 hp2.2.1 hp2.2.2.1 hp2.2.2.2.1 hp2.2.2.2.2.1 hp2.2.2.2.2.2
  have hm1 := six_all (P := fun p : Piece => (p.1, pieceObj p) ∈ nw) hp2.2.1 hp2.2.2.1 hp2.2.2.2.1 hp2.2.2.2.2.1 hp2.2.2.2.2.2 hp2.1
  clear hp2
  obtain ⟨⟨oD, rs, mD, sD, iD, rfl, qD⟩, jj⟩ := hp3
  refine paint_at qD jj.1 fun a0 t00 t01 t02 v0 y0 => ?_
  refine paint_at qD jj.2.1 fun a1 t10 t11 t12 v1 y1 => ?_
  refine paint_at qD jj.2.2.1 fun a2 t20 t21 t22 v2 y2 => ?_
  refine paint_at qD jj.2.2.2.1 fun a3 t30 t31 t32 v3 y3 => ?_
  refine paint_at qD jj.2.2.2.2.1 fun a4 t40 t41 t42 v4 y4 => ?_
  refine paint_at qD jj.2.2.2.2.2 fun a5 t50 t51 t52 v5 y5 => ?_
  clear jj
  have b0 := And.intro hp5.2.1.1 (And.intro hp5.2.1.2.1 (And.intro hp5.2.1.2.2 hp5.1))
  have b1 := And.intro hp5.2.2.1.1 (And.intro hp5.2.2.1.2.1 (And.intro hp5.2.2.1.2.2 hp5.1))
  have b2 := And.intro hp5.2.2.2.1.1 (And.intro hp5.2.2.2.1.2.1 (And.intro hp5.2.2.2.1.2.2 hp5.1))
  have b3 := And.intro hp5.2.2.2.2.1.1 (And.intro hp5.2.2.2.2.1.2.1 (And.intro hp5.2.2.2.2.1.2.2 hp5.1))
  have b4 := And.intro hp5.2.2.2.2.2.1.1 (And.intro hp5.2.2.2.2.2.1.2.1 (And.intro hp5.2.2.2.2.2.1.2.2 hp5.1))
  have b5 := And.intro hp5.2.2.2.2.2.2.1 (And.intro hp5.2.2.2.2.2.2.2.1 (And.intro hp5.2.2.2.2.2.2.2.2 hp5.1))
  have tk0 := hp6.1; have tk1 := hp6.2.1; have tk2 := hp6.2.2.1; have tk3 := hp6.2.2.2.1; have tk4 := hp6.2.2.2.2.1; have tk5 := hp6.2.2.2.2.2
  clear hp5 hp6
  have hd98 : dx ≠ 98 := Ne.symm (Nat.ne_of_lt lt9)
  have hx98 : x ≠ 98 := Ne.symm (Nat.ne_of_lt (Nat.lt_trans lt9 ltd))
  have hd23 : dx ≠ 23 := Ne.symm (Nat.ne_of_lt (Nat.lt_trans (by decide : 23 < 98) lt9))
  have hx23 : x ≠ 23 := Ne.symm (Nat.ne_of_lt (Nat.lt_trans (Nat.lt_trans (by decide : 23 < 98) lt9) ltd))
  k_dflt (refine' code_defC (binds := [(Str.ofString "ring", .ref x), (Str.ofString "paints", .ref D), (Str.ofString "sixths", .int n tn)]) ?k1 ?k2 ?k3 ?k4 ?k5 ?kA ?kF ?kK ?k6 ?k7 ?k8 ?k9 ?kB ?kD ?_ ?c2 ?c3 ?c4; (case kA => exact rfl); (case kF => exact rfl); (case kK => assumption); (case k1 => k_asm); (case k2 => k_asm); (case k3 => k_asm); (case k4 => k_asm); (case k5 => k_asm); (case k6 => k_is); (case k7 => k_is); (case k8 => ktr_room); (case k9 => exact BindsTo.of_eq rfl); (case kB => exact rfl); (case kD => decide +kernel); (case c2 => exact rfl); (case c3 => exact rfl); (case c4 => exact rfl); k_whole)
  intro g' L' h' tk' cells' FG' F' N' Y' B' X' T' l1
  k_dflt (try k_lt l1)
  have e98 : @LT.lt Nat _ 98 L' := l1.1
  have e23 : @LT.lt Nat _ 23 L' := l1.2.1
  have e1 : @LT.lt Nat _ 1 L' := Nat.lt_trans (by decide) e23
  have c98a : L' + 1 + 1 ≠ (98 : Addr) := ne2 e98
  have c98b : L' + 1 ≠ (98 : Addr) := ne1 e98
  have c98c : (23 : Addr) ≠ 98 := by decide
  have cxa : L' + 1 + 1 ≠ x := ne2 l1.2.2.1
  have cxb : L' + 1 ≠ x := ne1 l1.2.2.1
  have cxc : (23 : Addr) ≠ x := Ne.symm hx23
  have cxd : (98 : Addr) ≠ x := Ne.symm hx98
  have cda : L' + 1 + 1 ≠ dx := ne2 l1.2.2.2.1
  have cdb : L' + 1 ≠ dx := ne1 l1.2.2.2.1
  have cdc : (23 : Addr) ≠ dx := Ne.symm hd23
  have cdd : (98 : Addr) ≠ dx := Ne.symm hd98
  k_dflt (replace F' : Fr g' L' h' (fun z => if z = Str.ofString "ring" then some (.ref x) else none) := F')
  k_dflt (obtain ⟨o1', o2', hc', d1', d2'⟩ := CellsAre.two Y')
  subst hc'
  k_dflt (replace d1' : o1'.data = Data.cell (some (.int n tn)) := d1')
  k_dflt (replace d2' : o2'.data = Data.cell (some (.ref D)) := d2')
  k_dflt ((try simp only [List.cons_append, List.nil_append] at N'); (try dsimp only); (try k_lift B'); (try k_fold))
  k_steps
  (rename News _ _ _ _ => NX)
  have N1 := news_sub NX (a := (98, tabOf ps) :: (x, ringObj dx (piecesOf [p0, p1, p2, p3, p4, p5]) k) :: (dx, od) :: (L' + 1 + 1, o1') :: (L' + 1, o2') :: (23, tabOf qs) :: nw) (by (repeat (refine Sub.cons (by k_mem) ?_)); (repeat (first | exact Sub.same | refine Sub.skip ?_)))
  clear NX
  k_dflt (refine' dstr_use (its := [p0, p1, p2, p3, p4, p5]) ?k1 ?k2 ?k3 N1 ?k5 ?kK ?kd ?ku rfl ⟨tri1, hx98, hd98, (List.forall_mem_cons.mpr ⟨by first | with_reducible assumption | omega | k_ne, List.forall_mem_cons.mpr ⟨by first | with_reducible assumption | omega | k_ne, List.forall_mem_cons.mpr ⟨by first | with_reducible assumption | omega | k_ne, o98⟩⟩⟩), Nat.le_of_ble_eq_true rfl, ?hm⟩ ?_; (case k1 => k_asm); (case k2 => k_asm); (case k3 => k_asm); (case k5 => k_asm); (case kK => first | exact rfl | assumption); (case kd => ktr_room); (case ku => ktr_units))
  case hm => exact fun p hp => .tail _ (.tail _ (.tail _ (hm0 p hp)))
  intro h1 g1 tk1 t1 ps1 tri3 bb1 F1 N1b
  clear N1
  unfold StrBack
  dsimp only
  k_steps
  (rename News _ _ _ _ => NX)
  have N2 := news_sub NX (a := (x, ringObj dx #[.ref p0.1, .ref p1.1, .ref p2.1, .ref p3.1, .ref p4.1, .ref p5.1] k) :: (dx, od) :: (98, tabOf ps1) :: (L' + 1 + 1, o1') :: (L' + 1, o2') :: (23, tabOf qs) :: nw) (by (repeat (refine Sub.cons (by k_mem) ?_)); (repeat (first | exact Sub.same | refine Sub.skip ?_)))
  clear NX
  k_dflt (refine' popfrom_use  ?k1 ?k2 ?k3 N2 ?k5 ?kK ?kd ?ku rfl ⟨rd, (List.forall_mem_cons.mpr ⟨by first | with_reducible assumption | omega | k_ne, List.forall_mem_cons.mpr ⟨by first | with_reducible assumption | omega | k_ne, List.forall_mem_cons.mpr ⟨by first | with_reducible assumption | omega | k_ne, List.forall_mem_cons.mpr ⟨by first | with_reducible assumption | omega | k_ne, ox⟩⟩⟩⟩), (List.forall_mem_cons.mpr ⟨by first | with_reducible assumption | omega | k_ne, List.forall_mem_cons.mpr ⟨by first | with_reducible assumption | omega | k_ne, List.forall_mem_cons.mpr ⟨by first | with_reducible assumption | omega | k_ne, List.forall_mem_cons.mpr ⟨by first | with_reducible assumption | omega | k_ne, odx⟩⟩⟩⟩), ltd⟩ ?_; (case k1 => k_asm); (case k2 => k_asm); (case k3 => k_asm); (case k5 => k_asm); (case kK => first | exact rfl | assumption); (case kd => ktr_room); (case ku => ktr_units))
  intro D2 h2 tk2 k2 kl2 F2 N2b l2
  clear N2
  k_dflt (try k_lt l2)
  have d2x : D2 ≠ x := Ne.symm (Nat.ne_of_lt l2.1)
  have d2d : D2 ≠ dx := Ne.symm (Nat.ne_of_lt l2.2.1)
  have d298 : D2 ≠ (98 : Addr) := Ne.symm (Nat.ne_of_lt l2.2.2.1)
  k_steps
  (rename News _ _ _ _ => NX)
  have N3 := news_sub NX (a := (x, ringObj dx #[.ref p0.1] k2) :: (dx, od) :: (D2, listOf #[.ref p1.1, .ref p2.1, .ref p3.1, .ref p4.1, .ref p5.1] kl2) :: (98, tabOf ps1) :: (L' + 1 + 1, o1') :: (L' + 1, o2') :: (23, tabOf qs) :: nw) (by (repeat (refine Sub.cons (by k_mem) ?_)); (repeat (first | exact Sub.same | refine Sub.skip ?_)))
  clear NX
  k_dflt (refine' pop_use  ?k1 ?k2 ?k3 N3 ?k5 ?kK ?kd ?ku rfl ⟨rd, (List.forall_mem_cons.mpr ⟨by first | with_reducible assumption | omega | k_ne, List.forall_mem_cons.mpr ⟨by first | with_reducible assumption | omega | k_ne, List.forall_mem_cons.mpr ⟨by first | with_reducible assumption | omega | k_ne, List.forall_mem_cons.mpr ⟨by first | with_reducible assumption | omega | k_ne, List.forall_mem_cons.mpr ⟨by first | with_reducible assumption | omega | k_ne, ox⟩⟩⟩⟩⟩), (List.forall_mem_cons.mpr ⟨by first | with_reducible assumption | omega | k_ne, List.forall_mem_cons.mpr ⟨by first | with_reducible assumption | omega | k_ne, List.forall_mem_cons.mpr ⟨by first | with_reducible assumption | omega | k_ne, List.forall_mem_cons.mpr ⟨by first | with_reducible assumption | omega | k_ne, List.forall_mem_cons.mpr ⟨by first | with_reducible assumption | omega | k_ne, odx⟩⟩⟩⟩⟩), ltd⟩ ?_; (case k1 => k_asm); (case k2 => k_asm); (case k3 => k_asm); (case k5 => k_asm); (case kK => first | exact rfl | assumption); (case kd => ktr_room); (case ku => ktr_units))
  intro h3 tk3 F3 N3b
  clear N3
  k_steps
  (rename News _ _ _ _ => NX)
  have N4 := news_sub NX (a := (x, ringObj dx #[] (k2 + 1)) :: (dx, od) :: (D2, listOf #[.ref p1.1, .ref p2.1, .ref p3.1, .ref p4.1, .ref p5.1, .ref p0.1] (kl2 + 1)) :: (98, tabOf ps1) :: (L' + 1 + 1, o1') :: (L' + 1, o2') :: (23, tabOf qs) :: nw) (by (repeat (refine Sub.cons (by k_mem) ?_)); (repeat (first | exact Sub.same | refine Sub.skip ?_)))
  clear NX
  k_dflt (refine' reset_use  ?k1 ?k2 ?k3 N4 ?k5 ?kK ?kd ?ku rfl ⟨rd, (List.forall_mem_cons.mpr ⟨by first | with_reducible assumption | omega | k_ne, List.forall_mem_cons.mpr ⟨by first | with_reducible assumption | omega | k_ne, List.forall_mem_cons.mpr ⟨by first | with_reducible assumption | omega | k_ne, List.forall_mem_cons.mpr ⟨by first | with_reducible assumption | omega | k_ne, List.forall_mem_cons.mpr ⟨by first | with_reducible assumption | omega | k_ne, ox⟩⟩⟩⟩⟩), (List.forall_mem_cons.mpr ⟨by first | with_reducible assumption | omega | k_ne, List.forall_mem_cons.mpr ⟨by first | with_reducible assumption | omega | k_ne, List.forall_mem_cons.mpr ⟨by first | with_reducible assumption | omega | k_ne, List.forall_mem_cons.mpr ⟨by first | with_reducible assumption | omega | k_ne, List.forall_mem_cons.mpr ⟨by first | with_reducible assumption | omega | k_ne, odx⟩⟩⟩⟩⟩), ltd⟩ (by k_mem) ?_; (case k1 => k_asm); (case k2 => k_asm); (case k3 => k_asm); (case k5 => k_asm); (case kK => first | exact rfl | assumption); (case kd => ktr_room); (case ku => ktr_units))
  intro h4 tk4 k4 od4 rd4 F4 N4b
  clear N4
  k_steps
  (rename News _ _ _ _ => NX)
  have N5 := news_sub NX (a := (98, tabOf ps1) :: (x, ringObj dx (piecesOf [p1, p2, p3, p4, p5, p0]) k4) :: (dx, od4) :: (D2, listOf #[.ref p1.1, .ref p2.1, .ref p3.1, .ref p4.1, .ref p5.1, .ref p0.1] (kl2 + 1)) :: (L' + 1 + 1, o1') :: (L' + 1, o2') :: (23, tabOf qs) :: nw) (by (repeat (refine Sub.cons (by k_mem) ?_)); (repeat (first | exact Sub.same | refine Sub.skip ?_)))
  clear NX
  k_dflt (refine' dstr_use (its := [p1, p2, p3, p4, p5, p0]) ?k1 ?k2 ?k3 N5 ?k5 ?kK ?kd ?ku rfl ⟨tri3, hx98, hd98, (List.forall_mem_cons.mpr ⟨by first | with_reducible assumption | omega | k_ne, List.forall_mem_cons.mpr ⟨by first | with_reducible assumption | omega | k_ne, List.forall_mem_cons.mpr ⟨by first | with_reducible assumption | omega | k_ne, List.forall_mem_cons.mpr ⟨by first | with_reducible assumption | omega | k_ne, o98⟩⟩⟩⟩), Nat.le_of_ble_eq_true rfl, ?hm⟩ ?_; (case k1 => k_asm); (case k2 => k_asm); (case k3 => k_asm); (case k5 => k_asm); (case kK => first | exact rfl | assumption); (case kd => ktr_room); (case ku => ktr_units))
  case hm => exact fun p hp => .tail _ (.tail _ (.tail _ (.tail _ (hm1 p hp))))
  intro h5 g5 tk5 t5 ps5 tri5 bb5 F5 N5b
  clear N5
  unfold StrBack
  dsimp only
  k_steps
  (rename News _ _ _ _ => NY)
  (try (rename (@LT.lt Addr _ L' _) => lq0; have lq0' : @LT.lt Nat _ L' _ := lq0; clear lq0))
  (try (rename (@LT.lt Addr _ L' _) => lq1; have lq1' : @LT.lt Nat _ L' _ := lq1; clear lq1))
  (try (rename (@LT.lt Addr _ L' _) => lq2; have lq2' : @LT.lt Nat _ L' _ := lq2; clear lq2))
  (try (rename (@LT.lt Addr _ L' _) => lq3; have lq3' : @LT.lt Nat _ L' _ := lq3; clear lq3))
  k_dflt (refine' addc_use ?k1 ?k2 ?k3 ?k4 ?k5 ?kK ?kd ?ku ?kz0 ?kz1 ?kz2 ?kz3 ?kz4 ?_; (case kz0 => exact rfl); (case k1 => k_asm); (case k2 => k_asm); (case k3 => k_asm); (case k4 => (refine' news_front ?e1 ?nN; (case nN => exact NY); (case e1 => repeat (first | exact Ext.head | apply Ext.tail)))); (case k5 => k_asm); (case kK => first | exact rfl | assumption); (case kd => ktr_room); (case ku => ktr_units))
  case kz2 => (k_dflt (refine pd_of6 hp4 (by k_mem) (by with_reducible assumption) ?hs ⟨_, _, _, by k_mem⟩ ⟨_, _, _, by k_mem⟩ ⟨_, _, _, by k_mem⟩ ⟨_, _, _, by k_mem⟩ ⟨_, _, _, by k_mem⟩ ⟨_, _, _, by k_mem⟩; (case hs => exact beq_eq_false_iff_ne.mpr (by first | exact Ne.symm (Nat.ne_of_lt (Nat.lt_trans e1 (by assumption))) | ((refine neN ?_); (show _ ≠ 1); omega)))))
  case kz3 => (k_dflt (refine pd_of6 hp4 (by k_mem) (by with_reducible assumption) ?hs ⟨_, _, _, by k_mem⟩ ⟨_, _, _, by k_mem⟩ ⟨_, _, _, by k_mem⟩ ⟨_, _, _, by k_mem⟩ ⟨_, _, _, by k_mem⟩ ⟨_, _, _, by k_mem⟩; (case hs => exact beq_eq_false_iff_ne.mpr (by first | exact Ne.symm (Nat.ne_of_lt (Nat.lt_trans e1 (by assumption))) | ((refine neN ?_); (show _ ≠ 1); omega)))))
  case kz4 => exact ⟨rfl, names_nodup hp4, Nat.le_of_ble_eq_true rfl⟩
  case kz1 =>
    refine ⟨tri2, ?_⟩
    repeat (refine List.forall_mem_cons.mpr ⟨by first | with_reducible assumption | exact Ne.symm (Nat.ne_of_lt (Nat.lt_trans e23 (by with_reducible assumption))) | decide | k_ne | (exact news_ne NY (by k_mem) (b := 23) (o' := tabOf qs) (by k_mem) (by intro h; cases h)), ?_⟩)
    exact o23
  intro DA hA gA tkA qsA nwB triA bbA FA NA offA subA ltA pdA
  k_steps
  (rename Fr h₀ L _ m => FZ); (rename News h₀ L _ _ => NZ)
  have g98 : ((98 : Addr), tabOf ps5) ∈ nwB := subA _ (by k_mem)
  have gx : (x, ringObj dx (piecesOf [p1, p2, p3, p4, p5, p0]) k4) ∈ nwB := subA _ (by k_mem)
  have gdx : (dx, od4) ∈ nwB := subA _ (by k_mem)
  have lt98 : @LT.lt Nat _ 98 DA := ltA (98, tabOf ps5) (by k_mem)
  have ltx : @LT.lt Nat _ x DA := ltA (x, ringObj dx (piecesOf [p1, p2, p3, p4, p5, p0]) k4) (by k_mem)
  have ltdx : @LT.lt Nat _ dx DA := ltA (dx, od4) (by k_mem)
  have NB : News h₀ L _ nwB := fun p hp => NZ p (.tail _ hp)
  refine hret DA _ _ _ ps5 qsA k4 od4 (nwB.filter fun q => (fun a : Addr => a != 98 && a != x && a != dx) q.1) tri5 triA rd4 (bb1.trans (bb5.trans bbA)) FZ (news_sub NZ (Sub.cons (.tail _ g98) (Sub.cons (.head _) (Sub.cons (.tail _ gx) (Sub.cons (.tail _ gdx) fun p hp => .tail _ (List.mem_filter.mp hp).1))))) ?_ (fun p hp => offA p (List.mem_filter.mp hp).1) ?_ ?_ ?_ (pdA.filter (fun a : Addr => a != 98 && a != x && a != dx) ?_ ?_)
  · intro p hp
    have := (List.mem_filter.mp hp).2
    simp only [Bool.and_eq_true, bne_iff_ne] at this
    exact this.1.1
  · intro p hp
    have := (List.mem_filter.mp hp).2
    simp only [Bool.and_eq_true, bne_iff_ne] at this
    exact this.1.2
  · intro p hp
    have := (List.mem_filter.mp hp).2
    simp only [Bool.and_eq_true, bne_iff_ne] at this
    exact this.2
  · intro p hp
    refine List.mem_filter.mpr ⟨subA p ?_, ?_⟩
    · repeat (first | exact hp | refine List.Mem.tail _ ?_)
    · simp only [Bool.and_eq_true, bne_iff_ne]
      exact ⟨⟨o98 p hp, ox p hp⟩, odx p hp⟩
  · simp only [Bool.and_eq_true, bne_iff_ne]
    exact ⟨⟨Ne.symm (Nat.ne_of_lt lt98), Ne.symm (Nat.ne_of_lt ltx)⟩, Ne.symm (Nat.ne_of_lt ltdx)⟩
  · rintro a9 p9 ⟨t90, t91, t92, m9⟩
    simp only [Bool.and_eq_true, bne_iff_ne]
    refine ⟨⟨news_ne NB m9 g98 (by intro h; cases h), news_ne NB m9 gx (by intro h; cases h)⟩, news_ne NB m9 gdx ?_⟩
    rw [rd4.1]
    intro h
    injection h with h
    exact absurd h (by decide)
end Mine
end
section
open PySem PySem.Spec PySem.Calls PySem.W PyProof.Rows PySem.Flt PyProof.Rows.LCg
set_option maxRecDepth 100000
namespace Mine
section
variable {prog : Program} {w : World} {A : Around} {E : Value → Shared → Prop} {s : Shared} {h₀ h : Heap} {L : Addr} {m : Str → Option Value} {env : Env} {elt : Expr} {scope : Scope} {cl : List (Str × Addr)} {news : List (Addr × Obj)}
theorem news_ne_data {a b : Addr} {o o' : Obj} (N : News h₀ L h news) (h1 : (a, o) ∈ news) (h2 : (b, o') ∈ news) (hne : o.data ≠ o'.data) : a ≠ b := fun e => by
  have e1 := (N _ h1).1
  have e2 := (N _ h2).1
  subst e
  exact hne (congrArg Obj.data (Option.some.inj (e1.symm.trans e2)))
theorem pd_ne_data {D : Addr} {l : List (Str × P3)} {c : Addr} {o : Obj} (N : News h₀ L h news) (P : PaintDict prog w news D l) (h2 : (c, o) ∈ news) (hne : ∀ es ep, Data.dict es ep ≠ o.data) : D ≠ c := by
  obtain ⟨oD, rs, hm, _, ⟨es, ep, _, e, _⟩, _⟩ := P
  exact news_ne_data N hm h2 (by rw [e]; exact hne es ep)
theorem hp_ne_data {a : Addr} {p : P3} {c : Addr} {o : Obj} (N : News h₀ L h news) (P : HasPaint news a p) (h2 : (c, o) ∈ news) (hne : ∀ xs k, Data.seq xs k ≠ o.data) : a ≠ c := by
  obtain ⟨t0, t1, t2, hm⟩ := P
  exact news_ne_data N hm h2 (hne _ _)
theorem hp_ne_cls {a : Addr} {p : P3} {c : Addr} {o : Obj} (N : News h₀ L h news) (P : HasPaint news a p) (h2 : (c, o) ∈ news) (hne : Value.type "tuple" ≠ o.cls) : a ≠ c := by
  obtain ⟨t0, t1, t2, hm⟩ := P
  exact news_ne N hm h2 hne
/-- a name that is a cell of the frame is stored -/
theorem cell_store {name : Str} {fa : Addr} {cd : Value} {x : Str} {c : Addr} {o : Obj} {v₀ : Option Value} {v : Value} {Q : Unit → Shared → Prop} (F : Fr h₀ L s.heap m) (N : News h₀ L s.heap news)
    (hc : (cellsFrom (L + 1) scope.names []).lookup x = some c) (hm : (c, o) ∈ news) (hd : o.data = .cell v₀)
    (h : ∀ h' o', Fr h₀ L h' m → o'.data = .cell (some v) → News h₀ L h' ((c, o') :: news.filter fun p => p.1 != c) → Q () { s with heap := h' })
    (hk : scope.kind = .function) (hl : (envOfC name scope L fa cd).kindOf x = some .cell) :
    wpAny (model prog w) A (storeName (envOfC name scope L fa cd) x v) Q E s := by
  have N' : News h₀ L s.heap ([] ++ (c, o) :: news.filter fun p => p.1 != c) := fun p hp => by
    cases hp with
    | head => exact N _ hm
    | tail _ hp => exact N _ (List.mem_filter.mp hp).1
  exact stCN F N' hc hd (fun _ hp => nomatch hp) (fun p hp => by simpa using (List.mem_filter.mp hp).2) (fun h' o' F' N' d' => h h' o' F' d' N') hk hl
theorem lsrc_strC {y : Str} {t : Tok} {x : Str} {px : Pos} (cs : List Nat) {Fin : Shared → List Value → List (Addr × Obj) → Prop} (hc : y.cps.toList = cs) (hh : A.handled = none)
    (F : Fr h₀ L s.heap m) (N : News h₀ L s.heap news) (hkind : scope.kind = .function) (hx : scope.names.lookup x = some .local) (fits : y.cps.size ≤ sizeLine)
    (R : ∀ g tk, LTurns prog w A h₀ L m env elt scope cl { s with heap := g, toks := tk } (Fin { s with heap := g, toks := tk }) (cs.map fun c t _ => [(x, .str ⟨#[c]⟩ t)]) [] news) :
    wpAny (model prog w) A (pyIter (.str y t)) (LSrc prog w A h₀ L m env elt (.Name x px) scope cl Fin) E s := by
  subst hc
  exact lsrc_str hh F N hkind hx fits R
theorem dsrc_zip_slC {y : Str} {t : Tok} {l : Addr} {vs : List Value} {k : Nat} {a b : Str} {pa pb tp : Pos} {kk : Nat} (cs : List Nat) {Fin : Shared → List (Str × Value) → List (Addr × Obj) → Prop} (hc : y.cps.toList = cs) (hh : A.handled = none)
    (F : Fr h₀ L s.heap m) (N : News h₀ L s.heap news) (hm : (l, ({ cls := .type "list", data := .seq vs.toArray k } : Obj)) ∈ news) (hn : y.cps.size = vs.length) (hkind : scope.kind = .function) (ha : scope.names.lookup a = some .local) (hb : scope.names.lookup b = some .local) (hab : ¬ a = b) (fits : vs.length ≤ sizeLine)
    (R : ∀ g tk, DTurns prog w A h₀ L m env elt scope cl { s with heap := g, toks := tk } (Fin { s with heap := g, toks := tk }) (List.zipWith (fun c v => (⟨#[c]⟩, fun t _ => [(a, .str ⟨#[c]⟩ t), (b, v)])) cs vs) [] news) :
    wpAny (model prog w) A (call (.type "zip") [.str y t, .ref l]) (fun xv s₁ => wpAny (model prog w) A (pyIter xv) (DSrc prog w A h₀ L m env a elt (.Tuple [.Name a pa, .Name b pb] kk tp) scope cl Fin) E s₁) E s := by
  subst hc
  exact dsrc_zip_sl hh F N hm hn hkind ha hb hab fits R
theorem cut_ints : ∀ {ws : List Value} {ts : List Int} (_ : IntsAre ws ts) (j : Nat) (hj : j < ts.length), ∃ p t q, kl_cut ws j = some (p, .int ts[j] t, q) ∧ IntsAre (p ++ q) (ts.eraseIdx j)
  | _, _, .nil, _, hj => absurd hj (Nat.not_lt_zero _)
  | _, _, .cons n t h, 0, _ => ⟨[], t, _, rfl, h⟩
  | _, _, .cons n t h, j + 1, hj => by
    obtain ⟨p, u, q, e, hI⟩ := cut_ints h j (by simpa using hj)
    refine ⟨.int n t :: p, u, q, ?_, .cons n t hI⟩
    show (match kl_cut _ j with | some (p, y, q) => some (_ :: p, y, q) | none => none) = _
    rw [e]
    rfl
/-- an int is taken out of a list of ints, from its middle -/
theorem pop_ints {tr : Addr} {ws : List Value} {ts : List Int} {j n : Nat} {i : Int} {u : Tok} {Q : Value → Shared → Prop} (F : Fr h₀ L s.heap m) (N : News h₀ L s.heap ((tr, listOf ws.toArray n) :: news)) (b : ∀ p ∈ news, p.1 ≠ tr)
    (hI : IntsAre ws ts) (hi : i = (j : Int)) (hj : j < ts.length) (hl : ts.length ≤ 6)
    (h : ∀ h' t ws', IntsAre ws' (ts.eraseIdx j) → Fr h₀ L h' m → News h₀ L h' ((tr, listOf ws'.toArray (n + 1)) :: news) → Q (.int ts[j] t) { s with heap := h' }) :
    wpAny (model prog w) A (call (.builtin "list.pop") [.ref tr, .int i u]) Q E s := by
  subst hi
  have hlen : ws.length = ts.length := hI.length
  obtain ⟨p, t, q, e, hI'⟩ := cut_ints hI j hj
  refine kl_popAt (k := j) F N ?_ ?_ e (.head b) ?_ fun h' F' N' => h h' t _ hI' F' N'
  · unfold Builtin.List.listFitsIndex
    simp; lia
  · unfold seqIndex?
    have : ws.toArray.size = ts.length := by rw [List.size_toArray, hlen]
    rw [this]
    simp; lia
  · exact Nat.le_trans (show ws.length ≤ 6 by lia) (by rw [sizeLine_eq]; exact Nat.le_of_ble_eq_true rfl)
theorem L_big {m : Str → Option Value} (X : (hd.heap_1 w.params).In h₀) (F : Fr h₀ L h m) : @LT.lt Nat _ 172 L := by
  have z : (List.lookup 172 (hd.heap_1 w.params)).isSome = true := by kernel_rfl
  obtain ⟨o, e⟩ := Option.isSome_iff_exists.mp z
  exact Nat.lt_of_lt_of_le (Heap.lt_size (X 172 o e)) F.above
theorem not_sys {m : Str → Option Value} {D : Addr} (X : (hd.heap_1 w.params).In h₀) (F : Fr h₀ L h m) (l : @LT.lt Addr _ L D) : (D == sysModules) = false :=
  beq_eq_false_iff_ne.mpr (Ne.symm (Nat.ne_of_lt (Nat.lt_trans (Nat.lt_trans (show @LT.lt Nat _ 1 172 by decide) (L_big X F)) l)))
end
theorem settle {prog : Program} {w : World} {h₀ h1 h2 : Heap} {L : Addr} {led : List (Addr × Obj)} {c D : Addr} {o1 o2 : Obj} {v0 : Option Value} {ta tb : Array Value} {l : List (Str × P3)} (N : News h₀ L h1 led) (N2 : News h₀ L h2 ((c, o2) :: led.filter fun p => p.1 != c))
    (m1 : (c, o1) ∈ led) (hd1 : o1.data = .cell v0) (m23 : ((23 : Addr), tabOf ta) ∈ led) (m98 : ((98 : Addr), tabOf tb) ∈ led) (pd : PaintDict prog w led D l) :
    ∃ nw, PaintDict prog w nw D l ∧ (∀ p ∈ nw, p.1 ≠ c ∧ p.1 ≠ 23 ∧ p.1 ≠ 98) ∧ (∀ p ∈ led, p.1 ≠ c → p.1 ≠ 23 → p.1 ≠ 98 → p ∈ nw) ∧ News h₀ L h2 ((98, tabOf tb) :: (23, tabOf ta) :: (c, o2) :: nw) := by
  have n23 : (23 : Addr) ≠ c := news_ne_data N m23 m1 (by rw [hd1]; intro h; cases h)
  have n98 : (98 : Addr) ≠ c := news_ne_data N m98 m1 (by rw [hd1]; intro h; cases h)
  refine ⟨led.filter fun q => (fun a : Addr => a != c && a != 23 && a != 98) q.1, pd.filter (fun a : Addr => a != c && a != 23 && a != 98) ?_ ?_, fun p hp => ?_, fun p hp h1 h2 h3 => ?_, ?_⟩
  · simp only [Bool.and_eq_true, bne_iff_ne]
    exact ⟨⟨pd_ne_data N pd m1 (by rw [hd1]; intro _ _ h; cases h), pd_ne_data N pd m23 (by intro _ _ h; cases h)⟩, pd_ne_data N pd m98 (by intro _ _ h; cases h)⟩
  · intro a p hp
    simp only [Bool.and_eq_true, bne_iff_ne]
    exact ⟨⟨hp_ne_data N hp m1 (by rw [hd1]; intro _ _ h; cases h), hp_ne_data N hp m23 (by intro _ _ h; cases h)⟩, hp_ne_data N hp m98 (by intro _ _ h; cases h)⟩
  · have := (List.mem_filter.mp hp).2
    simp only [Bool.and_eq_true, bne_iff_ne] at this
    exact ⟨this.1.1, this.1.2, this.2⟩
  · exact List.mem_filter.mpr ⟨hp, by simp only [Bool.and_eq_true, bne_iff_ne]; exact ⟨⟨h1, h2⟩, h3⟩⟩
  · refine news_sub N2 (Sub.cons (.tail _ (List.mem_filter.mpr ⟨m98, bne_iff_ne.mpr n98⟩)) (Sub.cons (.tail _ (List.mem_filter.mpr ⟨m23, bne_iff_ne.mpr n23⟩)) (Sub.cons (.head _) fun p hp => .tail _ ?_)))
    have h := List.mem_filter.mp hp
    have this := h.2
    simp only [Bool.and_eq_true, bne_iff_ne] at this
    exact List.mem_filter.mpr ⟨h.1, bne_iff_ne.mpr this.1.1⟩
theorem pd_of6N {prog : Program} {w : World} {nw : List (Addr × Obj)} {E : Addr} {oE : Obj} {c0 c1 c2 c3 c4 c5 : Nat} {b0 b1 b2 b3 b4 b5 : Addr} {q0 q1 q2 q3 q4 q5 : P3} {h₀ h : Heap} {L : Addr} (_ : News h₀ L h nw) (hc : [c0, c1, c2, c3, c4, c5].Nodup) (hm : (E, oE) ∈ nw)
    (hE : KeepD (oE.IsDictOf (PySem.strKind prog w) (stored (stored (stored (stored (stored (stored [] (⟨#[c0]⟩ : Str) (.ref b0)) ⟨#[c1]⟩ (.ref b1)) ⟨#[c2]⟩ (.ref b2)) ⟨#[c3]⟩ (.ref b3)) ⟨#[c4]⟩ (.ref b4)) ⟨#[c5]⟩ (.ref b5))))
    (hs : (E == sysModules) = false) (h0 : HasPaint nw b0 q0) (h1 : HasPaint nw b1 q1) (h2 : HasPaint nw b2 q2) (h3 : HasPaint nw b3 q3) (h4 : HasPaint nw b4 q4) (h5 : HasPaint nw b5 q5) :
    PaintDict prog w nw E [(⟨#[c0]⟩, q0), (⟨#[c1]⟩, q1), (⟨#[c2]⟩, q2), (⟨#[c3]⟩, q3), (⟨#[c4]⟩, q4), (⟨#[c5]⟩, q5)] :=
  pd_of6 hc hm hE hs h0 h1 h2 h3 h4 h5
/-- a number's paint -/
noncomputable abbrev paintOf (n : Int) : P3 := (n.fmod 13, (n.fdiv 13).fmod 13, (n.fdiv 169).fmod 13)
end Mine
end
section
open PySem PySem.Spec PySem.Calls PySem.W PyProof.Rows PySem.Flt
set_option maxRecDepth 100000
set_option maxHeartbeats 8000000
namespace Mine
theorem ints_six {ws : List Value} {ns : List Int} (hI : IntsAre ws ns) (hl : ns.length = 6) (hb : ∀ n ∈ ns, 0 ≤ n ∧ n < 1000000) :
    ∃ n0 n1 n2 n3 n4 n5 t0 t1 t2 t3 t4 t5, ws = [.int n0 t0, .int n1 t1, .int n2 t2, .int n3 t3, .int n4 t4, .int n5 t5] ∧ Six n0 n1 n2 n3 n4 n5 := by
  match ns, hl with
  | [n0, n1, n2, n3, n4, n5], _ =>
    obtain ⟨t0, r0, e0, h0⟩ := hI.cons_inv
    obtain ⟨t1, r1, e1, h1⟩ := h0.cons_inv
    obtain ⟨t2, r2, e2, h2⟩ := h1.cons_inv
    obtain ⟨t3, r3, e3, h3⟩ := h2.cons_inv
    obtain ⟨t4, r4, e4, h4⟩ := h3.cons_inv
    obtain ⟨t5, r5, e5, h5⟩ := h4.cons_inv
    have e6 := h5.nil_inv
    subst e6; subst e5; subst e4; subst e3; subst e2; subst e1; subst e0
    exact ⟨n0, n1, n2, n3, n4, n5, t0, t1, t2, t3, t4, t5, rfl, hb _ (by simp), hb _ (by simp), hb _ (by simp), hb _ (by simp), hb _ (by simp), hb _ (by simp)⟩
theorem abs_map {ys : List Value} {ns : List Int} (I : IntsAre ys (List.map (fun k' : Int => k'.fmod (10 ^ Int.toNat 6)) (List.take 6 ns))) :
    ∃ zs, IntsAre ys zs ∧ zs.length = (List.take 6 ns).length ∧ ∀ n ∈ zs, 0 ≤ n ∧ n < 1000000 := by
  refine ⟨_, I, by simp, fun n hn => ?_⟩
  obtain ⟨k, _, rfl⟩ := List.mem_map.mp hn
  have e : (10 : Int) ^ Int.toNat 6 = 1000000 := by decide
  rw [e, Int.fmod_eq_emod_of_nonneg _ (by decide)]
  omega
theorem nums_len {ns zs : List Int} (hl : zs.length = (List.take 6 ns).length) : (zs ++ List.drop (((List.take 6 ns).length : Int)).toNat [16, 195, 183, 847, 52, 422]).length = 6 := by
  rw [List.length_append, List.length_drop, hl, Int.toNat_natCast]
  simp; omega
theorem nums_in {ns zs : List Int} (hz : ∀ n ∈ zs, 0 ≤ n ∧ n < 1000000) : ∀ n ∈ (zs ++ List.drop (((List.take 6 ns).length : Int)).toNat [16, 195, 183, 847, 52, 422]), 0 ≤ n ∧ n < 1000000 := by
  intro n hn
  rcases List.mem_append.mp hn with h | h
  · exact hz n h
  · have := List.mem_of_mem_drop h
    simp only [List.mem_cons, List.not_mem_nil, or_false] at this
    omega
theorem law0 {w : World} {pv : Program} {lo : List Str} {mean : ExcName → Option Value} {mg mb : Str → Option Value} {fa : Addr} {cd : Value} {h₀ : Heap} {L : Addr} {s : Shared} {Q : Flow → Shared → Prop} {E : Value → Shared → Prop} {sc : Addr} {vs : List Value} {ns : List Int} {o1 : Obj}
    (B : Below callerA h₀ [] h₀) (F : Fr h₀ L s.heap (fun z => if z = Str.ofString "script" then some (.ref sc) else none)) (X : (hd.heap_1 w.params).In h₀) (N : News h₀ L s.heap ([(23, tabOf #[]), (98, tabOf #[]), (L + 1, o1)])) (T : Top pv lo mean mg mb h₀)
    (hz0 : o1.data = Data.cell none)
    (hz1 : h₀.IsList sc vs.toArray)
    (hz2 : IntsAre vs ns)
    (hz3 : ¬ 63 < (ns.length : Int))
    (hret : ∀ h' tk D G n0 n1 n2 n3 n4 n5 t0 t1 t2 t3 t4 t5, Six n0 n1 n2 n3 n4 n5 → Fr h₀ L h' (fun y => if y = Str.ofString "numbers" then some (Value.ref D) else if y = Str.ofString "given" then some (Value.ref G) else if y = Str.ofString "script" then some (Value.ref sc) else none) → News h₀ L h' ((D, W.listOf #[.int n0 t0, .int n1 t1, .int n2 t2, .int n3 t3, .int n4 t4, .int n5 t5] 0) :: [(23, tabOf #[]), (98, tabOf #[]), (L + 1, o1)]) → wpAny (model PySem.Challenge.rw_wo0025_01.row.prog w) (callerA.deeper (lawEnv L fa cd)) (execs (lawBody.drop 2) (lawEnv L fa cd)) Q E { s with heap := h', toks := tk }) :
    wpAny (model PySem.Challenge.rw_wo0025_01.row.prog w) (callerA.deeper (lawEnv L fa cd)) (execs (lawBody.drop 0) (lawEnv L fa cd)) Q E s := by
  w_top off
  k_with_none
  k_with "execs cons" => ((k_here; (fail_if_success (fail_if_success with_reducible show wpAny _ _ (execs (Stmt.Assign [Expr.Name _ _] (Expr.DictComp ..) _ :: _) _) _ _ _)); refine Stop.out ?_))
  k_with "eval Subscript" => ((k_here; (fail_if_success (fail_if_success with_reducible show wpAny _ _ (eval (Expr.Subscript (Expr.List ..) _ _) _) _ _ _)); (rename IntsAre _ (List.map _ _) => I8); (try (rename _ = (List.map _ _).length => L8; clear L8)); (obtain ⟨zs', I7', lz', bz'⟩ := abs_map I8); clear I8; (have ly' := I7'.length); (have l6' : List.length zs' ≤ 6 := by rw [lz']; simp; omega)))
  k_with "subscriptTail Name Slice ref ref" => ((k_here; (fail_if_success (fail_if_success with_reducible show wpAny _ _ (subscriptTail _ (PySem.Expr.Slice none (some _) none _) (Value.ref _) (Value.ref _)) _ _ _)); k_dflt (refine' kmk_slice_ints ?F ?N ?l ?p ?q ?i ?m ?c ?_ ?s ?t ?z; (case F => k_asm); (case N => k_asm); (case l => kmk_list); (case p => kmk_part); (case q => kmk_part); (case i => l_ints); (case m => exact kmk_upto (by l_ints) (by decide)); (case c => exact List.length_take ..); (case s => with_unfolding_all rfl); (case t => kmk_pure); (case z => kmk_size)); intro D' ws' h' F' N' l1 hI' hC' hL'; (try k_lt l1); (try k_sweep)))
  k_with "subscriptTail Name Slice ref ref" => ((k_here; (fail_if_success (fail_if_success with_reducible show wpAny _ _ (subscriptTail _ (PySem.Expr.Slice (some _) none none _) (Value.ref _) (Value.ref _)) _ _ _)); k_dflt (refine' kmk_slice_ints ?yF ?yN ?yl ?yp ?yq ?yi ?ym ?yc ?_ ?ys ?yt ?yz; (case yF => k_asm); (case yN => k_asm); (case yl => kmk_list); (case yp => kmk_part); (case yq => kmk_part); (case yi => l_ints); (case ym => exact kmk_from (by l_ints) (by kmk_sign)); (case yc => exact List.length_drop ..); (case ys => with_unfolding_all rfl); (case yt => kmk_pure); (case yz => kmk_size)); intro D' ws' h' F' N' l1 hI' hC' hL'; (try k_lt l1); (try k_sweep)))
  with_unfolding_all have eb : lawBody.drop 0 = _ :: _ := rfl
  with_unfolding_all have es : lawScope = ⟨_, _, _, _, _⟩ := rfl
  unfold lawEnv
  rw [eb, es]
  clear eb es
  revert X; k_fill; intro X
  k_dflt (try k_fold)
  k_steps
  (rename ∀ n ∈ _, 0 ≤ n ∧ n < 1000000 => bz); (rename _ = (List.take 6 ns).length => lz)
  (rename Fr _ _ _ _ => F9); (rename News _ _ _ _ => N9); (rename IntsAre _ (_ ++ _) => I9)
  obtain ⟨n0, n1, n2, n3, n4, n5, t0, t1, t2, t3, t4, t5, e, b⟩ := ints_six I9 (nums_len lz) (nums_in bz)
  rw [e] at N9
  refine Stop.intro ?_
  with_unfolding_all refine hret _ _ _ _ n0 n1 n2 n3 n4 n5 t0 t1 t2 t3 t4 t5 b F9 (news_sub N9 (Sub.keep (Sub.skip (Sub.skip (Sub.skip (Sub.skip Sub.same))))))
end Mine
end
section
open PySem PySem.Spec PySem.Calls PySem.W PyProof.Rows PySem.Flt
set_option maxRecDepth 100000
set_option maxHeartbeats 8000000
namespace Mine
theorem law1 {w : World} {pv : Program} {lo : List Str} {mean : ExcName → Option Value} {mg mb : Str → Option Value} {fa : Addr} {cd : Value} {h₀ : Heap} {L : Addr} {s : Shared} {Q : Flow → Shared → Prop} {E : Value → Shared → Prop} {sc D G : Addr} {o1 : Obj} {n0 n1 n2 n3 n4 n5 : Int} {t0 t1 t2 t3 t4 t5 : Tok}
    (B : Below callerA h₀ [] h₀) (F : Fr h₀ L s.heap (fun y => if y = Str.ofString "numbers" then some (Value.ref D) else if y = Str.ofString "given" then some (Value.ref G) else if y = Str.ofString "script" then some (Value.ref sc) else none)) (X : (hd.heap_1 w.params).In h₀) (N : News h₀ L s.heap ((D, W.listOf #[.int n0 t0, .int n1 t1, .int n2 t2, .int n3 t3, .int n4 t4, .int n5 t5] 0) :: [(23, tabOf #[]), (98, tabOf #[]), (L + 1, o1)])) (T : Top pv lo mean mg mb h₀)
    (hz0 : o1.data = Data.cell none)
    (hret : ∀ h' tk D' o nw, (D, W.listOf #[.int n0 t0, .int n1 t1, .int n2 t2, .int n3 t3, .int n4 t4, .int n5 t5] 0) ∈ nw → o.data = .cell (some (.ref D')) → PaintDict PySem.Challenge.rw_wo0025_01.row.prog w nw D' [(⟨#[97]⟩, paintOf n0), (⟨#[98]⟩, paintOf n1), (⟨#[99]⟩, paintOf n2), (⟨#[100]⟩, paintOf n3), (⟨#[101]⟩, paintOf n4), (⟨#[102]⟩, paintOf n5)] → (∀ p ∈ nw, p.1 ≠ L + 1 ∧ p.1 ≠ 23 ∧ p.1 ≠ 98) → Fr h₀ L h' (fun y => if y = Str.ofString "numbers" then some (Value.ref D) else if y = Str.ofString "given" then some (Value.ref G) else if y = Str.ofString "script" then some (Value.ref sc) else none) → News h₀ L h' ((98, tabOf #[]) :: (23, tabOf #[]) :: (L + 1, o) :: nw) → wpAny (model PySem.Challenge.rw_wo0025_01.row.prog w) (callerA.deeper (lawEnv L fa cd)) (execs (lawBody.drop 3) (lawEnv L fa cd)) Q E { s with heap := h', toks := tk }) :
    wpAny (model PySem.Challenge.rw_wo0025_01.row.prog w) (callerA.deeper (lawEnv L fa cd)) (execs (lawBody.drop 2) (lawEnv L fa cd)) Q E s := by
  w_top off
  k_with_none
  k_with "eval ListComp" => ((k_here; k_dflt (refine ListComp_F (by k_asm) (by with_unfolding_all rfl) (by decide) (by rfl) (by decide) ?_ (by intro _; rfl))))
  k_with "exec Assign cons ListComp" => ((k_here; k_dflt (refine Assign_ListComp_F (by k_asm) (by rfl) (by with_unfolding_all rfl) (by with_unfolding_all rfl) (by decide) (by rfl) (by decide) (by rfl) (by rfl) ?_ (by intro _; rfl))))
  k_with "eval DictComp" => ((k_here; k_dflt (refine DictComp_F (by k_asm) (by rfl) (by decide) (by with_unfolding_all rfl) (by decide) (by rfl) (by decide) ?_ (by intro _; rfl))))
  k_with "exec Assign cons DictComp" => ((k_here; k_dflt (refine Assign_DictComp_F (by k_asm) (by rfl) (by with_unfolding_all rfl) (by rfl) (by decide) (by with_unfolding_all rfl) (by decide) (by rfl) (by decide) (by rfl) (by rfl) ?_ (by intro _; rfl))))
  k_with "pyIter ref" => ((k_here; (fail_if_success (fail_if_success with_reducible show wpAny _ _ (pyIter (Value.ref _)) (LSrc _ _ _ _ _ _ _ _ _ _ _ _) _ _)); k_dflt (first
  | refine lsrc_tup (by rfl) (by k_asm) (by k_asm) (by k_mem) (by rfl) (by rfl) (by first | (rw [sizeLine_eq]; exact Nat.le_of_ble_eq_true rfl) | size_fits) ?_
  | refine lsrc_list (by rfl) (by k_asm) (by k_asm) (by k_mem) (by rfl) (by rfl) (by first | (rw [sizeLine_eq]; exact Nat.le_of_ble_eq_true rfl) | size_fits) ?_); intro g' tk'))
  k_with "pyIter str" => ((k_here; k_dflt (first
  | ((with_reducible show wpAny _ _ (pyIter (Value.str _ _)) (LSrc _ _ _ _ _ _ _ _ _ _ _ _) _ _); refine lsrc_str (by rfl) (by k_asm) (by k_asm) (by rfl) (by rfl) (by first | (rw [sizeLine_eq]; exact Nat.le_of_ble_eq_true rfl) | size_fits) ?_)
  | ((with_reducible show wpAny _ _ (pyIter (Value.str _ _)) (DSrc _ _ _ _ _ _ _ _ _ _ _ _ _) _ _); refine dsrc_str (by rfl) (by k_asm) (by k_asm) (by rfl) (by rfl) (by first | (rw [sizeLine_eq]; exact Nat.le_of_ble_eq_true rfl) | size_fits) ?_)); intro g' tk'))
  k_with "LTurns" => (with_unfolding_all (refine LT.intro ?_; intro T9 nil9 cons9))
  k_with "LT" => (with_unfolding_all (first
  | (refine nil9 _ _ ?_)
  | (refine cons9 _ _ _ _ ?_; intro t9' u9' C' oC' mC' D' h' tk' nw' E' hns' hb' F' N' hC' hD' hsub'; (first | replace hb' := bound_one hb' | (have hb1' := (bound_two hb').1; have hb2' := (bound_two hb').2; clear hb')); (try k_sweep))))
  k_with "DTurns" => (with_unfolding_all (refine DT.intro ?_; intro T9 nil9 cons9))
  k_with "DT" => (with_unfolding_all (first
  | (refine nil9 _ _ ?_)
  | (refine cons9 _ _ _ _ _ ?_; intro t9' u9' C' oC' mC' D' oD' h' tk' nw' E' hns' hb' F' N' hC' hD' hdict' hsub'; (first | replace hb' := bound_one hb' | (have hb1' := (bound_two hb').1; have hb2' := (bound_two hb').2; clear hb')); (try k_sweep))))
  k_with "EltEnd" => ((k_dflt (first | refine LT.none (by k_asm) (by k_asm) ?_ | refine DT.none (by k_asm) (by k_asm) ?_ | refine LT.one (by k_asm) (by k_asm) (by k_asm) ?_ | refine DT.one (by k_asm) (by k_asm) (by k_asm) ?_ | refine LT.drop (by k_asm) (by k_asm) ?_ | refine DT.drop (by k_asm) (by k_asm) ?_)); (try (rename Sub _ _ => H; clear H)); (try (rename Obj.IsDictOf _ _ (stored _ _ _) => H; clear H)); (try (rename LCg.NsObj _ _ => H; clear H)); (try (rename (_ : Addr × Obj) ∈ (_ : List (Addr × Obj)) => H; clear H)); (try (rename (_ : Addr × Obj) ∈ (_ : List (Addr × Obj)) => H; clear H)); (try (rename InElt _ _ => H; clear H)); (try (rename ∀ p : Str × Value, p ∈ _ → _ = some _ => H; clear H)); (try k_sweep); (repeat (rename Value → Shared → Prop => H; clear H)))
  k_with "LFinE" => (((unfold LFinE); intro D' h' tk' F' N' o1'; (try simp only [List.nil_append, List.cons_append] at N' o1'); (try dsimp only)))
  k_with "LFinA" => (((unfold LFinA); intro D' h' tk' F' N' o1'; (try simp only [List.nil_append, List.cons_append] at N' o1'); (try dsimp only)))
  k_with "DFinE" => (((unfold DFinE); intro D' oD' h' tk' F' N' d1' lD' o1'; (replace d1' := KeepD.intro d1'); (try simp only [List.nil_append, List.cons_append] at N' o1'); (try dsimp only)))
  k_with "DFinA" => (((unfold DFinA); intro D' oD' h' tk' F' N' d1' lD' o1'; (replace d1' := KeepD.intro d1'); (try simp only [List.nil_append, List.cons_append] at N' o1'); (try dsimp only)))
  k_with "pyIter ref" => ((k_here; (fail_if_success (fail_if_success with_reducible show wpAny _ _ (pyIter (Value.ref _)) (LSrc _ _ _ _ _ _ _ _ (Expr.Tuple [_, _] _ _) _ _ _) _ _)); k_dflt (refine lsrc_pairs (by rfl) (by k_asm) (by k_asm) (by k_mem) (by repeat (first | exact Tups.nil | (apply Tups.cons; k_mem))) (by rfl) (by rfl) (by rfl) (by decide) (by first | (rw [sizeLine_eq]; exact Nat.le_of_ble_eq_true rfl) | size_fits) ?_); intro g' tk'))
  k_with "call builtin:sum" => ((k_here; (fail_if_success (fail_if_success with_reducible show wpAny _ _ (call (Value.builtin "sum") [Value.ref _]) _ _ _)); k_dflt (refine' sum_lst ?k0 ?k1 ?k2 ?k3 ?k4 ?_; (case k0 => rfl); (case k1 => k_asm); (case k2 => k_asm); (case k3 => k_mem); (case k4 => first | l_ints | l_intsW); k_whole); intro h' tk' t' F' N'; (try simp only [List.sum_cons, List.sum_nil])))
  k_with "pyIter str" => ((k_here; (fail_if_success (fail_if_success with_reducible show wpAny _ _ (pyIter (Value.str _ _)) (LSrc _ _ _ _ _ _ _ _ _ _ _ _) _ _)); k_dflt (refine lsrc_strC [97, 98, 99, 100, 101, 102] (by rfl) (by rfl) (by k_asm) (by k_asm) (by rfl) (by rfl) (by first | (rw [sizeLine_eq]; exact Nat.le_of_ble_eq_true rfl) | size_fits) ?_); intro g' tk'))
  k_with "call type:zip" => ((k_here; k_dflt (refine dsrc_zip_slC [97, 98, 99, 100, 101, 102] (by rfl) (by rfl) (by k_asm) (by k_asm) (by k_mem) (by rfl) (by rfl) (by rfl) (by rfl) (by decide) (by first | (rw [sizeLine_eq]; exact Nat.le_of_ble_eq_true rfl) | size_fits) ?_); intro g' tk'))
  k_with "storeName" => ((k_here; (fail_if_success (fail_if_success k_dflt (show wpAny _ _ (storeName _ (Str.ofString "paints") _) _ _ _))); refine Stop.out ?_))
  with_unfolding_all have eb : lawBody.drop 2 = _ :: _ := rfl
  with_unfolding_all have es : lawScope = ⟨_, _, _, _, _⟩ := rfl
  unfold lawEnv
  rw [eb, es]
  clear eb es
  revert X; k_fill; intro X
  k_dflt (try k_fold)
  k_steps
  refine Stop.intro ?_
  (rename Fr _ _ _ _ => F9); (rename News _ _ _ _ => N9); (rename KeepD _ => K9); (rename @LT.lt Addr _ L _ => l9)
  have pd := pd_of6N N9 (c0 := 97) (c1 := 98) (c2 := 99) (c3 := 100) (c4 := 101) (c5 := 102) (q0 := paintOf n0) (q1 := paintOf n1) (q2 := paintOf n2) (q3 := paintOf n3) (q4 := paintOf n4) (q5 := paintOf n5) (by decide) (by k_mem) K9 (not_sys X F9 l9) ⟨_, _, _, by k_mem⟩ ⟨_, _, _, by k_mem⟩ ⟨_, _, _, by k_mem⟩ ⟨_, _, _, by k_mem⟩ ⟨_, _, _, by k_mem⟩ ⟨_, _, _, by k_mem⟩
  k_dflt (refine cell_store F9 N9 (c := L + 1) (by rfl) (by k_mem) hz0 ?_ (by rfl) (by rfl))
  intro h2 o2 F2 d2 N2
  obtain ⟨nw, pd2, off, sub, N3⟩ := settle (v0 := none) (ta := #[]) (tb := #[]) N9 N2 (o1 := o1) (by k_mem) hz0 (by k_mem) (by k_mem) pd
  dsimp only
  with_unfolding_all refine hret _ _ _ _ nw (sub _ (by k_mem) ?_ ?_ ?_) d2 pd2 off F2 N3
  · exact news_ne_data N9 (by k_mem) (o' := o1) (by k_mem) (by rw [hz0]; intro h; cases h)
  · exact news_ne_data N9 (by k_mem) (o' := tabOf #[]) (by k_mem) (by intro h; cases h)
  · exact news_ne_data N9 (by k_mem) (o' := tabOf #[]) (by k_mem) (by intro h; cases h)
end Mine
end
section
open PySem PySem.Spec PySem.Calls PySem.W PyProof.Rows PySem.Flt PyProof.Rows.LCg
set_option maxRecDepth 100000
namespace Mine
/-- an object that is neither a dict nor a tuple -/
def Hd (o : Obj) : Prop := ((∀ es ep, Data.dict es ep ≠ o.data) ∨ Value.type "dict" ≠ o.cls) ∧ ((∀ xs k, Data.seq xs k ≠ o.data) ∨ Value.type "tuple" ≠ o.cls)
noncomputable def offB (as : List Addr) (a : Addr) : Bool := as.all fun b => a != b
theorem offB_iff {as : List Addr} {a : Addr} : offB as a = true ↔ ∀ b ∈ as, a ≠ b := by
  unfold offB
  rw [List.all_eq_true]
  exact forall_congr' fun _ => imp_congr Iff.rfl bne_iff_ne
theorem Hd.tab (ps : Array Value) : Hd (tabOf ps) := ⟨.inl fun _ _ h => by (show False; cases h), .inl fun _ _ h => by (show False; cases h)⟩
theorem Hd.cell {o : Obj} {v : Option Value} (e : o.data = .cell v) : Hd o := ⟨.inl fun _ _ h => by (rw [e] at h; cases h), .inl fun _ _ h => by (rw [e] at h; cases h)⟩
theorem Hd.list (its : Array Value) (k : Nat) : Hd (W.listOf its k) := ⟨.inl fun _ _ h => by (cases h), .inr fun h => by (injection h with h; exact absurd h (by decide))⟩
section
variable {prog : Program} {w : World} {h₀ h : Heap} {L : Addr} {led : List (Addr × Obj)}
theorem Hd.other {o : Obj} {c : String} (e : o.cls = .type c) (h1 : c ≠ "dict") (h2 : c ≠ "tuple") : Hd o := ⟨.inr (by rw [e]; intro h; injection h with h; exact h1 h.symm), .inr (by rw [e]; intro h; injection h with h; exact h2 h.symm)⟩
theorem pd_ne_cls {D : Addr} {l : List (Str × P3)} {c : Addr} {o : Obj} (N : News h₀ L h led) (P : PaintDict prog w led D l) (h2 : (c, o) ∈ led) (hne : Value.type "dict" ≠ o.cls) : D ≠ c := by
  obtain ⟨oD, rs, hm, _, ⟨es, ep, e, _⟩, _⟩ := P
  exact news_ne N hm h2 (by rw [e.1]; exact hne)
theorem off_pd {D : Addr} {l : List (Str × P3)} (as : List Addr) (N : News h₀ L h led) (ha : ∀ a ∈ as, ∃ o, (a, o) ∈ led ∧ Hd o) (pd : PaintDict prog w led D l) : PaintDict prog w (led.filter fun p => offB as p.1) D l := by
  refine pd.filter (offB as) (offB_iff.mpr fun b hb => ?_) fun a p hp => offB_iff.mpr fun b hb => ?_
  · obtain ⟨o, ho, hh⟩ := ha b hb
    rcases hh.1 with q | q
    · exact pd_ne_data N pd ho q
    · exact pd_ne_cls N pd ho q
  · obtain ⟨o, ho, hh⟩ := ha b hb
    rcases hh.2 with q | q
    · exact hp_ne_data N hp ho q
    · exact hp_ne_cls N hp ho q
theorem off_tup {a : Addr} {xs : Array Value} (as : List Addr) (N : News h₀ L h led) (ha : ∀ a ∈ as, ∃ o, (a, o) ∈ led ∧ Hd o) (hm : (a, ({ cls := .type "tuple", data := .seq xs } : Obj)) ∈ led) : (a, ({ cls := .type "tuple", data := .seq xs } : Obj)) ∈ led.filter fun p => offB as p.1 := by
  refine List.mem_filter.mpr ⟨hm, offB_iff.mpr fun b hb => ?_⟩
  obtain ⟨o, ho, hh⟩ := ha b hb
  rcases hh.2 with q | q
  · exact news_ne_data N hm ho (q _ _)
  · exact news_ne N hm ho q
theorem off_out {as : List Addr} : ∀ p ∈ led.filter (fun p => offB as p.1), ∀ b ∈ as, p.1 ≠ b := fun p hp => offB_iff.mp (List.mem_filter.mp hp).2
theorem off_sub {as : List Addr} : Sub (led.filter fun p => offB as p.1) led := fun p hp => (List.mem_filter.mp hp).1
end
/-- the points of the six paints, in a list -/
inductive PtsIn (nw : List (Addr × Obj)) (P : Addr) (q0 q1 q2 q3 q4 q5 : P3) : Prop
  | mk (k : Nat) (a0 a1 a2 a3 a4 a5 : Addr) (u0 u1 u2 u3 u4 u5 v0 v1 v2 v3 v4 v5 : Tok) (h0 : (P, ({ cls := .type "list", data := .seq #[.ref a0, .ref a1, .ref a2, .ref a3, .ref a4, .ref a5] k } : Obj)) ∈ nw) (h1 : (a0, ({ cls := .type "tuple", data := .seq #[.int (q0.1 - q0.2.2) u0, .int (q0.2.1 - q0.2.2) v0] } : Obj)) ∈ nw) (h2 : (a1, ({ cls := .type "tuple", data := .seq #[.int (q1.1 - q1.2.2) u1, .int (q1.2.1 - q1.2.2) v1] } : Obj)) ∈ nw) (h3 : (a2, ({ cls := .type "tuple", data := .seq #[.int (q2.1 - q2.2.2) u2, .int (q2.2.1 - q2.2.2) v2] } : Obj)) ∈ nw) (h4 : (a3, ({ cls := .type "tuple", data := .seq #[.int (q3.1 - q3.2.2) u3, .int (q3.2.1 - q3.2.2) v3] } : Obj)) ∈ nw) (h5 : (a4, ({ cls := .type "tuple", data := .seq #[.int (q4.1 - q4.2.2) u4, .int (q4.2.1 - q4.2.2) v4] } : Obj)) ∈ nw) (h6 : (a5, ({ cls := .type "tuple", data := .seq #[.int (q5.1 - q5.2.2) u5, .int (q5.2.1 - q5.2.2) v5] } : Obj)) ∈ nw)
theorem PtsIn.sub {a b : List (Addr × Obj)} {P : Addr} {q0 q1 q2 q3 q4 q5 : P3} (h : PtsIn a P q0 q1 q2 q3 q4 q5) (s : Sub a b) : PtsIn b P q0 q1 q2 q3 q4 q5 := by
  obtain ⟨k, a0, a1, a2, a3, a4, a5, u0, u1, u2, u3, u4, u5, v0, v1, v2, v3, v4, v5, h, h0, h1, h2, h3, h4, h5⟩ := h
  exact ⟨k, a0, a1, a2, a3, a4, a5, u0, u1, u2, u3, u4, u5, v0, v1, v2, v3, v4, v5, s _ h, s _ h0, s _ h1, s _ h2, s _ h3, s _ h4, s _ h5⟩
theorem Fr_map {h₀ h : Heap} {L : Addr} {m m' : Str → Option Value} (F : Fr h₀ L h m) (e : ∀ y, m y = m' y) : Fr h₀ L h m' := by
  have : m = m' := funext e
  rw [← this]; exact F
theorem sum_parts {n0 n1 n2 n3 n4 n5 : Int} (h : Six n0 n1 n2 n3 n4 n5) : ∃ lf tot : Nat, lf < 6 ∧ (n0 + (n1 + (n2 + (n3 + (n4 + (n5 + 0)))))).fmod 6 = (lf : Int) ∧ (n0 + (n1 + (n2 + (n3 + (n4 + (n5 + 0)))))).fdiv 6 = (tot : Int) := by
  unfold Six at h
  refine ⟨((n0 + (n1 + (n2 + (n3 + (n4 + (n5 + 0)))))) % 6).toNat, ((n0 + (n1 + (n2 + (n3 + (n4 + (n5 + 0)))))) / 6).toNat, by grind, ?_, ?_⟩
  · rw [Int.fmod_eq_emod_of_nonneg _ (by decide)]; lia
  · rw [Int.fdiv_eq_ediv_of_nonneg _ (by decide)]; lia
theorem law2_end {prog : Program} {w : World} {h₀ h : Heap} {L : Addr} {led : List (Addr × Obj)} {c tr P D : Addr} {o : Obj} {v : Option Value} {l : List (Str × P3)} {w0 w1 w2 w3 w4 w5 : Tok} {q0 q1 q2 q3 q4 q5 : P3} {ta tb : Array Value}
    (N : News h₀ L h led) (m98 : ((98 : Addr), tabOf ta) ∈ led) (m23 : ((23 : Addr), tabOf tb) ∈ led) (mc : (c, o) ∈ led) (hd : o.data = .cell v)
    (mt : (tr, W.listOf #[.int 3 w0, .int 4 w1, .int 5 w2, .int 6 w3, .int 7 w4, .int 8 w5] 0) ∈ led) (pd : PaintDict prog w led D l) (pts : PtsIn led P q0 q1 q2 q3 q4 q5) :
    ∃ nw ws, IntsAre ws [3, 4, 5, 6, 7, 8] ∧ PaintDict prog w nw D l ∧ PtsIn nw P q0 q1 q2 q3 q4 q5 ∧ (∀ p ∈ nw, p.1 ≠ 98 ∧ p.1 ≠ 23 ∧ p.1 ≠ c ∧ p.1 ≠ tr) ∧ News h₀ L h ((98, tabOf ta) :: (23, tabOf tb) :: (c, o) :: (tr, W.listOf ws.toArray 0) :: nw) := by
  have ha : ∀ a ∈ [98, 23, c, tr], ∃ o, (a, o) ∈ led ∧ Hd o := by
    intro a h
    simp only [List.mem_cons, List.not_mem_nil, or_false] at h
    rcases h with rfl | rfl | rfl | rfl
    · exact ⟨_, m98, Hd.tab _⟩
    · exact ⟨_, m23, Hd.tab _⟩
    · exact ⟨_, mc, Hd.cell hd⟩
    · exact ⟨_, mt, Hd.list _ _⟩
  refine ⟨led.filter fun p => offB [98, 23, c, tr] p.1, [.int 3 w0, .int 4 w1, .int 5 w2, .int 6 w3, .int 7 w4, .int 8 w5], ?_, off_pd _ N ha pd, ?_, fun p hp => ?_, ?_⟩
  · exact .cons _ _ (.cons _ _ (.cons _ _ (.cons _ _ (.cons _ _ (.cons _ _ .nil)))))
  · obtain ⟨k, a0, a1, a2, a3, a4, a5, u0, u1, u2, u3, u4, u5, v0, v1, v2, v3, v4, v5, h, h0, h1, h2, h3, h4, h5⟩ := pts
    refine ⟨k, a0, a1, a2, a3, a4, a5, u0, u1, u2, u3, u4, u5, v0, v1, v2, v3, v4, v5, List.mem_filter.mpr ⟨h, offB_iff.mpr fun b hb => ?_⟩, off_tup _ N ha h0, off_tup _ N ha h1, off_tup _ N ha h2, off_tup _ N ha h3, off_tup _ N ha h4, off_tup _ N ha h5⟩
    simp only [List.mem_cons, List.not_mem_nil, or_false] at hb
    rcases hb with rfl | rfl | rfl | rfl
    · exact news_ne_data N h m98 (by intro q; cases q)
    · exact news_ne_data N h m23 (by intro q; cases q)
    · exact news_ne_data N h mc (by rw [hd]; intro q; cases q)
    · exact news_ne_data N h mt (by intro q; simp at q)
  · have := off_out p hp
    exact ⟨this _ (by simp), this _ (by simp), this _ (by simp), this _ (by simp)⟩
  · exact news_sub N (Sub.cons m98 (Sub.cons m23 (Sub.cons mc (Sub.cons mt off_sub))))
end Mine
end
section
open PySem PySem.Spec PySem.Calls PySem.W PyProof.Rows PySem.Flt
set_option maxRecDepth 100000
set_option maxHeartbeats 8000000
namespace Mine
abbrev PointClaim (w : World) (pv : Program) (lo : List Str) (mean : ExcName → Option Value) (mg mb : Str → Option Value) : Prop :=
  ∀ (dp un : Nat) (gd : Option (List Code)) (cn : Str) (cs : Scope) (a : Addr) (ccd : Value) (cl : List (Str × Addr)) (outer : List Env) (A₀ : Around) (base h₀ : Heap) (L : Addr) (m : Str → Option Value) (s : Shared) (Q E : Value → Shared → Prop) (news : List (Addr × Obj)) (p : Addr) (r g b : Int) (t1 t2 t3 : Tok),
    Below A₀ base outer h₀ → Fr h₀ L s.heap m → (hd.heap_1 w.params).In h₀ → News h₀ L s.heap news → Top pv lo mean mg mb h₀ → cs.kind = .function →
    dp + 1 < recursionLimit → un + 8 < cLine →
    ((p, { cls := .type "tuple", data := .seq #[.int r t1, .int g t2, .int b t3] }) ∈ news) →
    (∀ D h' tk t1 t2, Fr h₀ L h' m → News h₀ L h' ((D, { cls := .type "tuple", data := .seq #[.int (r - b) t1, .int (g - b) t2] }) :: news) → (∀ p ∈ news, p.1 < D) → Q (.ref D) { s with heap := h', toks := tk }) →
      wpAny (model PySem.Challenge.rw_wo0025_01.row.prog w) (ktrTop dp un gd cn cs L a ccd cl outer) (call (.ref 150) [.ref p]) Q E s
theorem point (w : World) (pv : Program) (lo : List Str) (mean : ExcName → Option Value) (mg mb : Str → Option Value) : PointClaim w pv lo mean mg mb := by
  w_top off
  k_with_none
  delta PointClaim
  k_fill
  intro dp un gd cn cs a ccd cl outer A₀ base h₀ L m s Q E news p r g b t1 t2 t3 B F X N T hk hd hu hp hret
  refine wpAny_call ?_
  k_dflt cell_enter
  k_steps
  all_goals exact hret _ _ _ _ _ (by k_asm) (by k_asm) (by first | assumption | exact allLt_all (by assumption))
end Mine
end
section
open PySem PySem.Spec PySem.Calls PySem.W PyProof.Rows PySem.Flt
set_option maxRecDepth 100000
set_option maxHeartbeats 8000000
namespace Mine
theorem point_use {w : World} {pv : Program} {lo : List Str} {mean : ExcName → Option Value} {mg mb : Str → Option Value} {dp un : Nat} {gd : Option (List Code)} {cn : Str} {cs : Scope} {a : Addr} {ccd : Value} {cl : List (Str × Addr)} {outer : List Env} {A₀ : Around} {base h₀ : Heap} {L : Addr} {m : Str → Option Value} {s : Shared} {Q E : Value → Shared → Prop} {news : List (Addr × Obj)} {p : Addr} {r g b : Int} {t1 t2 t3 : Tok}
    (B : Below A₀ base outer h₀) (F : Fr h₀ L s.heap m) (X : (hd.heap_1 w.params).In h₀) (N : News h₀ L s.heap news) (T : Top pv lo mean mg mb h₀) (hk : cs.kind = .function)
    (hd : dp + 1 < recursionLimit) (hu : un + 8 < cLine)
    (hz0 : (p, { cls := .type "tuple", data := .seq #[.int r t1, .int g t2, .int b t3] }) ∈ news)
    (hret : ∀ D h' tk t1 t2, Fr h₀ L h' m → News h₀ L h' ((D, { cls := .type "tuple", data := .seq #[.int (r - b) t1, .int (g - b) t2] }) :: news) → (∀ p ∈ news, p.1 < D) → Q (.ref D) { s with heap := h', toks := tk }) :
    wpAny (model PySem.Challenge.rw_wo0025_01.row.prog w) (ktrTop dp un gd cn cs L a ccd cl outer) (call (.ref 150) [.ref p]) Q E s :=
  point w pv lo mean mg mb _ _ _ _ _ _ _ _ _ _ _ _ _ _ _ _ _ _ _ _ _ _ _ _ _  B F X N T hk hd hu hz0 hret
theorem law2 {w : World} {pv : Program} {lo : List Str} {mean : ExcName → Option Value} {mg mb : Str → Option Value} {fa : Addr} {cd : Value} {h₀ : Heap} {L : Addr} {s : Shared} {Q : Flow → Shared → Prop} {E : Value → Shared → Prop} {sc D G D' : Addr} {o : Obj} {n0 n1 n2 n3 n4 n5 : Int} {t0 t1 t2 t3 t4 t5 : Tok} {q0 q1 q2 q3 q4 q5 : P3} {nw : List (Addr × Obj)}
    (B : Below callerA h₀ [] h₀) (F : Fr h₀ L s.heap (fun y => if y = Str.ofString "numbers" then some (Value.ref D) else if y = Str.ofString "given" then some (Value.ref G) else if y = Str.ofString "script" then some (Value.ref sc) else none)) (X : (hd.heap_1 w.params).In h₀) (N : News h₀ L s.heap ((98, tabOf #[]) :: (23, tabOf #[]) :: (L + 1, o) :: nw)) (T : Top pv lo mean mg mb h₀)
    (hz0 : o.data = .cell (some (.ref D')))
    (hz1 : PaintDict PySem.Challenge.rw_wo0025_01.row.prog w nw D' [(⟨#[97]⟩, q0), (⟨#[98]⟩, q1), (⟨#[99]⟩, q2), (⟨#[100]⟩, q3), (⟨#[101]⟩, q4), (⟨#[102]⟩, q5)])
    (hz2 : (D, W.listOf #[.int n0 t0, .int n1 t1, .int n2 t2, .int n3 t3, .int n4 t4, .int n5 t5] 0) ∈ nw)
    (hz3 : Six n0 n1 n2 n3 n4 n5)
    (hret : ∀ h' tk P tr (lf tot : Nat) tl tt ws nw', lf < 6 → IntsAre ws [3, 4, 5, 6, 7, 8] → PaintDict PySem.Challenge.rw_wo0025_01.row.prog w nw' D' [(⟨#[97]⟩, q0), (⟨#[98]⟩, q1), (⟨#[99]⟩, q2), (⟨#[100]⟩, q3), (⟨#[101]⟩, q4), (⟨#[102]⟩, q5)] → PtsIn nw' P q0 q1 q2 q3 q4 q5 → (∀ p ∈ nw', p.1 ≠ 98 ∧ p.1 ≠ 23 ∧ p.1 ≠ L + 1 ∧ p.1 ≠ tr) → Fr h₀ L h' (fun y => if y = Str.ofString "left" then some (.int (lf : Int) tl) else if y = Str.ofString "total" then some (.int (tot : Int) tt) else if y = Str.ofString "turns" then some (Value.ref tr) else if y = Str.ofString "points" then some (Value.ref P) else if y = Str.ofString "numbers" then some (Value.ref D) else if y = Str.ofString "given" then some (Value.ref G) else if y = Str.ofString "script" then some (Value.ref sc) else none) → News h₀ L h' ((98, tabOf #[]) :: (23, tabOf #[]) :: (L + 1, o) :: (tr, W.listOf ws.toArray 0) :: nw') → wpAny (model PySem.Challenge.rw_wo0025_01.row.prog w) (callerA.deeper (lawEnv L fa cd)) (execs (lawBody.drop 5) (lawEnv L fa cd)) Q E { s with heap := h', toks := tk }) :
    wpAny (model PySem.Challenge.rw_wo0025_01.row.prog w) (callerA.deeper (lawEnv L fa cd)) (execs (lawBody.drop 3) (lawEnv L fa cd)) Q E s := by
  w_top off
  k_with_none
  k_with "eval ListComp" => ((k_here; k_dflt (refine ListComp_F (by k_asm) (by with_unfolding_all rfl) (by decide) (by rfl) (by decide) ?_ (by intro _; rfl))))
  k_with "exec Assign cons ListComp" => ((k_here; k_dflt (refine Assign_ListComp_F (by k_asm) (by rfl) (by with_unfolding_all rfl) (by with_unfolding_all rfl) (by decide) (by rfl) (by decide) (by rfl) (by rfl) ?_ (by intro _; rfl))))
  k_with "eval DictComp" => ((k_here; k_dflt (refine DictComp_F (by k_asm) (by rfl) (by decide) (by with_unfolding_all rfl) (by decide) (by rfl) (by decide) ?_ (by intro _; rfl))))
  k_with "exec Assign cons DictComp" => ((k_here; k_dflt (refine Assign_DictComp_F (by k_asm) (by rfl) (by with_unfolding_all rfl) (by rfl) (by decide) (by with_unfolding_all rfl) (by decide) (by rfl) (by decide) (by rfl) (by rfl) ?_ (by intro _; rfl))))
  k_with "pyIter ref" => ((k_here; (fail_if_success (fail_if_success with_reducible show wpAny _ _ (pyIter (Value.ref _)) (LSrc _ _ _ _ _ _ _ _ _ _ _ _) _ _)); k_dflt (first
  | refine lsrc_tup (by rfl) (by k_asm) (by k_asm) (by k_mem) (by rfl) (by rfl) (by first | (rw [sizeLine_eq]; exact Nat.le_of_ble_eq_true rfl) | size_fits) ?_
  | refine lsrc_list (by rfl) (by k_asm) (by k_asm) (by k_mem) (by rfl) (by rfl) (by first | (rw [sizeLine_eq]; exact Nat.le_of_ble_eq_true rfl) | size_fits) ?_); intro g' tk'))
  k_with "pyIter str" => ((k_here; k_dflt (first
  | ((with_reducible show wpAny _ _ (pyIter (Value.str _ _)) (LSrc _ _ _ _ _ _ _ _ _ _ _ _) _ _); refine lsrc_str (by rfl) (by k_asm) (by k_asm) (by rfl) (by rfl) (by first | (rw [sizeLine_eq]; exact Nat.le_of_ble_eq_true rfl) | size_fits) ?_)
  | ((with_reducible show wpAny _ _ (pyIter (Value.str _ _)) (DSrc _ _ _ _ _ _ _ _ _ _ _ _ _) _ _); refine dsrc_str (by rfl) (by k_asm) (by k_asm) (by rfl) (by rfl) (by first | (rw [sizeLine_eq]; exact Nat.le_of_ble_eq_true rfl) | size_fits) ?_)); intro g' tk'))
  k_with "LTurns" => (with_unfolding_all (refine LT.intro ?_; intro T9 nil9 cons9))
  k_with "LT" => (with_unfolding_all (first
  | (refine nil9 _ _ ?_)
  | (refine cons9 _ _ _ _ ?_; intro t9' u9' C' oC' mC' D' h' tk' nw' E' hns' hb' F' N' hC' hD' hsub'; (first | replace hb' := bound_one hb' | (have hb1' := (bound_two hb').1; have hb2' := (bound_two hb').2; clear hb')); (try k_sweep))))
  k_with "DTurns" => (with_unfolding_all (refine DT.intro ?_; intro T9 nil9 cons9))
  k_with "DT" => (with_unfolding_all (first
  | (refine nil9 _ _ ?_)
  | (refine cons9 _ _ _ _ _ ?_; intro t9' u9' C' oC' mC' D' oD' h' tk' nw' E' hns' hb' F' N' hC' hD' hdict' hsub'; (first | replace hb' := bound_one hb' | (have hb1' := (bound_two hb').1; have hb2' := (bound_two hb').2; clear hb')); (try k_sweep))))
  k_with "EltEnd" => ((k_dflt (first | refine LT.none (by k_asm) (by k_asm) ?_ | refine DT.none (by k_asm) (by k_asm) ?_ | refine LT.one (by k_asm) (by k_asm) (by k_asm) ?_ | refine DT.one (by k_asm) (by k_asm) (by k_asm) ?_ | refine LT.drop (by k_asm) (by k_asm) ?_ | refine DT.drop (by k_asm) (by k_asm) ?_)); (try (rename Sub _ _ => H; clear H)); (try (rename Obj.IsDictOf _ _ (stored _ _ _) => H; clear H)); (try (rename LCg.NsObj _ _ => H; clear H)); (try (rename (_ : Addr × Obj) ∈ (_ : List (Addr × Obj)) => H; clear H)); (try (rename (_ : Addr × Obj) ∈ (_ : List (Addr × Obj)) => H; clear H)); (try (rename InElt _ _ => H; clear H)); (try (rename ∀ p : Str × Value, p ∈ _ → _ = some _ => H; clear H)); (try k_sweep); (repeat (rename Value → Shared → Prop => H; clear H)))
  k_with "LFinE" => (((unfold LFinE); intro D' h' tk' F' N' o1'; (try simp only [List.nil_append, List.cons_append] at N' o1'); (try dsimp only)))
  k_with "LFinA" => (((unfold LFinA); intro D' h' tk' F' N' o1'; (try simp only [List.nil_append, List.cons_append] at N' o1'); (try dsimp only)))
  k_with "DFinE" => (((unfold DFinE); intro D' oD' h' tk' F' N' d1' lD' o1'; (replace d1' := KeepD.intro d1'); (try simp only [List.nil_append, List.cons_append] at N' o1'); (try dsimp only)))
  k_with "DFinA" => (((unfold DFinA); intro D' oD' h' tk' F' N' d1' lD' o1'; (replace d1' := KeepD.intro d1'); (try simp only [List.nil_append, List.cons_append] at N' o1'); (try dsimp only)))
  k_with "pyIter ref" => ((k_here; (fail_if_success (fail_if_success with_reducible show wpAny _ _ (pyIter (Value.ref _)) (LSrc _ _ _ _ _ _ _ _ (Expr.Tuple [_, _] _ _) _ _ _) _ _)); k_dflt (refine lsrc_pairs (by rfl) (by k_asm) (by k_asm) (by k_mem) (by repeat (first | exact Tups.nil | (apply Tups.cons; k_mem))) (by rfl) (by rfl) (by rfl) (by decide) (by first | (rw [sizeLine_eq]; exact Nat.le_of_ble_eq_true rfl) | size_fits) ?_); intro g' tk'))
  k_with "call builtin:sum" => ((k_here; (fail_if_success (fail_if_success with_reducible show wpAny _ _ (call (Value.builtin "sum") [Value.ref _]) _ _ _)); k_dflt (refine' sum_lst ?k0 ?k1 ?k2 ?k3 ?k4 ?_; (case k0 => rfl); (case k1 => k_asm); (case k2 => k_asm); (case k3 => k_mem); (case k4 => first | l_ints | l_intsW); k_whole); intro h' tk' t' F' N'; (try simp only [List.sum_cons, List.sum_nil])))
  k_with "pyIter str" => ((k_here; (fail_if_success (fail_if_success with_reducible show wpAny _ _ (pyIter (Value.str _ _)) (LSrc _ _ _ _ _ _ _ _ _ _ _ _) _ _)); k_dflt (refine lsrc_strC [97, 98, 99, 100, 101, 102] (by rfl) (by rfl) (by k_asm) (by k_asm) (by rfl) (by rfl) (by first | (rw [sizeLine_eq]; exact Nat.le_of_ble_eq_true rfl) | size_fits) ?_); intro g' tk'))
  k_with "call type:zip" => ((k_here; k_dflt (refine dsrc_zip_slC [97, 98, 99, 100, 101, 102] (by rfl) (by rfl) (by k_asm) (by k_asm) (by k_mem) (by rfl) (by rfl) (by rfl) (by rfl) (by decide) (by first | (rw [sizeLine_eq]; exact Nat.le_of_ble_eq_true rfl) | size_fits) ?_); intro g' tk'))
  k_with "eval Name" => ((k_here; (fail_if_success (fail_if_success with_reducible show wpAny _ _ (eval (Expr.Name _ _) (compEnvC _ _ _ _)) _ _ _)); k_dflt (first
  | (refine' lcf_cell ?N ?c ?m ?d ?_ ?a ?b; (case a => rfl); (case b => rfl); (case N => k_asm); (case c => rfl); (case m => k_mem); (case d => k_asm); k_whole)
  | (refine' lcf_free ?N ?c ?m ?d ?_ ?a ?b; (case a => rfl); (case b => rfl); (case N => k_asm); (case c => rfl); (case m => k_mem); (case d => k_asm); k_whole))))
  k_with "subscriptTail Name Name ref str" => ((k_here; k_dflt (refine kda_item (knd := PySem.strKind _ _) (by k_asm) (by k_mem) (by with_reducible assumption) (strKind_is _ _ _ _) (by with_reducible assumption) ?_)))
  k_with "execs cons" => ((k_here; (fail_if_success (fail_if_success with_reducible show wpAny _ _ (execs (Stmt.Expr _ _ :: _) _) _ _ _)); refine Stop.out ?_))
  k_with "call ref" => ((k_here; (fail_if_success (fail_if_success with_reducible show wpAny _ _ (call (Value.ref 150) [Value.ref _]) _ _ _)); k_dflt (refine' point_use ?k1 ?k2 ?k3 ?k4 ?k5 ?kK ?kd ?ku ?kz0 ?_; (case k1 => k_asm); (case k2 => k_asm); (case k3 => k_asm); (case k4 => k_asm); (case k5 => k_asm); (case kK => first | exact rfl | assumption); (case kd => ktr_room); (case ku => ktr_units); (case kz0 => k_mem); k_whole; intro D' h' tk' t1' t2' F' N' l1'; (try k_sweep)); walk_say "ASKED point"))
  k_with "eval Call" => ((k_here; (fail_if_success (fail_if_success k_dflt (show wpAny _ _ (eval (Expr.Call (Expr.Name (Str.ofString "_law_point") _) _ _ _) (compEnvC _ _ _ _)) _ _ _))); k_dflt (refine Call_ ?_)))
  with_unfolding_all have eb : lawBody.drop 3 = _ :: _ := rfl
  with_unfolding_all have es : lawScope = ⟨_, _, _, _, _⟩ := rfl
  unfold lawEnv
  rw [eb, es]
  clear eb es
  revert X; k_fill; intro X
  obtain ⟨oD, rs, mD, sD, iD, eD, qD⟩ := hz1
  obtain ⟨a0, v0, t00, t01, t02, y0⟩ := paint_look (k := ⟨#[97]⟩) (q := q0) rs qD (by rw [eD]; rfl)
  obtain ⟨a1, v1, t10, t11, t12, y1⟩ := paint_look (k := ⟨#[98]⟩) (q := q1) rs qD (by rw [eD]; rfl)
  obtain ⟨a2, v2, t20, t21, t22, y2⟩ := paint_look (k := ⟨#[99]⟩) (q := q2) rs qD (by rw [eD]; rfl)
  obtain ⟨a3, v3, t30, t31, t32, y3⟩ := paint_look (k := ⟨#[100]⟩) (q := q3) rs qD (by rw [eD]; rfl)
  obtain ⟨a4, v4, t40, t41, t42, y4⟩ := paint_look (k := ⟨#[101]⟩) (q := q4) rs qD (by rw [eD]; rfl)
  obtain ⟨a5, v5, t50, t51, t52, y5⟩ := paint_look (k := ⟨#[102]⟩) (q := q5) rs qD (by rw [eD]; rfl)
  k_dflt (try k_fold)
  k_steps
  refine Stop.intro ?_
  (rename Fr _ _ _ _ => F9); (rename News _ _ _ _ => N9)
  obtain ⟨lf, tot, hlf, el, et⟩ := sum_parts hz3
  rw [el, et] at F9
  obtain ⟨nw2, ws, hI, pd2, pts2, off2, N2⟩ := law2_end (c := L + 1) (o := o) N9 (by k_mem) (by k_mem) (by k_mem) hz0 (by k_mem) (⟨oD, rs, by k_mem, sD, iD, eD, fun r hr => (qD r hr).sub (by repeat (first | exact Sub.same | refine Sub.skip ?_))⟩) (⟨_, _, _, _, _, _, _, _, _, _, _, _, _, _, _, _, _, _, _, by k_mem, by k_mem, by k_mem, by k_mem, by k_mem, by k_mem, by k_mem⟩)
  with_unfolding_all refine hret _ _ _ _ lf tot _ _ ws nw2 hlf hI pd2 pts2 off2 F9 N2
end Mine
end
section
open PySem PySem.Spec PySem.Calls PySem.W PyProof.Rows PySem.Flt
set_option maxRecDepth 100000
set_option maxHeartbeats 8000000
namespace Mine
theorem rd_empty : RD emptyDict := ⟨rfl, rfl, rfl, .inl rfl⟩
abbrev NewClaim (w : World) (pv : Program) (lo : List Str) (mean : ExcName → Option Value) (mg mb : Str → Option Value) : Prop :=
  ∀ (dp un : Nat) (gd : Option (List Code)) (cn : Str) (cs : Scope) (a : Addr) (ccd : Value) (cl : List (Str × Addr)) (outer : List Env) (A₀ : Around) (base h₀ : Heap) (L : Addr) (m : Str → Option Value) (s : Shared) (Q E : Value → Shared → Prop) (news : List (Addr × Obj)) (n : Int) (t1 : Tok),
    Below A₀ base outer h₀ → Fr h₀ L s.heap m → (hd.heap_1 w.params).In h₀ → News h₀ L s.heap news → Top pv lo mean mg mb h₀ → cs.kind = .function →
    dp + 2 < recursionLimit → un + 16 < cLine →
    (∀ x dx h' tk od, RD od → Fr h₀ L h' m → News h₀ L h' ((x, ringObj dx #[] 0) :: (dx, od) :: news) → (∀ p ∈ news, p.1 < dx) → @LT.lt Nat _ dx x → Q (.ref x) { s with heap := h', toks := tk }) →
      wpAny (model PySem.Challenge.rw_wo0025_01.row.prog w) (ktrTop dp un gd cn cs L a ccd cl outer) (call (.ref 129) [.int n t1]) Q E s
theorem new (w : World) (pv : Program) (lo : List Str) (mean : ExcName → Option Value) (mg mb : Str → Option Value) : NewClaim w pv lo mean mg mb := by
  w_top off
  k_with_none
  k_with "wpAt" => (((fail_if_success first | ks_step "execs cons" | ks_step "exec Expr" | ks_step "exec Return" | ks_step "exec Assign" | ks_step "exec If" | ks_step "eval BinOp" | ks_step "eval Call" | ks_step "attributeBase Call"); dsimp only))
  k_with "wpAt" => (k_dflt (ks_step "eval Call"; refine ks_wpAt_MethodCall ?_))
  k_with "wpAt" => (k_dflt (ks_step "exec Return"; refine ks_wpAt_Return_some ?_))
  k_with "wpAt" => (k_dflt (ks_step "exec Expr"; refine ks_wpAt_Expr_any ?_))
  k_with "wpAt" => ((ks_step "attributeBase Call"; k_here; k_dflt (refine' ks_node ?F ?X ?N ?T ?hf ?hp ?hv ?I ?hcode ?hvs ?hfile ?hcell ?hD ?hsub ?hsuper ?hat ?hks ?hkc ?hka ?hk ?htop ?hboot ?_; (case F => k_asm); (case X => k_asm); (case N => k_asm); (case T => k_asm); (case hf => k_is); (case hp => rfl); (case hv => rfl); (case I => (refine' ring_instN ?Ia ?Ib ?Ic; (case Ia => k_asm); (case Ib => k_mem); (case Ic => k_mem))); (case hcode => k_is); (case hvs => rfl); (case hfile => first | rfl | decide +kernel); (case hcell => k_is); (case hD => k_is); (case hsub => k_is); (case hsuper => k_is); (case hat => decide); (case hks => rfl); (case hkc => rfl); (case hka => rfl); (case hk => rfl); (case htop => decide +kernel); (case hboot => first | boot_by_name | rfl | kernel_rfl); intro so' h' F' N' l1; (try k_lt l1); (try k_sweep))))
  k_with "getMethod ref" => ((k_here; k_dflt (refine' ring_meth ?rF ?rX ?rN ?rx ?rd ?rr ?rf ?rt ?ru ?rs ?_; (case rF => k_asm); (case rX => k_asm); (case rN => k_asm); (case rx => k_mem); (case rd => k_mem); (case rr => assumption); (case rf => k_is); (case rt => first | k_is | rfl); (case ru => decide); (case rs => (intro _ _ _; rfl)); k_whole)))
  k_with "call builtin:list.append" => ((k_here; (fail_if_success (fail_if_success with_reducible show wpAny _ _ (call (Value.builtin _) [Value.ref _, _]) _ _ _)); k_dflt (refine' ring_append ?rF ?rX ?rN ?rU ?rz ?_; (case rF => k_asm); (case rX => k_asm); (case rN => k_asm); (case rU => k_upd); (case rz => first | decide | size_fits | assumption); k_whole); intro h' F' N'; (try k_sweep)))
  k_with "getMethod ref" => ((k_here; k_dflt (first
  | (refine' ring_super (name := "pop") ?rF ?rX ?rN ?rs ?rx bnd_pop ?rf ?rn ?_; (case rF => k_asm); (case rX => k_asm); (case rN => k_asm); (case rs => k_mem); (case rx => k_mem); (case rf => kernel_rfl); (case rn => decide); k_whole)
  | (refine' ring_super (name := "__len__") ?rF ?rX ?rN ?rs ?rx bnd_len ?rf ?rn ?_; (case rF => k_asm); (case rX => k_asm); (case rN => k_asm); (case rs => k_mem); (case rx => k_mem); (case rf => kernel_rfl); (case rn => decide); k_whole)
  | (refine' ring_super (name := "__init__") ?rF ?rX ?rN ?rs ?rx bnd_init ?rf ?rn ?_; (case rF => k_asm); (case rX => k_asm); (case rN => k_asm); (case rs => k_mem); (case rx => k_mem); (case rf => kernel_rfl); (case rn => decide); k_whole)); intro q' h' F' N' l1; (try k_lt l1); (try k_sweep); (try dsimp only)))
  k_with "call ref" => ((k_here; (fail_if_success (fail_if_success with_reducible show wpAny _ _ (call (Value.ref _) []) _ _ _)); k_dflt (first
  | (refine' ring_callLen ?rN ?rq ?rx ?_; (case rN => k_asm); (case rq => k_mem); (case rx => k_mem); k_whole; intro t')
  | (refine' ring_callPop ?rF ?rX ?rN ?rq ?rU ?_; (case rF => k_asm); (case rX => k_asm); (case rN => k_asm); (case rq => k_mem); (case rU => k_upd); k_whole; intro h' F' N'; (try k_sweep))
  | (refine' ring_callInit ?rF ?rN ?rq ?rx ?_; (case rF => k_asm); (case rN => k_asm); (case rq => k_mem); (case rx => k_mem); k_whole; intro h' F' N'; (try k_sweep)))))
  k_with "setAttr ref" => ((k_here; k_dflt (refine' ring_store ?rF ?rX ?rN ?rx ?rU ?rr ?_; (case rF => k_asm); (case rX => k_asm); (case rN => k_asm); (case rx => k_mem); (case rU => k_updF); (case rr => assumption); k_whole); intro od' h' tk' rd' F' N'; (try dsimp only at N'); (try k_sweep)))
  k_with "subscriptTail Name Slice ref ref" => ((k_here; (fail_if_success (fail_if_success with_reducible show wpAny _ _ (subscriptTail _ (PySem.Expr.Slice _ _ none _) (Value.ref _) (Value.ref _)) _ _ _)); k_dflt (refine' ring_rest ?rF ?rX ?rN ?rx ?_ ?s ?t; (case rF => k_asm); (case rX => k_asm); (case rN => k_asm); (case rx => k_mem); (case s => with_unfolding_all rfl); (case t => kmk_pure)); intro D' h' F' N' l1; (try k_lt l1); (try k_sweep)))
  k_with "setItem ref ref" => ((k_here; k_dflt (first
  | (refine' ring_cut6 ?rF ?rX ?rN ?rl ?rU ?_; (case rF => k_asm); (case rX => k_asm); (case rN => k_asm); (case rl => k_mem); (case rU => k_upd))
  | (refine' ring_cut0 ?rF ?rX ?rN ?rl ?rU ?_; (case rF => k_asm); (case rX => k_asm); (case rN => k_asm); (case rl => first | k_mem | (refine List.Mem.tail _ (List.Mem.tail _ ?_); assumption)); (case rU => k_upd))); intro h' F' N'; (try k_sweep)))
  k_with "callWith ref" => ((k_here; (fail_if_success (fail_if_success with_reducible show wpAny _ _ (callWith _ (Value.ref _) [] (backTo _ (starEach [] _)) []) _ _ _)); k_dflt (refine' callWith_bnd ?rN ?rq ?rg ?_; (case rN => k_asm); (case rq => k_mem); (case rg => first | exact .inl rfl | exact .inr rfl))))
  delta NewClaim
  k_fill
  intro dp un gd cn cs a ccd cl outer A₀ base h₀ L m s Q E news n t1 B F X N T hk hd hu hret
  refine wpAny_call ?_
  refine acc_make F N (X.keeps F.keep) fun x dx h' F' N' l8 l9 => ?_
  have rd0 := rd_empty
  have l2 : @LT.lt Nat _ dx x := l9
  have l3 : AllLt dx news := allLt_of l8
  k_dflt  (refine' ks_code_super ?k1 ?k2 ?k3 ?k4 ?k5 ?kA ?kF ?kK ?k6 ?k7 ?k8 ?k9 ?kB ?_ ?c1 ?c2 ?c3 ?c4; (case kA => exact rfl); (case kF => exact rfl); (case kK => assumption); (case k1 => k_asm); (case k2 => k_asm); (case k3 => k_asm); (case k4 => k_asm); (case k5 => k_asm); (case k6 => k_is); (case k7 => k_is); (case k8 => ktr_room); (case k9 => first | exact BindsTo.of_eq rfl | exact binds_K (by k_in) rfl (by k_is) rfl rfl rfl); (case kB => exact locs rfl); (case c1 => decide); (case c2 => exact rfl); (case c3 => exact rfl); (case c4 => exact rfl); k_whole; intro g' L' h' FG' F' N' B' X' T' l1; (try k_lt l1); (try dsimp only); (try k_lift B'))
  k_steps
  all_goals ((rename Fr h₀ L _ m => F1); (rename News h₀ L _ _ => N1); (rename RD _ => r1); exact hret _ _ _ _ _ r1 F1 (news_sub N1 (Sub.skip (Sub.skip Sub.same))) l8 l9)
end Mine
end
section
open PySem PySem.Spec PySem.Calls PySem.W PyProof.Rows PySem.Flt
set_option maxRecDepth 100000
set_option maxHeartbeats 8000000
namespace Mine
theorem new_use {w : World} {pv : Program} {lo : List Str} {mean : ExcName → Option Value} {mg mb : Str → Option Value} {dp un : Nat} {gd : Option (List Code)} {cn : Str} {cs : Scope} {a : Addr} {ccd : Value} {cl : List (Str × Addr)} {outer : List Env} {A₀ : Around} {base h₀ : Heap} {L : Addr} {m : Str → Option Value} {s : Shared} {Q E : Value → Shared → Prop} {news : List (Addr × Obj)} {n : Int} {t1 : Tok}
    (B : Below A₀ base outer h₀) (F : Fr h₀ L s.heap m) (X : (hd.heap_1 w.params).In h₀) (N : News h₀ L s.heap news) (T : Top pv lo mean mg mb h₀) (hk : cs.kind = .function)
    (hd : dp + 2 < recursionLimit) (hu : un + 16 < cLine)
    (hret : ∀ x dx h' tk od, RD od → Fr h₀ L h' m → News h₀ L h' ((x, ringObj dx #[] 0) :: (dx, od) :: news) → (∀ p ∈ news, p.1 < dx) → @LT.lt Nat _ dx x → Q (.ref x) { s with heap := h', toks := tk }) :
    wpAny (model PySem.Challenge.rw_wo0025_01.row.prog w) (ktrTop dp un gd cn cs L a ccd cl outer) (call (.ref 129) [.int n t1]) Q E s :=
  new w pv lo mean mg mb _ _ _ _ _ _ _ _ _ _ _ _ _ _ _ _ _ _ _ _  B F X N T hk hd hu  hret
theorem law3 {w : World} {pv : Program} {lo : List Str} {mean : ExcName → Option Value} {mg mb : Str → Option Value} {fa : Addr} {cd : Value} {h₀ : Heap} {L : Addr} {s : Shared} {Q : Flow → Shared → Prop} {E : Value → Shared → Prop} {sc D G P tr : Addr} {o : Obj} {lf tot : Nat} {tl tt : Tok} {ws : List Value} {nw : List (Addr × Obj)}
    (B : Below callerA h₀ [] h₀) (F : Fr h₀ L s.heap (fun y => if y = Str.ofString "left" then some (.int (lf : Int) tl) else if y = Str.ofString "total" then some (.int (tot : Int) tt) else if y = Str.ofString "turns" then some (Value.ref tr) else if y = Str.ofString "points" then some (Value.ref P) else if y = Str.ofString "numbers" then some (Value.ref D) else if y = Str.ofString "given" then some (Value.ref G) else if y = Str.ofString "script" then some (Value.ref sc) else none)) (X : (hd.heap_1 w.params).In h₀) (N : News h₀ L s.heap ((98, tabOf #[]) :: (23, tabOf #[]) :: (L + 1, o) :: (tr, W.listOf ws.toArray 0) :: nw)) (T : Top pv lo mean mg mb h₀)
    (hz0 : lf < 6)
    (hz1 : IntsAre ws [3, 4, 5, 6, 7, 8])
    (hz2 : ∃ v, o.data = .cell v)
    (hz3 : ∀ p ∈ nw, p.1 ≠ 98 ∧ p.1 ≠ 23 ∧ p.1 ≠ L + 1 ∧ p.1 ≠ tr)
    (hret : ∀ h' tk x dx od ws', IntsAre ws' ([3, 4, 5, 6, 7, 8].eraseIdx lf) → RD od → @LT.lt Nat _ dx x → (∀ p ∈ ((98, tabOf #[]) :: (23, tabOf #[]) :: (L + 1, o) :: (tr, W.listOf ws'.toArray 1) :: nw), @LT.lt Nat _ p.1 dx) → Fr h₀ L h' (fun y => if y = Str.ofString "ring" then some (Value.ref x) else if y = Str.ofString "left" then some (.int (lf : Int) tl) else if y = Str.ofString "total" then some (.int (tot : Int) tt) else if y = Str.ofString "turns" then some (Value.ref tr) else if y = Str.ofString "points" then some (Value.ref P) else if y = Str.ofString "numbers" then some (Value.ref D) else if y = Str.ofString "given" then some (Value.ref G) else if y = Str.ofString "script" then some (Value.ref sc) else none) → News h₀ L h' ((98, tabOf #[]) :: (23, tabOf #[]) :: (x, ringObj dx #[] 0) :: (dx, od) :: (L + 1, o) :: (tr, W.listOf ws'.toArray 1) :: nw) → wpAny (model PySem.Challenge.rw_wo0025_01.row.prog w) (callerA.deeper (lawEnv L fa cd)) (execs (lawBody.drop 7) (lawEnv L fa cd)) Q E { s with heap := h', toks := tk }) :
    wpAny (model PySem.Challenge.rw_wo0025_01.row.prog w) (callerA.deeper (lawEnv L fa cd)) (execs (lawBody.drop 5) (lawEnv L fa cd)) Q E s := by
  w_top off
  k_with_none
  k_with "execs cons" => ((k_here; (fail_if_success (fail_if_success with_reducible show wpAny _ _ (execs (Stmt.For _ _ _ _ _ :: _) _) _ _ _)); refine Stop.out ?_))
  k_with "call builtin:list.pop" => ((k_here; (fail_if_success (fail_if_success with_reducible show wpAny _ _ (call _ [Value.ref _, Value.int _ _]) _ _ _)); refine Stop.out ?_))
  k_with "call ref" => ((k_here; (fail_if_success (fail_if_success with_reducible show wpAny _ _ (call (Value.ref 129) [Value.int _ _]) _ _ _)); k_dflt (refine' new_use ?k1 ?k2 ?k3 ?k4 ?k5 ?kK ?kd ?ku  ?_; (case k1 => k_asm); (case k2 => k_asm); (case k3 => k_asm); (case k4 => k_asm); (case k5 => k_asm); (case kK => first | exact rfl | assumption); (case kd => ktr_room); (case ku => ktr_units); k_whole; intro x' dx' h' tk' od' rd' F' N' l1' l2'; (try k_sweep)); walk_say "ASKED new"))
  with_unfolding_all have eb : lawBody.drop 5 = _ :: _ := rfl
  with_unfolding_all have es : lawScope = ⟨_, _, _, _, _⟩ := rfl
  unfold lawEnv
  rw [eb, es]
  clear eb es
  revert X; k_fill; intro X
  k_dflt (try k_fold)
  obtain ⟨v, hd⟩ := hz2
  k_steps
  refine Stop.intro ?_
  (rename Fr _ _ _ _ => F1); (rename News _ _ _ _ => N1)
  have N2 := news_sub N1 (a := (tr, W.listOf ws.toArray 0) :: (98, tabOf #[]) :: (23, tabOf #[]) :: (L + 1, o) :: nw) (by (repeat (refine Sub.cons (by k_mem) ?_)); (repeat (first | exact Sub.same | refine Sub.skip ?_)))
  have b98 : (98 : Addr) ≠ tr := news_ne_data N1 (by k_mem) (o := tabOf #[]) (o' := W.listOf ws.toArray 0) (by k_mem) (by intro h; cases h)
  have b23 : (23 : Addr) ≠ tr := news_ne_data N1 (by k_mem) (o := tabOf #[]) (o' := W.listOf ws.toArray 0) (by k_mem) (by intro h; cases h)
  have bL : L + 1 ≠ tr := news_ne_data N1 (by k_mem) (o := o) (o' := W.listOf ws.toArray 0) (by k_mem) (by rw [hd]; intro h; cases h)
  have offT : ∀ p ∈ ((98, tabOf #[]) :: (23, tabOf #[]) :: (L + 1, o) :: nw), p.1 ≠ tr := List.forall_mem_cons.mpr ⟨b98, List.forall_mem_cons.mpr ⟨b23, List.forall_mem_cons.mpr ⟨bL, fun p hp => (hz3 p hp).2.2.2⟩⟩⟩
  k_dflt (refine pop_ints F1 N2 offT hz1 (j := lf) rfl ?_ ?_ ?_)
  · simpa using hz0
  · simp
  intro h2 t2 ws2 hI2 F2 N3
  clear N1 N2 F1
  k_steps
  refine Stop.intro ?_
  (rename Fr _ _ _ _ => F9); (rename News _ _ _ _ => N9)
  (rename RD _ => rd9); (rename (∀ p : Addr × Obj, p ∈ _ → @LT.lt Addr _ p.1 _) => l1); (rename (@LT.lt Addr _ _ _) => l2)
  have l3 := fun (p : Addr × Obj) (hp : p ∈ ((98, tabOf #[]) :: (23, tabOf #[]) :: (L + 1, o) :: (tr, W.listOf ws2.toArray 1) :: nw)) => l1 p (Sub.cons (by k_mem) (Sub.cons (by k_mem) (Sub.cons (by k_mem) (Sub.cons (by k_mem) (Sub.skip (Sub.skip (Sub.skip (Sub.skip Sub.same))))))) p hp)
  with_unfolding_all refine hret _ _ _ _ _ ws2 hI2 rd9 l2 l3 F9 (news_sub N9 ?_)
  (repeat (refine Sub.cons (by k_mem) ?_)); (repeat (first | exact Sub.same | refine Sub.skip ?_))
end Mine
end
section
open PySem PySem.Spec PySem.Calls PySem.W PyProof.Rows PyProof.V
set_option maxRecDepth 100000
set_option maxHeartbeats 4000000
namespace Mine
section
variable {prog : Program} {w : World} {A : Around} {E : Value → Shared → Prop} {s : Shared} {env : Env} {h₀ : Heap} {target : Expr} {body : List Stmt} {Q : Flow → Shared → Prop}
/-- for name in a written text -/
theorem g_str {x : Str} {px : Pos} {y : Str} {t : Tok} (cs : List Nat) {m₀ : Str → Option Value} {news : List (Addr × Obj)} (hc : y.cps.toList = cs) (hall : cs.all (· < 128) = true)
    (hh : A.handled = none) (F : Fr h₀ env.locals s.heap m₀) (N : News h₀ env.locals s.heap news)
    (rest₀ : ∀ I : Addr, (∀ p ∈ news, p.1 < I) → GItems prog w A E h₀ env (.Name x px) body Q s [(I, "str_ascii_iterator")] [] (cs.map fun c => Itm.tok fun t => .str ⟨#[c]⟩ t) m₀ news) :
    wpAny (model prog w) A (pyIter (.str y t)) (GAt prog w A h₀ env (.Name x px) body Q E) E s := by
  subst hc
  rw [Array.all_toList] at hall
  refine wpAny_pyIter_ascii hall ?_
  refine g_core (tk0 := s.toks) (keep := []) (KTurns.ofWalks (Walks.strAscii hh s.heap.objs.size y t) fun i v s Q E st q => wpAny_pure q) (by simp) ?_ ?_ ?_ ?_ ?_ ?_ ?_ ?_ (F.push _) (fun p hp => ⟨Heap.get?_push_of_some _ (N p hp).1, (N p hp).2⟩) trivial (rest₀ _ fun p hp => Heap.lt_size (N p hp).1)
  · rintro i v h ⟨c, u, hi, rfl⟩
    exact ⟨Itm.tok fun t => .str ⟨#[c]⟩ t, by simp [hi], u, rfl⟩
  · rintro i h ⟨o, ho, hc, _⟩
    exact ⟨[(s.heap.objs.size, o)], ⟨⟨rfl, hc⟩, trivial⟩, fun p hp => by rw [List.mem_singleton.mp hp]; exact ho⟩
  · intro b hb
    have hb' : b = s.heap.objs.size := by simpa using hb
    rw [hb']
    exact ⟨List.mem_cons_self .., next_is_new F⟩
  · intro b hb
    simpa using hb
  · intro b hb
    exact .inl (by simpa using hb)
  · intro hI
    exact absurd F.ns.lt (List.mem_singleton.mp hI ▸ Nat.lt_irrefl _)
  · intro p hp hI
    exact absurd (Heap.lt_size (N p hp).1) ((List.mem_singleton.mp hI) ▸ Nat.lt_irrefl _)
  · exact ⟨_, Heap.get?_push_size _ rfl, rfl, rfl⟩
/-- for name in a tuple of the ledger -/
theorem g_tup {x : Str} {px : Pos} {a : Addr} {items : Array Value} {m₀ : Str → Option Value} {news : List (Addr × Obj)}
    (hh : A.handled = none) (F : Fr h₀ env.locals s.heap m₀) (N : News h₀ env.locals s.heap news) (hm : (a, ({ cls := .type "tuple", data := .seq items } : Obj)) ∈ news)
    (rest₀ : ∀ I : Addr, (∀ p ∈ news, p.1 < I) → GItems prog w A E h₀ env (.Name x px) body Q s [(I, "tuple_iterator")] [(a, { cls := .type "tuple", data := .seq items })] (items.toList.map Itm.val) m₀ news) :
    wpAny (model prog w) A (pyIter (.ref a)) (GAt prog w A h₀ env (.Name x px) body Q E) E s := by
  have hax := N _ hm
  have hT : s.heap.IsTuple a items := ⟨_, hax.1, rfl, 0, rfl⟩
  have hlt : a < s.heap.objs.size := Heap.lt_size hax.1
  refine wpAny_pyIter_tuple hT ?_
  refine g_core (tk0 := s.toks) (keep := [(a, { cls := .type "tuple", data := .seq items })]) (KTurns.ofWalks (Walks.tuple hh s.heap.objs.size a (Nat.ne_of_lt hlt) items) fun i v s Q E st q => wpAny_pure q) (by simp) ?_ ?_ ?_ ?_ ?_ ?_ ?_ ?_ (F.push _) (fun p hp => ⟨Heap.get?_push_of_some _ (N p hp).1, (N p hp).2⟩) ⟨hm, trivial⟩ (rest₀ _ fun p hp => Heap.lt_size (N p hp).1)
  · intro i v h hi
    have hi' : items[i]? = some v := hi
    exact ⟨Itm.val v, by simp [hi'], rfl⟩
  · rintro i h ⟨⟨o, ho, hc, _⟩, _⟩
    exact ⟨[(s.heap.objs.size, o)], ⟨⟨rfl, hc⟩, trivial⟩, fun p hp => by rw [List.mem_singleton.mp hp]; exact ho⟩
  · intro b hb
    have hb' : b = s.heap.objs.size := by simpa using hb
    rw [hb']
    exact ⟨List.mem_cons_self .., next_is_new F⟩
  · intro b hb
    simpa using hb
  · intro b hb
    have hb' : b = s.heap.objs.size ∨ b = a := by simpa using hb
    rcases hb' with e | e
    · exact .inl (by simp [e])
    · exact .inr ⟨_, by simp [e]; rfl⟩
  · intro hI
    have hb' : env.locals = s.heap.objs.size ∨ env.locals = a := by simpa using hI
    rcases hb' with e | e
    · exact absurd F.ns.lt (e ▸ Nat.lt_irrefl _)
    · exact hax.2.1 e.symm
  · intro p hp hI
    exact absurd (Heap.lt_size (N p hp).1) ((List.mem_singleton.mp hI) ▸ Nat.lt_irrefl _)
  · exact ⟨⟨_, Heap.get?_push_size _ rfl, rfl, rfl⟩, hT.push _⟩
/-- for place, name in enumerate(a written text) -/
theorem g_enum {elts : List Expr} {kk : Nat} {pos : Pos} {y : Str} {t : Tok} (cs : List Nat) {m₀ : Str → Option Value} {news : List (Addr × Obj)} (hc : y.cps.toList = cs) (hall : cs.all (· < 128) = true)
    (hh : A.handled = none) (F : Fr h₀ env.locals s.heap m₀) (N : News h₀ env.locals s.heap news)
    (rest₀ : ∀ I J : Addr, (∀ p ∈ news, p.1 < I) → @LT.lt Nat _ I J → GItems prog w A E h₀ env (.Tuple elts kk pos) body Q s [(J, "enumerate"), (I, "str_ascii_iterator")] [] (cs.mapIdx fun i c => Itm.pairF (fun t => .int (i : Int) t) (PyData.str ⟨#[c]⟩)) m₀ news) :
    wpAny (model prog w) A (call (.type "enumerate") [.str y t]) (fun xv s₁ => wpAny (model prog w) A (pyIter xv) (GAt prog w A h₀ env (.Tuple elts kk pos) body Q E) E s₁) E s := by
  subst hc
  rw [Array.all_toList] at hall
  refine call_enumerate_str fun h' hE hI hsz hk => ?_
  refine wpAny_pyIter_enum hE ?_
  have ety : strIterType y = "str_ascii_iterator" := by unfold strIterType; simp [hall]
  rw [ety] at hI
  have fr : ∀ j, h₀.get? (s.heap.objs.size + j) = none := fun j => by
    cases e : h₀.get? (s.heap.objs.size + j) with
    | none => rfl
    | some o => exact absurd (Heap.lt_size (F.keep _ _ e)) (Nat.not_lt.mpr (Nat.le_add_right _ _))
  have hLs : env.locals < s.heap.objs.size := F.ns.lt
  refine g_core (tk0 := s.toks) (keep := []) (KTurns.ofWalksU (WalksT.enumerateD (Draws.strAscii (A := A.in1) hh s.heap.objs.size y t) (s.heap.objs.size + 1) (Nat.succ_ne_self _) (by simp) (by simp)).toU) (by simp) ?_ ?_ ?_ ?_ ?_ ?_ ?_ ⟨⟨.none, hE⟩, hI⟩ (F.keeps hk) (N.grown hk) trivial (rest₀ s.heap.objs.size (s.heap.objs.size + 1) (fun p hp => Heap.lt_size (N p hp).1) (Nat.lt_succ_self _))
  · rintro i v h ⟨T, vals, rfl, ⟨t', x, ⟨c, u, hc, rfl⟩, rfl⟩, hT⟩
    refine ⟨Itm.pairF (fun t => .int (i : Int) t) (PyData.str ⟨#[c]⟩), ?_, T, t', .str ⟨#[c]⟩ u, rfl, ?_, ?_⟩
    · have hc' : y.cps.toList[i]? = some c := by rw [Array.getElem?_toList]; exact hc
      rw [List.getElem?_mapIdx, hc']; rfl
    · exact Flat.str _ _
    · exact hT
  · rintro i h ⟨⟨old, he⟩, ⟨o, ho, hc, _⟩⟩
    have e1 : ∃ o : Obj, h.get? (s.heap.objs.size + 1) = some o ∧ o.cls = .type "enumerate" := ⟨_, he, rfl⟩
    obtain ⟨oe, g, c⟩ := e1
    refine ⟨[(s.heap.objs.size + 1, oe), (s.heap.objs.size, o)], ⟨⟨rfl, c⟩, ⟨rfl, hc⟩, trivial⟩, fun p hp => ?_⟩
    simp only [List.mem_cons, List.not_mem_nil, or_false] at hp
    rcases hp with rfl | rfl
    · exact g
    · exact ho
  · intro b hb
    have hb' : b = s.heap.objs.size + 1 ∨ b = s.heap.objs.size := by simpa using hb
    rcases hb' with rfl | rfl
    · exact ⟨by simp, fr 1⟩
    · exact ⟨by simp, fr 0⟩
  · intro b hb
    simpa using hb
  · intro b hb
    exact .inl (by simpa using hb)
  · intro hI
    have hb' : env.locals = s.heap.objs.size + 1 ∨ env.locals = s.heap.objs.size := by simpa using hI
    rcases hb' with e | e
    · exact absurd (e ▸ hLs) (Nat.not_lt.mpr (Nat.le_succ _))
    · exact absurd (e ▸ hLs) (Nat.lt_irrefl _)
  · intro p hp hI
    have hlp := Heap.lt_size (N p hp).1
    have hb' : p.1 = s.heap.objs.size + 1 ∨ p.1 = s.heap.objs.size := by simpa using hI
    rcases hb' with e | e
    · exact absurd (e ▸ hlp) (Nat.not_lt.mpr (Nat.le_succ _))
    · exact absurd (e ▸ hlp) (Nat.lt_irrefl _)
theorem flat_str (hp : Heap) {v : Value} {x : Str} (h : Flat v (PyData.str x)) : ∃ t, v = .str x t := by
  cases h hp with
  | str _ t => exact ⟨t, rfl⟩
/-- the turns of a loop over two iterators, by what holds ahead of each -/
theorem GItems.inv2 {I I' : Addr} {c c' : String} (J : Nat → (Str → Option Value) → List (Addr × Obj) → Prop) (xs : List Itm)
    (step : ∀ i a m news, xs[i]? = some a → J i m news → ∀ v h tk g oI oI', Bare2 s.gens g → a.Is v h → oI.cls = .type c → oI'.cls = .type c' → Fr h₀ env.locals h m → News h₀ env.locals h ((I, oI) :: (I', oI') :: news) →
      wpAny (model prog w) A (assign target env v) (fun _ s₂ => wpAny (model prog w) A (execs body env) (GPost h₀ env.locals { s with heap := h, toks := tk, gens := g } [(I, oI), (I', oI')] (fun m' n' => SubL [] n' ∧ J (i + 1) m' n') Q) E s₂) E { s with heap := h, toks := tk, gens := g })
    (fin : ∀ m news, J xs.length m news → ∀ h tk g, Bare2 s.gens g → Fr h₀ env.locals h m → News h₀ env.locals h news → Q .next { s with heap := h, toks := tk, gens := g }) :
    ∀ (k i : Nat) m news, k + i = xs.length → J i m news → GItems prog w A E h₀ env target body Q s [(I, c), (I', c')] [] (xs.drop i) m news := by
  intro k
  induction k with
  | zero =>
    intro i m news hi hJ
    have : xs.drop i = [] := List.drop_eq_nil_of_le (by lia)
    rw [this]
    exact fin m news (by have : i = xs.length := by lia
                         rw [← this]; exact hJ)
  | succ k ih =>
    intro i m news hi hJ
    have hlt : i < xs.length := by lia
    rw [List.drop_eq_getElem_cons hlt]
    intro v h tk g bb hav F o hc o' hc' N
    refine wpAny_mono (step i _ m news (List.getElem?_eq_getElem hlt) hJ v h tk g o o' bb hav hc hc' F N) (fun _ s₂ h₂ => wpAny_mono h₂ (fun f s₃ p => ?_) fun _ _ e => e) fun _ _ e => e
    have conv : GEnd h₀ env.locals { s with heap := h, toks := tk, gens := g } [(I, o), (I', o')] (fun m' n' => SubL [] n' ∧ J (i + 1) m' n') s₃ → GEnd h₀ env.locals { s with heap := h, toks := tk, gens := g } [(I, o), (I', o')] (fun m' n' => SubL [] n' ∧ GItems prog w A E h₀ env target body Q s [(I, c), (I', c')] [] (xs.drop (i + 1)) m' n') s₃ := by
      rintro ⟨h', tk', g', m', news', e, bb', F', N', off, hk', hJ'⟩
      exact ⟨h', tk', g', m', news', e, bb', F', N', off, hk', ih (i + 1) m' news' (by grind) hJ'⟩
    cases f with
    | ret v => exact p
    | brk => exact p
    | next => exact conv p
    | cont => exact conv p
theorem GItems.all2 {I I' : Addr} {c c' : String} (J : Nat → (Str → Option Value) → List (Addr × Obj) → Prop) {xs : List Itm} {m : Str → Option Value} {news : List (Addr × Obj)} (h0 : J 0 m news)
    (step : ∀ i a m news, xs[i]? = some a → J i m news → ∀ v h tk g oI oI', Bare2 s.gens g → a.Is v h → oI.cls = .type c → oI'.cls = .type c' → Fr h₀ env.locals h m → News h₀ env.locals h ((I, oI) :: (I', oI') :: news) →
      wpAny (model prog w) A (assign target env v) (fun _ s₂ => wpAny (model prog w) A (execs body env) (GPost h₀ env.locals { s with heap := h, toks := tk, gens := g } [(I, oI), (I', oI')] (fun m' n' => SubL [] n' ∧ J (i + 1) m' n') Q) E s₂) E { s with heap := h, toks := tk, gens := g })
    (fin : ∀ m news, J xs.length m news → ∀ h tk g, Bare2 s.gens g → Fr h₀ env.locals h m → News h₀ env.locals h news → Q .next { s with heap := h, toks := tk, gens := g }) :
    GItems prog w A E h₀ env target body Q s [(I, c), (I', c')] [] xs m news := by
  have := GItems.inv2 (prog := prog) (w := w) (A := A) (E := E) (target := target) J xs step fin xs.length 0 m news (by simp +arith) h0
  rwa [List.drop_zero] at this
end
end Mine
end
section
open PySem PySem.Spec PySem.Calls PySem.W PyProof.Rows PySem.Flt
set_option maxRecDepth 100000
set_option maxHeartbeats 8000000
namespace Mine
theorem push_use {w : World} {pv : Program} {lo : List Str} {mean : ExcName → Option Value} {mg mb : Str → Option Value} {dp un : Nat} {gd : Option (List Code)} {cn : Str} {cs : Scope} {a : Addr} {ccd : Value} {cl : List (Str × Addr)} {outer : List Env} {A₀ : Around} {base h₀ : Heap} {L : Addr} {m : Str → Option Value} {s : Shared} {Q E : Value → Shared → Prop} {news : List (Addr × Obj)} {x dx : Addr} {k : Nat} {od : Obj} {nw : List (Addr × Obj)} {xs : Array Value} {f g : Str} {t1 t2 : Tok}
    (B : Below A₀ base outer h₀) (F : Fr h₀ L s.heap m) (X : (hd.heap_1 w.params).In h₀) (N : News h₀ L s.heap news) (T : Top pv lo mean mg mb h₀) (hk : cs.kind = .function)
    (hd : dp + 1 < recursionLimit) (hu : un + 8 < cLine)
    (hz0 : news = (x, ringObj dx xs k) :: (dx, od) :: nw)
    (hz1 : RD od ∧ (∀ p ∈ nw, p.1 ≠ x) ∧ (∀ p ∈ nw, p.1 ≠ dx) ∧ @LT.lt Nat _ dx x)
    (hz2 : xs.size ≤ sizeLine)
    (hret : ∀ T h' tk, Fr h₀ L h' m → News h₀ L h' ((T, { cls := .type "tuple", data := .seq #[.str f t1, .str g t2] }) :: (x, ringObj dx (xs.push (.ref T)) (k + 1)) :: (dx, od) :: nw) → (∀ p ∈ news, p.1 < T) → Q .none { s with heap := h', toks := tk }) :
    wpAny (model PySem.Challenge.rw_wo0025_01.row.prog w) (ktrTop dp un gd cn cs L a ccd cl outer) (call (.ref 73) [.ref x, .str f t1, .str g t2]) Q E s :=
  push w pv lo mean mg mb _ _ _ _ _ _ _ _ _ _ _ _ _ _ _ _ _ _ _ _ _ _ _ _ _ _ _ _  B F X N T hk hd hu hz0 hz1 hz2 hret
def PushJ (I L x dx tr : Addr) (o od : Obj) (ws : List Value) (nw : List (Addr × Obj)) (m : Str → Option Value) (i : Nat) (m' : Str → Option Value) (news' : List (Addr × Obj)) : Prop :=
  ∃ (its : List Piece) (nv : Option Value), its.map (fun p => p.2.2.2) = [97, 98, 99, 100, 101, 102].take i ∧ (∀ p ∈ its, @LT.lt Nat _ x p.1 ∧ p.1 ≠ I) ∧ m' = (fun y => if y = Str.ofString "name" then nv else m y) ∧
    news' = (x, ringObj dx (piecesOf its) its.length) :: (dx, od) :: (98, tabOf #[]) :: (23, tabOf #[]) :: (L + 1, o) :: (tr, W.listOf ws.toArray 1) :: (its.map (fun p => (p.1, pieceObj p)) ++ nw)
theorem six_its {its : List Piece} (h : its.map (fun p => p.2.2.2) = [97, 98, 99, 100, 101, 102]) : ∃ p0 p1 p2 p3 p4 p5, its = [p0, p1, p2, p3, p4, p5] ∧ p0.2.2.2 = 97 ∧ p1.2.2.2 = 98 ∧ p2.2.2.2 = 99 ∧ p3.2.2.2 = 100 ∧ p4.2.2.2 = 101 ∧ p5.2.2.2 = 102 := by
  have hl : its.length = 6 := by simpa using congrArg List.length h
  obtain ⟨p0, p1, p2, p3, p4, p5, rfl⟩ : ∃ p0 p1 p2 p3 p4 p5, its = [p0, p1, p2, p3, p4, p5] := by
    match its, hl with
    | [p0, p1, p2, p3, p4, p5], _ => exact ⟨p0, p1, p2, p3, p4, p5, rfl⟩
  simp only [List.map_cons, List.map_nil, List.cons.injEq, and_true] at h
  exact ⟨p0, p1, p2, p3, p4, p5, rfl, h.1, h.2.1, h.2.2.1, h.2.2.2.1, h.2.2.2.2.1, h.2.2.2.2.2⟩
theorem pushOff {x dx I : Addr} {oI : Obj} {A nw : List (Addr × Obj)} {its : List Piece} (lI : @LT.lt Nat _ x I) (h3 : ∀ p ∈ (A ++ nw), @LT.lt Nat _ p.1 dx) (hlt : ∀ p ∈ its, @LT.lt Nat _ x p.1) (h2 : @LT.lt Nat _ dx x) :
    ∀ p ∈ ((I, oI) :: (A ++ (its.map (fun p => (p.1, pieceObj p)) ++ nw))), p.1 ≠ x ∧ p.1 ≠ dx := by
  intro p hp
  simp only [List.mem_cons, List.mem_append, List.mem_map] at hp
  have key : ∀ q : Addr, (@LT.lt Nat _ x q) → q ≠ x ∧ q ≠ dx := fun q h => ⟨Ne.symm (Nat.ne_of_lt h), Ne.symm (Nat.ne_of_lt (Nat.lt_trans h2 h))⟩
  have key2 : ∀ q : Addr, (@LT.lt Nat _ q dx) → q ≠ x ∧ q ≠ dx := fun q h => ⟨Nat.ne_of_lt (Nat.lt_trans h h2), Nat.ne_of_lt h⟩
  rcases hp with rfl | hp | ⟨q, hq, rfl⟩ | hp
  · exact key _ lI
  · exact key2 _ (h3 p (List.mem_append_left _ hp))
  · exact key _ (hlt q hq)
  · exact key2 _ (h3 p (List.mem_append_right _ hp))
theorem pieces_push (its : List Piece) (p : Piece) : (piecesOf its).push (.ref p.1) = piecesOf (its ++ [p]) := by
  simp [piecesOf]
theorem sub_pushed {its : List Piece} {q : Piece} {nw l : List (Addr × Obj)} (h : (q.1, pieceObj q) ∈ l) (hs : Sub (its.map (fun p => (p.1, pieceObj p)) ++ nw) l) : Sub ((its ++ [q]).map (fun p => (p.1, pieceObj p)) ++ nw) l := by
  intro p hp
  rcases List.mem_append.mp hp with hp | hp
  · rw [List.map_append] at hp
    rcases List.mem_append.mp hp with hp | hp
    · exact hs p (List.mem_append_left _ hp)
    · exact List.mem_singleton.mp hp ▸ h
  · exact hs p (List.mem_append_right _ hp)
theorem off_pushed {its : List Piece} {q : Piece} {nw : List (Addr × Obj)} {I : Addr} (h : q.1 ≠ I) (h1 : ∀ p ∈ its, p.1 ≠ I) (h2 : ∀ p ∈ nw, p.1 ≠ I) : ∀ p ∈ ((its ++ [q]).map (fun p => (p.1, pieceObj p)) ++ nw), p.1 ≠ I := by
  intro p hp
  rcases List.mem_append.mp hp with hp | hp
  · obtain ⟨r, hr, rfl⟩ := List.mem_map.mp hp
    rcases List.mem_append.mp hr with hr | hr
    · exact h1 r hr
    · exact List.mem_singleton.mp hr ▸ h
  · exact h2 p hp
theorem law4 {w : World} {pv : Program} {lo : List Str} {mean : ExcName → Option Value} {mg mb : Str → Option Value} {fa : Addr} {cd : Value} {h₀ : Heap} {L : Addr} {s : Shared} {Q : Flow → Shared → Prop} {E : Value → Shared → Prop} {sc D G P tr x dx : Addr} {o od : Obj} {lf tot : Nat} {tl tt : Tok} {ws : List Value} {nw : List (Addr × Obj)}
    (B : Below callerA h₀ [] h₀) (F : Fr h₀ L s.heap (fun y => if y = Str.ofString "ring" then some (Value.ref x) else if y = Str.ofString "left" then some (.int (lf : Int) tl) else if y = Str.ofString "total" then some (.int (tot : Int) tt) else if y = Str.ofString "turns" then some (Value.ref tr) else if y = Str.ofString "points" then some (Value.ref P) else if y = Str.ofString "numbers" then some (Value.ref D) else if y = Str.ofString "given" then some (Value.ref G) else if y = Str.ofString "script" then some (Value.ref sc) else none)) (X : (hd.heap_1 w.params).In h₀) (N : News h₀ L s.heap ((98, tabOf #[]) :: (23, tabOf #[]) :: (x, ringObj dx #[] 0) :: (dx, od) :: (L + 1, o) :: (tr, W.listOf ws.toArray 1) :: nw)) (T : Top pv lo mean mg mb h₀)
    (hz0 : PassesOwn (model PySem.Challenge.rw_wo0025_01.row.prog w) (callerA.deeper (lawEnv L fa cd)) (lawEnv L fa cd) E)
    (hz1 : RD od)
    (hz2 : @LT.lt Nat _ dx x)
    (hz3 : ∀ p ∈ ((98, tabOf #[]) :: (23, tabOf #[]) :: (L + 1, o) :: (tr, W.listOf ws.toArray 1) :: nw), @LT.lt Nat _ p.1 dx)
    (hret : ∀ h' g' tk, Bare2 s.gens g' → ∀ (p0 p1 p2 p3 p4 p5 : Piece) nv nw', p0.2.2.2 = 97 ∧ p1.2.2.2 = 98 ∧ p2.2.2.2 = 99 ∧ p3.2.2.2 = 100 ∧ p4.2.2.2 = 101 ∧ p5.2.2.2 = 102 → ((p0.1, pieceObj p0) ∈ nw' ∧ (p1.1, pieceObj p1) ∈ nw' ∧ (p2.1, pieceObj p2) ∈ nw' ∧ (p3.1, pieceObj p3) ∈ nw' ∧ (p4.1, pieceObj p4) ∈ nw' ∧ (p5.1, pieceObj p5) ∈ nw') → Sub nw nw' → (∀ p ∈ nw', p ∈ nw ∨ @LT.lt Nat _ x p.1) → Fr h₀ L h' (fun y => if y = Str.ofString "name" then nv else (fun y => if y = Str.ofString "ring" then some (Value.ref x) else if y = Str.ofString "left" then some (.int (lf : Int) tl) else if y = Str.ofString "total" then some (.int (tot : Int) tt) else if y = Str.ofString "turns" then some (Value.ref tr) else if y = Str.ofString "points" then some (Value.ref P) else if y = Str.ofString "numbers" then some (Value.ref D) else if y = Str.ofString "given" then some (Value.ref G) else if y = Str.ofString "script" then some (Value.ref sc) else none) y) → News h₀ L h' ((98, tabOf #[]) :: (23, tabOf #[]) :: (x, ringObj dx (piecesOf [p0, p1, p2, p3, p4, p5]) 6) :: (dx, od) :: (L + 1, o) :: (tr, W.listOf ws.toArray 1) :: nw') → wpAny (model PySem.Challenge.rw_wo0025_01.row.prog w) (callerA.deeper (lawEnv L fa cd)) (execs (lawBody.drop 8) (lawEnv L fa cd)) Q E { s with heap := h', gens := g', toks := tk }) :
    wpAny (model PySem.Challenge.rw_wo0025_01.row.prog w) (callerA.deeper (lawEnv L fa cd)) (execs (lawBody.drop 7) (lawEnv L fa cd)) Q E s := by
  w_top off
  k_with_none
  k_with "getMethod ref" => ((k_here; k_dflt (refine' ring_meth ?rF ?rX ?rN ?rx ?rd ?rr ?rf ?rt ?ru ?rs ?_; (case rF => k_asm); (case rX => k_asm); (case rN => k_asm); (case rx => k_mem); (case rd => k_mem); (case rr => assumption); (case rf => k_is); (case rt => first | k_is | rfl); (case ru => decide); (case rs => (intro _ _ _; rfl)); k_whole)))
  k_with "exec For" => ((k_here; k_dflt (refine For_G (by k_asm) ?_ (by intro _; rfl) (by assumption))))
  k_with "exec For Name Tuple cons nil" => ((k_here; k_dflt (refine For_G (by k_asm) ?_ (by intro _; rfl) (by assumption))))
  k_with "exec For Tuple Call cons nil" => ((k_here; k_dflt (refine For_G (by k_asm) ?_ (by intro _; rfl) (by assumption))))
  k_with "pyIter str" => ((k_here; (fail_if_success (fail_if_success with_reducible show wpAny _ _ (pyIter (Value.str _ _)) (GAt _ _ _ _ _ _ _ _) _ _)); refine Stop.out ?_))
  k_with "execs cons" => ((k_here; (fail_if_success (fail_if_success with_reducible show wpAny _ _ (execs (Stmt.For _ (Expr.Tuple _ _ _) _ _ _ :: _) _) _ _ _)); refine Stop.out ?_))
  k_with "call ref" => (((fail_if_success (fail_if_success k_dflt (show wpAny _ _ (call (Value.ref 73) _) _ _ _))); refine Stop.out ?_))
  with_unfolding_all have eb : lawBody.drop 7 = _ :: _ := rfl
  with_unfolding_all have es : lawScope = ⟨_, _, _, _, _⟩ := rfl
  unfold lawEnv
  rw [eb, es]
  clear eb es
  revert X; k_fill; intro X
  with_unfolding_all have hE : PassesOwn (model PySem.Challenge.rw_wo0025_01.row.prog w) (callerA.deeper _) _ E := hz0
  k_dflt (try k_fold)
  k_steps
  refine Stop.intro ?_
  (rename Fr _ _ _ _ => F1); (rename News _ _ _ _ => N1)
  have N2 := news_sub N1 (a := (x, ringObj dx #[] 0) :: (dx, od) :: (98, tabOf #[]) :: (23, tabOf #[]) :: (L + 1, o) :: (tr, W.listOf ws.toArray 1) :: nw) (by (repeat (refine Sub.cons (by k_mem) ?_)); (repeat (first | exact Sub.same | refine Sub.skip ?_)))
  clear N1
  k_dflt (refine g_str [97, 98, 99, 100, 101, 102] (by rfl) (by decide) rfl F1 N2 ?_)
  intro I lI
  have lIx : @LT.lt Nat _ x I := lI _ (.head _)
  k_dflt (refine GItems.all (J := PushJ I L x dx tr o od ws nw (fun y => if y = Str.ofString "ring" then some (Value.ref x) else if y = Str.ofString "left" then some (.int (lf : Int) tl) else if y = Str.ofString "total" then some (.int (tot : Int) tt) else if y = Str.ofString "turns" then some (Value.ref tr) else if y = Str.ofString "points" then some (Value.ref P) else if y = Str.ofString "numbers" then some (Value.ref D) else if y = Str.ofString "given" then some (Value.ref G) else if y = Str.ofString "script" then some (Value.ref sc) else none)) ?_ trivial ?_ ?_)
  case refine_1 =>
    refine ⟨[], none, rfl, (fun _ h => nomatch h), ?_, rfl⟩
    funext z
    by_cases h : z = Str.ofString "name"
    · subst h; k_dflt exact rfl
    · rw [if_neg h]
  case refine_2 =>
    rintro i a m' news' hi ⟨its, nv, hlet, hlt, rfl, rfl⟩ - v h tk g oI bg hav hc F2 N3
    replace F2 : Fr h₀ L h _ := F2
    replace N3 : News h₀ L h _ := N3
    obtain ⟨c, hcs, rfl⟩ : ∃ c, [97, 98, 99, 100, 101, 102][i]? = some c ∧ a = Itm.tok fun t => .str ⟨#[c]⟩ t := by
      rw [List.getElem?_map, Option.map_eq_some_iff] at hi
      obtain ⟨c, h1, h2⟩ := hi
      exact ⟨c, h1, h2.symm⟩
    obtain ⟨t1, rfl⟩ := hav
    clear F1 N2
    k_steps
    (rename Fr _ _ _ _ => F4); (rename News _ _ _ _ => N4)
    have N5 := news_sub N4 (a := (x, ringObj dx (piecesOf its) its.length) :: (dx, od) :: (I, oI) :: (98, tabOf #[]) :: (23, tabOf #[]) :: (L + 1, o) :: (tr, W.listOf ws.toArray 1) :: (its.map (fun p => (p.1, pieceObj p)) ++ nw)) (by (repeat (refine Sub.cons (by k_mem) ?_)); (repeat (first | exact Sub.same | refine Sub.skip ?_)))
    clear N4
    have off : ∀ p ∈ ((I, oI) :: (98, tabOf #[]) :: (23, tabOf #[]) :: (L + 1, o) :: (tr, W.listOf ws.toArray 1) :: (its.map (fun p => (p.1, pieceObj p)) ++ nw)), p.1 ≠ x ∧ p.1 ≠ dx := pushOff (A := (98, tabOf #[]) :: (23, tabOf #[]) :: (L + 1, o) :: (tr, W.listOf ws.toArray 1) :: []) lIx hz3 (fun p hp => (hlt p hp).1) hz2
    have hlen : its.length ≤ 6 := by have := congrArg List.length hlet; simp at this; omega
    k_dflt (refine' push_use ?k1 ?k2 ?k3 N5 ?k5 ?kK ?kd ?ku rfl ⟨hz1, fun p hp => (off p hp).1, fun p hp => (off p hp).2, hz2⟩ ?hs ?_; (case k1 => k_asm); (case k2 => k_asm); (case k3 => k_asm); (case k5 => k_asm); (case kK => first | exact rfl | assumption); (case kd => ktr_room); (case ku => ktr_units))
    case hs => exact Nat.le_trans (show (piecesOf its).size ≤ 6 by simp [piecesOf]; exact hlen) (by rw [sizeLine_eq]; exact Nat.le_of_ble_eq_true rfl)
    intro T2 h5 tk5 F5 N6 lT
    clear N5
    have e9 : Str.ofString "" = ⟨#[]⟩ := by with_unfolding_all rfl
    have e8 := pieces_push its (T2, tk, t1, c)
    dsimp only at e8
    rw [e9, e8] at N6
    have lTI : T2 ≠ I := Ne.symm (Nat.ne_of_lt (lT (I, oI) (.tail _ (.tail _ (.head _)))))
    have lTx : @LT.lt Nat _ x T2 := lT _ (.head _)
    have hi6 : i < 6 := by have := (List.getElem?_eq_some_iff.mp hcs).1; simpa using this
    k_steps
    k_dflt (refine GEnd.at (news' := (x, ringObj dx (piecesOf (its ++ [(T2, tk, t1, c)])) (its.length + 1)) :: (dx, od) :: (98, tabOf #[]) :: (23, tabOf #[]) :: (L + 1, o) :: (tr, W.listOf ws.toArray 1) :: ((its ++ [(T2, tk, t1, c)]).map (fun p => (p.1, pieceObj p)) ++ nw)) F5 N6 (Bare2.refl _) ?_ ?_ ⟨trivial, its ++ [(T2, tk, t1, c)], some (.str ⟨#[c]⟩ t1), ?_, ?_, ?_, ?_⟩)
    · exact Sub.cons (.tail _ (.tail _ (.tail _ (.head _)))) (Sub.cons (.tail _ (.head _)) (Sub.cons (.tail _ (.tail _ (.head _))) (Sub.cons (.tail _ (.tail _ (.tail _ (.tail _ (.head _))))) (Sub.cons (.tail _ (.tail _ (.tail _ (.tail _ (.tail _ (.head _)))))) (Sub.cons (.tail _ (.tail _ (.tail _ (.tail _ (.tail _ (.tail _ (.head _))))))) (Sub.cons (.tail _ (.tail _ (.tail _ (.tail _ (.tail _ (.tail _ (.tail _ (.head _)))))))) (sub_pushed (.head _) (Sub.skip (Sub.skip (Sub.skip (Sub.skip (Sub.skip (Sub.skip (Sub.skip (Sub.skip Sub.same)))))))))))))))
    · have key : ∀ q ∈ ((x, ringObj dx #[] 0) :: (dx, od) :: (98, tabOf #[]) :: (23, tabOf #[]) :: (L + 1, o) :: (tr, W.listOf ws.toArray 1) :: nw), q.1 ≠ I := fun q hq => Nat.ne_of_lt (lI q hq)
      exact List.forall_mem_cons.mpr ⟨key (x, ringObj dx #[] 0) (.head _), List.forall_mem_cons.mpr ⟨key _ (.tail _ (.head _)), List.forall_mem_cons.mpr ⟨key _ (.tail _ (.tail _ (.head _))), List.forall_mem_cons.mpr ⟨key _ (.tail _ (.tail _ (.tail _ (.head _)))), List.forall_mem_cons.mpr ⟨key _ (.tail _ (.tail _ (.tail _ (.tail _ (.head _))))), List.forall_mem_cons.mpr ⟨key _ (.tail _ (.tail _ (.tail _ (.tail _ (.tail _ (.head _)))))), off_pushed lTI (fun p hp => (hlt p hp).2) fun p hp => key p (.tail _ (.tail _ (.tail _ (.tail _ (.tail _ (.tail _ hp))))))⟩⟩⟩⟩⟩⟩
    · rw [List.map_append, hlet, List.take_add_one, hcs]; rfl
    · intro p hp
      rcases List.mem_append.mp hp with hp | hp
      · exact hlt p hp
      · rw [List.mem_singleton.mp hp]; exact ⟨lTx, lTI⟩
    · funext z
      by_cases h1 : z = Str.ofString "name"
      · rw [if_pos h1, if_pos h1]
      · rw [if_neg h1, if_neg h1, if_neg h1]
    · rw [List.length_append]; rfl
  case refine_3 =>
    rintro m' news' ⟨its, nv, hlet, hlt, rfl, rfl⟩ h tk g bg F2 N3
    replace F2 : Fr h₀ L h _ := F2
    replace N3 : News h₀ L h _ := N3
    obtain ⟨p0, p1, p2, p3, p4, p5, rfl, e0, e1, e2, e3, e4, e5⟩ := six_its (hlet.trans (by rfl))
    dsimp only
    with_unfolding_all refine hret _ _ _ bg p0 p1 p2 p3 p4 p5 nv (_ ++ nw) ⟨e0, e1, e2, e3, e4, e5⟩ ⟨?_, ?_, ?_, ?_, ?_, ?_⟩ (fun p hp => List.mem_append_right _ hp) ?_ F2 (news_sub N3 (a := (98, tabOf #[]) :: (23, tabOf #[]) :: (x, ringObj dx (piecesOf [p0, p1, p2, p3, p4, p5]) 6) :: (dx, od) :: (L + 1, o) :: (tr, W.listOf ws.toArray 1) :: ([p0, p1, p2, p3, p4, p5].map (fun p => (p.1, pieceObj p)) ++ nw)) ?_)
    · exact .head _
    · exact .tail _ (.head _)
    · exact .tail _ (.tail _ (.head _))
    · exact .tail _ (.tail _ (.tail _ (.head _)))
    · exact .tail _ (.tail _ (.tail _ (.tail _ (.head _))))
    · exact .tail _ (.tail _ (.tail _ (.tail _ (.tail _ (.head _)))))
    · intro p hp
      rcases List.mem_append.mp hp with hp | hp
      · obtain ⟨q, hq, rfl⟩ := List.mem_map.mp hp
        exact .inr (hlt q hq).1
      · exact .inl hp
    · exact Sub.cons (.tail _ (.tail _ (.head _))) (Sub.cons (.tail _ (.tail _ (.tail _ (.head _)))) (Sub.cons (.head _) (Sub.cons (.tail _ (.head _)) (Sub.skip (Sub.skip (Sub.skip (Sub.skip Sub.same)))))))
end Mine
end
section
namespace Mine
abbrev P2 := Int × Int
noncomputable def rot1 (q : P2) : P2 := (q.1 - q.2, q.1)
noncomputable def rotn : Nat → P2 → P2
  | 0, q => q
  | k + 1, q => rotn k (rot1 q)
noncomputable def addp (a b : P2) : P2 := (a.1 + b.1, a.2 + b.2)
/-- six points in the ring's order -/
abbrev V6 := P2 × P2 × P2 × P2 × P2 × P2
noncomputable def step (n : Nat) (v : V6) : V6 :=
  (addp (rotn n v.1) v.2.1, addp (rotn n v.2.1) v.2.2.1, addp (rotn n v.2.2.1) v.2.2.2.1, addp (rotn n v.2.2.2.1) v.2.2.2.2.1, addp (rotn n v.2.2.2.2.1) v.2.2.2.2.2, addp (rotn n v.2.2.2.2.2) v.1)
noncomputable def run (l : List Nat) (v : V6) : V6 := l.foldl (fun v n => step n v) v
/-- the points moved on, as the law wishes them -/
noncomputable def wishAt (m : Int) (spot : Int) (v : V6) : P2 :=
  let k (place : Int) : Nat := ((m * (spot - place - 1)).fmod 6).toNat
  addp (rotn (k 0) v.1) (addp (rotn (k 1) v.2.1) (addp (rotn (k 2) v.2.2.1) (addp (rotn (k 3) v.2.2.2.1) (addp (rotn (k 4) v.2.2.2.2.1) (addp (rotn (k 5) v.2.2.2.2.2) (0, 0))))))
noncomputable def wishes (m : Int) (v : V6) : V6 := (wishAt m 0 v, wishAt m 1 v, wishAt m 2 v, wishAt m 3 v, wishAt m 4 v, wishAt m 5 v)
/-- a + b * rot1 at a point -/
noncomputable def act (c p : P2) : P2 := (c.1 * p.1 + c.2 * (p.1 - p.2), c.1 * p.2 + c.2 * p.1)
noncomputable def rotc (c : P2) : P2 := (-c.2, c.1 + c.2)
noncomputable def rotcn : Nat → P2 → P2
  | 0, c => c
  | k + 1, c => rotcn k (rotc c)
theorem addp_assoc (a b c : P2) : addp (addp a b) c = addp a (addp b c) := by
  simp only [addp, Int.add_assoc]
theorem addp_comm (a b : P2) : addp a b = addp b a := by
  simp only [addp, Int.add_comm]
theorem addp_left (a b c : P2) : addp a (addp b c) = addp b (addp a c) := by
  rw [← addp_assoc, addp_comm a b, addp_assoc]
theorem rot1_act (c p : P2) : rot1 (act c p) = act (rotc c) p := by
  simp only [rot1, act, rotc]
  refine Prod.ext ?_ ?_ <;> grind
theorem rot1_add (a b : P2) : rot1 (addp a b) = addp (rot1 a) (rot1 b) := by
  simp only [rot1, addp]
  refine Prod.ext ?_ rfl; grind
theorem act_add (c d p : P2) : addp (act c p) (act d p) = act (addp c d) p := by
  simp only [act, addp]
  refine Prod.ext ?_ ?_ <;> grind
theorem act_one (p : P2) : act (1, 0) p = p := by
  simp only [act]
  refine Prod.ext ?_ ?_ <;> grind
theorem act_nil (p : P2) : act (0, 0) p = (0, 0) := by
  simp only [act]
  refine Prod.ext ?_ ?_ <;> grind
theorem rotn_act : ∀ (n : Nat) (c p : P2), rotn n (act c p) = act (rotcn n c) p
  | 0, _, _ => rfl
  | n + 1, c, p => by
    show rotn n (rot1 (act c p)) = act (rotcn n (rotc c)) p
    rw [rot1_act, rotn_act n]
theorem rotn_add : ∀ (n : Nat) (a b : P2), rotn n (addp a b) = addp (rotn n a) (rotn n b)
  | 0, _, _ => rfl
  | n + 1, a, b => by
    show rotn n (rot1 (addp a b)) = addp (rotn n (rot1 a)) (rotn n (rot1 b))
    rw [rot1_add, rotn_add n]
/-- what six factors give at six points -/
noncomputable def ev (c v : V6) : P2 := addp (act c.1 v.1) (addp (act c.2.1 v.2.1) (addp (act c.2.2.1 v.2.2.1) (addp (act c.2.2.2.1 v.2.2.2.1) (addp (act c.2.2.2.2.1 v.2.2.2.2.1) (act c.2.2.2.2.2 v.2.2.2.2.2)))))
noncomputable def rotv (n : Nat) (c : V6) : V6 := (rotcn n c.1, rotcn n c.2.1, rotcn n c.2.2.1, rotcn n c.2.2.2.1, rotcn n c.2.2.2.2.1, rotcn n c.2.2.2.2.2)
noncomputable def addv (c d : V6) : V6 := (addp c.1 d.1, addp c.2.1 d.2.1, addp c.2.2.1 d.2.2.1, addp c.2.2.2.1 d.2.2.2.1, addp c.2.2.2.2.1 d.2.2.2.2.1, addp c.2.2.2.2.2 d.2.2.2.2.2)
theorem ev_rot (n : Nat) (c v : V6) : rotn n (ev c v) = ev (rotv n c) v := by
  simp only [ev, rotn_add, rotn_act, rotv]
theorem add_add (a b c d : P2) : addp (addp a b) (addp c d) = addp (addp a c) (addp b d) := by
  rw [addp_assoc, addp_left b, ← addp_assoc]
theorem ev_add (c d v : V6) : addp (ev c v) (ev d v) = ev (addv c d) v := by
  simp only [ev, addv]
  rw [add_add, act_add, add_add, act_add, add_add, act_add, add_add, act_add, add_add, act_add, act_add]
abbrev S6 := V6 × V6 × V6 × V6 × V6 × V6
noncomputable def den (s : S6) (v : V6) : V6 := (ev s.1 v, ev s.2.1 v, ev s.2.2.1 v, ev s.2.2.2.1 v, ev s.2.2.2.2.1 v, ev s.2.2.2.2.2 v)
noncomputable def stepS (n : Nat) (s : S6) : S6 :=
  (addv (rotv n s.1) s.2.1, addv (rotv n s.2.1) s.2.2.1, addv (rotv n s.2.2.1) s.2.2.2.1, addv (rotv n s.2.2.2.1) s.2.2.2.2.1, addv (rotv n s.2.2.2.2.1) s.2.2.2.2.2, addv (rotv n s.2.2.2.2.2) s.1)
noncomputable def runS (l : List Nat) (s : S6) : S6 := l.foldl (fun s n => stepS n s) s
theorem step_den (n : Nat) (s : S6) (v : V6) : step n (den s v) = den (stepS n s) v := by
  simp only [step, den, stepS, ev_rot, ev_add]
theorem run_den : ∀ (l : List Nat) (s : S6) (v : V6), run l (den s v) = den (runS l s) v
  | [], _, _ => rfl
  | n :: l, s, v => by
    show run l (step n (den s v)) = den (runS l (stepS n s)) v
    rw [step_den, run_den l]
/-- the factor 1 at one place -/
noncomputable def unit6 (k : Nat) : V6 := let f (i : Nat) : P2 := if i = k then (1, 0) else (0, 0); (f 0, f 1, f 2, f 3, f 4, f 5)
noncomputable def units : S6 := (unit6 0, unit6 1, unit6 2, unit6 3, unit6 4, unit6 5)
theorem addp_nil (a : P2) : addp a (0, 0) = a := by simp only [addp, Int.add_zero]
theorem nil_addp (a : P2) : addp (0, 0) a = a := by simp only [addp, Int.zero_add]
theorem den_units (v : V6) : den units v = v := by
  simp [den, units, unit6, ev, act_one, act_nil, addp_nil, nil_addp]
noncomputable def wishC (m spot : Int) : V6 :=
  let k (place : Int) : P2 := rotcn ((m * (spot - place - 1)).fmod 6).toNat (1, 0)
  (k 0, k 1, k 2, k 3, k 4, k 5)
theorem wish_ev (m spot : Int) (v : V6) : wishAt m spot v = ev (wishC m spot) v := by
  simp only [wishAt, ev, wishC, ← rotn_act, act_one, addp_nil]
noncomputable def wishS (m : Int) : S6 := (wishC m 0, wishC m 1, wishC m 2, wishC m 3, wishC m 4, wishC m 5)
theorem wishes_den (m : Int) (v : V6) : wishes m v = den (wishS m) v := by
  simp only [wishes, wish_ev, den, wishS]
noncomputable def sameS (s t : S6) : Bool := s.1 == t.1 && (s.2.1 == t.2.1 && (s.2.2.1 == t.2.2.1 && (s.2.2.2.1 == t.2.2.2.1 && (s.2.2.2.2.1 == t.2.2.2.2.1 && s.2.2.2.2.2 == t.2.2.2.2.2))))
theorem of_same {s t : S6} (h : sameS s t = true) : s = t := by
  obtain ⟨a, b, c, d, e, f⟩ := s
  obtain ⟨a', b', c', d', e', f'⟩ := t
  simp only [sameS, Bool.and_eq_true] at h
  obtain ⟨h1, h2, h3, h4, h5, h6⟩ := h
  rw [eq_of_beq h1, eq_of_beq h2, eq_of_beq h3, eq_of_beq h4, eq_of_beq h5, eq_of_beq h6]
theorem runs_ok : ∀ m : Nat, m < 6 → sameS (runS ([3, 4, 5, 6, 7, 8].eraseIdx m) units) (wishS m) = true := by decide +kernel
/-- five rounds, in whatever order, give what is wished -/
theorem run_wish (m : Nat) (hm : m < 6) (v : V6) : run ([3, 4, 5, 6, 7, 8].eraseIdx m) v = wishes m v := by
  rw [wishes_den, ← of_same (runs_ok m hm), ← run_den, den_units]
theorem rotn_comp (m n : Nat) (a : P2) : rotn m (rotn n a) = rotn n (rotn m a) := by
  have key : ∀ (k : Nat) (b : P2), rotn k (rot1 b) = rot1 (rotn k b) := by
    intro k
    induction k with
    | zero => intro b; rfl
    | succ k ih => intro b; simp only [rotn]; rw [ih]
  induction m generalizing a with
  | zero => rfl
  | succ m ih =>
    simp only [rotn]
    rw [← key n, ih]
theorem turn_comm (m n : Nat) (a b c : P2) : addp (rotn m (addp (rotn n a) b)) (addp (rotn n b) c) = addp (rotn n (addp (rotn m a) b)) (addp (rotn m b) c) := by
  rw [rotn_add, rotn_add, rotn_comp m n, add_add]
theorem step_comm (m n : Nat) (v : V6) : step m (step n v) = step n (step m v) := by
  simp only [step]
  rw [turn_comm m n v.1, turn_comm m n v.2.1, turn_comm m n v.2.2.1, turn_comm m n v.2.2.2.1, turn_comm m n v.2.2.2.2.1, turn_comm m n v.2.2.2.2.2]
theorem run_erase : ∀ (l : List Nat) (k : Nat) (h : k < l.length) (v : V6), run (l.eraseIdx k) (step l[k] v) = run l v
  | a :: l, 0, _, v => rfl
  | a :: l, k + 1, h, v => by
    show run (l.eraseIdx k) (step a (step (l[k]'(by simpa using h)) v)) = run l (step a v)
    rw [step_comm, run_erase l k (by simpa using h)]
noncomputable def stepsC (m : Nat) (s t : Int) : Bool := rotv m (wishC m s) == wishC m t
theorem steps_ok : ∀ m : Nat, m < 6 → (stepsC m 0 1 && stepsC m 1 2 && stepsC m 2 3 && stepsC m 3 4 && stepsC m 4 5 && stepsC m 5 0) = true := by decide +kernel
theorem step_wish {m : Nat} {s t : Int} (h : stepsC m s t = true) (v : V6) : wishAt m t v = rotn m (wishAt m s v) := by
  rw [wish_ev, wish_ev, ev_rot, eq_of_beq h]
end Mine
end
section
open PySem PySem.Spec PySem.Calls PySem.W PyProof.Rows PySem.Flt
namespace Mine
noncomputable def mx3 (a b c : Int) : Int := if b > a then (if c > b then c else b) else (if c > a then c else a)
noncomputable def mn3 (a b c : Int) : Int := if b < a then (if c < b then c else b) else (if c < a then c else a)
section
variable {prog : Program} {w : World} {A : Around} {E : Value → Shared → Prop} {s : Shared} {Q : Value → Shared → Prop} {a b c : Int} {t u x : Tok} {h₀ : Heap} {L T : Addr} {m : Str → Option Value} {news : List (Addr × Obj)}
theorem max_tup (hh : A.handled = none) (F : Fr h₀ L s.heap m) (N : News h₀ L s.heap news) (hm : (T, ({ cls := .type "tuple", data := .seq #[.int a t, .int b u, .int c x] } : Obj)) ∈ news)
    (h : ∀ h' tk v, Fr h₀ L h' m → News h₀ L h' news → Q (.int (mx3 a b c) v) { s with heap := h', toks := tk }) :
    wpAny (model prog w) A (call (.builtin "max") [.ref T]) Q E s := by
  have hT : s.heap.IsTuple T (intItems #[(a, t), (b, u), (c, x)]) := ⟨_, (N _ hm).1, rfl, 0, by simp [intItems]⟩
  have hlt : T < s.heap.objs.size := Heap.lt_size (N _ hm).1
  refine call_max_walk (wpAny_pyIter_tuple hT ?_)
  refine ⟨_, [_, T], [_], _, _, _, _, rfl, Walks.tuple (A := A.in1) hh _ T (Nat.ne_of_lt hlt) (intItems #[(a, t), (b, u), (c, x)]),
    ⟨⟨_, Heap.get?_push_size _ rfl, rfl, rfl⟩, hT.push _⟩, fun d hd => ?_, by simp [intItems], CmpOf.ints_gt (numAt #[(a, t), (b, u), (c, x)]) (fun _ _ => intItems_at), fun v h' tk hP hk => ?_⟩
  · show d < (s.heap.push _).objs.size
    rw [Heap.size_push]
    rcases List.mem_cons.mp hd with rfl | hd
    · exact Nat.lt_succ_self _
    · rw [List.mem_singleton.mp hd]; exact Nat.lt_succ_of_lt hlt
  · have kp : ∀ d o, s.heap.get? d = some o → h'.get? d = some o := fun d o e => by
      refine hk d o (fun hm => ?_) (Heap.get?_push_of_some _ e)
      have := Heap.lt_size e
      rw [List.mem_singleton.mp hm] at this
      exact Nat.lt_irrefl _ this
    have e : ∃ q, v = .int (mx3 a b c) q := by
      unfold mx3
      by_cases h1 : b > a <;> by_cases h2 : c > b <;> by_cases h3 : c > a <;> simp [argBest, numAt, intItems, h1, h2, h3] at hP ⊢ <;> exact ⟨_, hP.symm⟩
    obtain ⟨q, rfl⟩ := e
    exact h h' tk q (F.grownK kp) (N.grown kp)
theorem min_tup (hh : A.handled = none) (F : Fr h₀ L s.heap m) (N : News h₀ L s.heap news) (hm : (T, ({ cls := .type "tuple", data := .seq #[.int a t, .int b u, .int c x] } : Obj)) ∈ news)
    (h : ∀ h' tk v, Fr h₀ L h' m → News h₀ L h' news → Q (.int (mn3 a b c) v) { s with heap := h', toks := tk }) :
    wpAny (model prog w) A (call (.builtin "min") [.ref T]) Q E s := by
  have hT : s.heap.IsTuple T (intItems #[(a, t), (b, u), (c, x)]) := ⟨_, (N _ hm).1, rfl, 0, by simp [intItems]⟩
  have hlt : T < s.heap.objs.size := Heap.lt_size (N _ hm).1
  refine call_min_walk (wpAny_pyIter_tuple hT ?_)
  refine ⟨_, [_, T], [_], _, _, _, _, rfl, Walks.tuple (A := A.in1) hh _ T (Nat.ne_of_lt hlt) (intItems #[(a, t), (b, u), (c, x)]),
    ⟨⟨_, Heap.get?_push_size _ rfl, rfl, rfl⟩, hT.push _⟩, fun d hd => ?_, by simp [intItems], CmpOf.ints_lt (numAt #[(a, t), (b, u), (c, x)]) (fun _ _ => intItems_at), fun v h' tk hP hk => ?_⟩
  · show d < (s.heap.push _).objs.size
    rw [Heap.size_push]
    rcases List.mem_cons.mp hd with rfl | hd
    · exact Nat.lt_succ_self _
    · rw [List.mem_singleton.mp hd]; exact Nat.lt_succ_of_lt hlt
  · have kp : ∀ d o, s.heap.get? d = some o → h'.get? d = some o := fun d o e => by
      refine hk d o (fun hm => ?_) (Heap.get?_push_of_some _ e)
      have := Heap.lt_size e
      rw [List.mem_singleton.mp hm] at this
      exact Nat.lt_irrefl _ this
    have e : ∃ q, v = .int (mn3 a b c) q := by
      unfold mn3
      by_cases h1 : b < a <;> by_cases h2 : c < b <;> by_cases h3 : c < a <;> simp [argBest, numAt, intItems, h1, h2, h3] at hP ⊢ <;> exact ⟨_, hP.symm⟩
    obtain ⟨q, rfl⟩ := e
    exact h h' tk q (F.grownK kp) (N.grown kp)
end
end Mine
end
section
open PySem PySem.Spec PySem.Calls PySem.W PyProof.Rows PySem.Flt
set_option maxRecDepth 100000
set_option maxHeartbeats 8000000
namespace Mine
noncomputable def rotk : Nat → Int × Int → Int × Int
  | 0, q => q
  | k + 1, q => rotk k (q.1 - q.2, q.1)
abbrev MovedClaim (w : World) (pv : Program) (lo : List Str) (mean : ExcName → Option Value) (mg mb : Str → Option Value) : Prop :=
  ∀ (dp un : Nat) (gd : Option (List Code)) (cn : Str) (cs : Scope) (a : Addr) (ccd : Value) (cl : List (Str × Addr)) (outer : List Env) (A₀ : Around) (base h₀ : Heap) (L : Addr) (m : Str → Option Value) (s : Shared) (Q E : Value → Shared → Prop) (news : List (Addr × Obj)) (p : Addr) (x y n : Int) (k : Nat) (t1 t2 tn : Tok),
    Below A₀ base outer h₀ → Fr h₀ L s.heap m → (hd.heap_1 w.params).In h₀ → News h₀ L s.heap news → Top pv lo mean mg mb h₀ → cs.kind = .function →
    dp + 1 < recursionLimit → un + 8 < cLine →
    ((p, { cls := .type "tuple", data := .seq #[.int x t1, .int y t2] }) ∈ news) →
    (n.fmod 6 = (k : Int) ∧ k < 6) →
    (∀ D h' tk t1 t2, Fr h₀ L h' m → News h₀ L h' ((D, { cls := .type "tuple", data := .seq #[.int (rotk k (x, y)).1 t1, .int (rotk k (x, y)).2 t2] }) :: news) → (∀ p ∈ news, p.1 < D) → Q (.ref D) { s with heap := h', toks := tk }) →
      wpAny (model PySem.Challenge.rw_wo0025_01.row.prog w) (ktrTop dp un gd cn cs L a ccd cl outer) (call (.ref 157) [.ref p, .int n tn]) Q E s
theorem rotk_succ (k : Nat) : ∀ q : Int × Int, rotk (k + 1) q = ((rotk k q).1 - (rotk k q).2, (rotk k q).1) := by
  induction k with
  | zero => exact fun _ => rfl
  | succ k ih => exact fun q => ih (q.1 - q.2, q.1)
theorem RangeRest.all {prog : Program} {w : World} {A : Around} {E : Value → Shared → Prop} {s : Shared} {env : Env} {h₀ : Heap} {x : Str} {body : List Stmt} {Q : Flow → Shared → Prop} {I : Addr} {a : Int} {n : Nat} (J : Nat → (Str → Option Value) → List (Addr × Obj) → Prop)
    (step : ∀ i m news, J i m news → ∀ t h tk it, Fr h₀ env.locals h (fun y => if y = x then some (.int (a + (i : Int)) t) else m y) → News h₀ env.locals h ((I, it) :: news) →
      wpAny (model prog w) A (execs body env) (UnrPost h₀ env.locals { s with heap := h, toks := tk } I it (J (i + 1)) Q) E { s with heap := h, toks := tk })
    (fin : ∀ m news, J n m news → ∀ h tk, Fr h₀ env.locals h m → News h₀ env.locals h news → Q .next { s with heap := h, toks := tk }) :
    ∀ k i m news, i + k = n → J i m news → RangeRest prog w A E h₀ env x body Q s I a n k i m news := by
  intro k
  induction k with
  | zero => intro i m news e j; subst e; exact fin m news j
  | succ k ih =>
    intro i m news e j t h tk F N
    refine wpAny_mono (step i m news j t h tk _ F N) (fun f s₂ p => ?_) fun _ _ e => e
    have go : ∀ {f}, UnrEnd h₀ env.locals { s with heap := h, toks := tk } I (itR (a + ((i + 1 : Nat) : Int)) ((n : Int) - ((i + 1 : Nat) : Int))) (J (i + 1)) f → UnrEnd h₀ env.locals { s with heap := h, toks := tk } I (itR (a + ((i + 1 : Nat) : Int)) ((n : Int) - ((i + 1 : Nat) : Int))) (RangeRest prog w A E h₀ env x body Q s I a n k (i + 1)) f :=
      fun ⟨h', tk', m', n', e1, F', N', o, r⟩ => ⟨h', tk', m', n', e1, F', N', o, ih (i + 1) m' n' (by rw [← e, Nat.add_assoc, Nat.add_comm 1]) r⟩
    cases f with
    | ret v => exact p
    | brk => exact p
    | next => exact go p
    | cont => exact go p
theorem moved (w : World) (pv : Program) (lo : List Str) (mean : ExcName → Option Value) (mg mb : Str → Option Value) : MovedClaim w pv lo mean mg mb := by
  w_top off
  k_with_none
  k_with "call type:range" => ((k_here; k_dflt ((rename Int.fmod _ _ = _ => hn'); (rename News _ _ _ _ => N'); (rename Fr _ _ _ _ => F'); (first | rw [hn'] | skip); refine range1_rows F' N' ?_; clear N' F'; intro _ _ _ _ _ _ _ _ _)))
  k_with "pyIter ref" => ((k_here; refine Stop.out ?_))
  delta MovedClaim
  k_fill
  intro dp un gd cn cs a ccd cl outer A₀ base h₀ L m s Q E news p x y n k t1 t2 tn B F X N T hk hd hu hp hn hret
  obtain ⟨hn, hn6⟩ := hn
  refine wpAny_call ?_
  k_dflt cell_enter
  k_steps
  refine Stop.intro ?_
  (rename Fr _ _ _ _ => F9); (rename News _ _ _ _ => N9); (rename IsRange _ _ _ _ _ _ _ _ => R9)
  obtain ⟨mb, F9⟩ : ∃ mb : Str → Option Value, Fr _ _ _ (fun z => if z = Str.ofString "along" then some (.int y t2) else if z = Str.ofString "across" then some (.int x t1) else mb z) := ⟨_, F9⟩
  refine iter_rangeUnr (n := k) rfl R9 (small_one (by decide) (by decide) (Int.le_trans (by decide) (Int.natCast_nonneg k)) (by omega)) (by rw [rangeSize_nat, Int.sub_zero, Int.toNat_natCast]) F9 N9 ?_
  intro I lI
  refine RangeRest.all (fun i m' news' => news' = _ ∧ ∃ ta tb tv, m' = fun z => if z = Str.ofString "turn" then tv else if z = Str.ofString "along" then some (.int (rotk i (x, y)).2 tb) else if z = Str.ofString "across" then some (.int (rotk i (x, y)).1 ta) else mb z) ?_ ?_ k 0 _ _ (Nat.zero_add k) ⟨rfl, t1, t2, mb (Str.ofString "turn"), ?_⟩
  case refine_3 =>
    funext z
    by_cases h : z = Str.ofString "turn"
    · subst h; k_dflt exact rfl
    · rw [if_neg h]; rfl
  case refine_1 =>
    rintro i m' news' ⟨rfl, ta, tb, tv, rfl⟩ t h tk it F2 N2
    clear F9 N9 R9
    k_steps
    (rename Fr _ _ _ _ => F3); (rename News _ _ _ _ => N3)
    refine UnrEnd.intro F3 N3 _ (fun p hp => List.mem_cons_of_mem _ hp) (fun p hp => Nat.ne_of_lt (lI p hp)) ⟨rfl, ?ta, ta, some (.int (0 + (i : Int)) t), ?_⟩
    rotate_left
    rw [rotk_succ]
    funext z
    by_cases h1 : z = Str.ofString "turn"
    · subst h1; k_dflt exact rfl
    · by_cases h2 : z = Str.ofString "along"
      · subst h2; k_dflt exact rfl
      · by_cases h3 : z = Str.ofString "across"
        · subst h3; k_dflt exact rfl
        · simp only [if_neg h1, if_neg h2, if_neg h3]
  case refine_2 =>
    rintro m' news' ⟨rfl, ta, tb, tv, rfl⟩ h tk F2 N2
    clear F9 N9 R9
    k_steps
    (rename Fr h₀ L _ m => F1); (rename News h₀ L _ _ => N1)
    exact hret _ _ _ _ _ F1 N1 (by first | assumption | exact allLt_all (by k_asm))
end Mine
end
section
open PySem PySem.Spec PySem.Calls PySem.W PyProof.Rows
set_option maxRecDepth 100000
namespace Mine
/-- the largest and the least of three -/
theorem mx_or (r g b : Int) : (r ≤ mx3 r g b ∧ g ≤ mx3 r g b ∧ b ≤ mx3 r g b) ∧ (mn3 r g b ≤ r ∧ mn3 r g b ≤ g ∧ mn3 r g b ≤ b) ∧ (r = mx3 r g b ∨ g = mx3 r g b ∨ b = mx3 r g b) ∧ (r = mn3 r g b ∨ g = mn3 r g b ∨ b = mn3 r g b) := by
  have hx : (r ≤ mx3 r g b ∧ g ≤ mx3 r g b ∧ b ≤ mx3 r g b) ∧ (r = mx3 r g b ∨ g = mx3 r g b ∨ b = mx3 r g b) := by
    unfold mx3
    split <;> rename_i h <;> split <;> rename_i k
    · exact ⟨⟨Int.le_of_lt (Int.lt_trans h k), Int.le_of_lt k, Int.le_refl _⟩, .inr (.inr rfl)⟩
    · exact ⟨⟨Int.le_of_lt h, Int.le_refl _, Int.not_lt.mp k⟩, .inr (.inl rfl)⟩
    · exact ⟨⟨Int.le_of_lt k, Int.le_trans (Int.not_lt.mp h) (Int.le_of_lt k), Int.le_refl _⟩, .inr (.inr rfl)⟩
    · exact ⟨⟨Int.le_refl _, Int.not_lt.mp h, Int.not_lt.mp k⟩, .inl rfl⟩
  have hn : (mn3 r g b ≤ r ∧ mn3 r g b ≤ g ∧ mn3 r g b ≤ b) ∧ (r = mn3 r g b ∨ g = mn3 r g b ∨ b = mn3 r g b) := by
    unfold mn3
    split <;> rename_i h <;> split <;> rename_i k
    · exact ⟨⟨Int.le_of_lt (Int.lt_trans k h), Int.le_of_lt k, Int.le_refl _⟩, .inr (.inr rfl)⟩
    · exact ⟨⟨Int.le_of_lt h, Int.le_refl _, Int.not_lt.mp k⟩, .inr (.inl rfl)⟩
    · exact ⟨⟨Int.le_of_lt k, Int.le_trans (Int.le_of_lt k) (Int.not_lt.mp h), Int.le_refl _⟩, .inr (.inr rfl)⟩
    · exact ⟨⟨Int.le_refl _, Int.not_lt.mp h, Int.not_lt.mp k⟩, .inl rfl⟩
  exact ⟨hx.1, hn.1, hx.2, hn.2⟩
theorem or3_le {r g b x y : Int} (h : r = x ∨ g = x ∨ b = x) (h1 : r ≤ y) (h2 : g ≤ y) (h3 : b ≤ y) : x ≤ y := by
  rcases h with h | h | h
  · exact h ▸ h1
  · exact h ▸ h2
  · exact h ▸ h3
theorem or3_ge {r g b x y : Int} (h : r = x ∨ g = x ∨ b = x) (h1 : y ≤ r) (h2 : y ≤ g) (h3 : y ≤ b) : y ≤ x := by
  rcases h with h | h | h
  · exact h ▸ h1
  · exact h ▸ h2
  · exact h ▸ h3
theorem mx_eq {r g b M : Int} (h1 : r ≤ M) (h2 : g ≤ M) (h3 : b ≤ M) (h : r = M ∨ g = M ∨ b = M) : mx3 r g b = M := by
  obtain ⟨⟨a1, a2, a3⟩, -, a4, -⟩ := mx_or r g b
  exact Int.le_antisymm (or3_le a4 h1 h2 h3) (or3_le h a1 a2 a3)
theorem mn_eq {r g b m : Int} (h1 : m ≤ r) (h2 : m ≤ g) (h3 : m ≤ b) (h : r = m ∨ g = m ∨ b = m) : mn3 r g b = m := by
  obtain ⟨-, ⟨a1, a2, a3⟩, -, a4⟩ := mx_or r g b
  exact Int.le_antisymm (or3_ge h a1 a2 a3) (or3_ge a4 h1 h2 h3)
theorem mir_le {M m x : Int} (h : m ≤ x) : M + m - x ≤ M := by lia
theorem mir_ge {M m x : Int} (h : x ≤ M) : m ≤ M + m - x := by lia
theorem mir_M {M m x : Int} (h : x = m) : M + m - x = M := by lia
theorem mir_m {M m x : Int} (h : x = M) : M + m - x = m := by lia
theorem mn_le_mx (r g b : Int) : mn3 r g b ≤ mx3 r g b := Int.le_trans (mx_or r g b).2.1.1 (mx_or r g b).1.1
/-- a paint moved on by one sixth, by n sixths -/
noncomputable def rotP1 (q : P3) : P3 := (mx3 q.1 q.2.1 q.2.2 + mn3 q.1 q.2.1 q.2.2 - q.2.1, mx3 q.1 q.2.1 q.2.2 + mn3 q.1 q.2.1 q.2.2 - q.2.2, mx3 q.1 q.2.1 q.2.2 + mn3 q.1 q.2.1 q.2.2 - q.1)
noncomputable def rotP : Nat → P3 → P3
  | 0, q => q
  | n + 1, q => rotP n (rotP1 q)
/-- a paint's point -/
noncomputable def pt (q : P3) : P2 := (q.1 - q.2.2, q.2.1 - q.2.2)
def PBnd (B : Int) (q : P3) : Prop := (0 ≤ q.1 ∧ q.1 ≤ B) ∧ (0 ≤ q.2.1 ∧ q.2.1 ≤ B) ∧ (0 ≤ q.2.2 ∧ q.2.2 ≤ B)
theorem pt_rot1 (q : P3) : pt (rotP1 q) = rot1 (pt q) := by
  refine Prod.ext ?_ ?_ <;> simp only [pt, rotP1, rot1] <;> grind
theorem pt_rot : ∀ (n : Nat) (q : P3), pt (rotP n q) = rotn n (pt q)
  | 0, _ => rfl
  | n + 1, q => by
    show pt (rotP n (rotP1 q)) = rotn n (rot1 (pt q))
    rw [pt_rot n, pt_rot1]
theorem pt_add (a b : P3) : pt (add3 a b) = addp (pt a) (pt b) := by
  refine Prod.ext ?_ ?_ <;> simp only [pt, add3, addp] <;> grind
theorem bnd_mx {B : Int} {r g b : Int} (h : PBnd B (r, g, b)) : 0 ≤ mn3 r g b ∧ mx3 r g b ≤ B := by
  obtain ⟨-, -, a, c⟩ := mx_or r g b
  exact ⟨or3_ge c h.1.1 h.2.1.1 h.2.2.1, or3_le a h.1.2 h.2.1.2 h.2.2.2⟩
theorem bnd_rot1 {B : Int} {q : P3} (h : PBnd B q) : PBnd B (rotP1 q) := by
  obtain ⟨r, g, b⟩ := q
  obtain ⟨⟨a1, a2, a3⟩, ⟨b1, b2, b3⟩, -, -⟩ := mx_or r g b
  obtain ⟨k1, k2⟩ := bnd_mx h
  have key : ∀ x, mn3 r g b ≤ x → x ≤ mx3 r g b → 0 ≤ mx3 r g b + mn3 r g b - x ∧ mx3 r g b + mn3 r g b - x ≤ B := fun x p q => ⟨Int.le_trans k1 (mir_ge q), Int.le_trans (mir_le p) k2⟩
  exact ⟨key g b2 a2, key b b3 a3, key r b1 a1⟩
theorem bnd_rot {B : Int} : ∀ (n : Nat) {q : P3}, PBnd B q → PBnd B (rotP n q)
  | 0, _, h => h
  | n + 1, _, h => bnd_rot n (bnd_rot1 h)
theorem bnd_add1 {B x y : Int} (h : 0 ≤ x ∧ x ≤ B) (k : 0 ≤ y ∧ y ≤ B) : 0 ≤ x + y ∧ x + y ≤ 2 * B := by lia
theorem bnd_add {B : Int} {a b : P3} (ha : PBnd B a) (hb : PBnd B b) : PBnd (2 * B) (add3 a b) :=
  ⟨bnd_add1 ha.1 hb.1, bnd_add1 ha.2.1 hb.2.1, bnd_add1 ha.2.2 hb.2.2⟩
theorem bnd_mono {B B' : Int} {q : P3} (h : PBnd B q) (hb : B ≤ B') : PBnd B' q :=
  ⟨⟨h.1.1, Int.le_trans h.1.2 hb⟩, ⟨h.2.1.1, Int.le_trans h.2.1.2 hb⟩, ⟨h.2.2.1, Int.le_trans h.2.2.2 hb⟩⟩
/-- the next letter round the ring -/
noncomputable def nx (c : Nat) : Nat := if c = 102 then 97 else c + 1
noncomputable def v6 (q : Nat → P3) : V6 := (pt (q 97), pt (q 98), pt (q 99), pt (q 100), pt (q 101), pt (q 102))
/-- the paints after a round -/
noncomputable def roundQ (n : Nat) (q : Nat → P3) (c : Nat) : P3 := add3 (rotP n (q c)) (q (nx c))
theorem v6_round (n : Nat) (q : Nat → P3) : v6 (roundQ n q) = step n (v6 q) := by
  unfold v6 roundQ step
  simp only [pt_add, pt_rot, nx]
  rfl
theorem rotk_rotn : ∀ (k : Nat) (q : P2), rotk k q = rotn k q
  | 0, _ => rfl
  | k + 1, q => by
    show rotk k (q.1 - q.2, q.1) = rotn k (rot1 q)
    rw [rotk_rotn k]
    rfl
theorem six_of {i : Nat} (h : i < 6) : i = 0 ∨ i = 1 ∨ i = 2 ∨ i = 3 ∨ i = 4 ∨ i = 5 := by revert i; decide
theorem letter_cases {c : Nat} (h1 : 97 ≤ c) (h2 : c ≤ 102) : c = 97 ∨ c = 98 ∨ c = 99 ∨ c = 100 ∨ c = 101 ∨ c = 102 := by
  obtain ⟨i, rfl⟩ := Nat.exists_eq_add_of_le h1
  rcases six_of (i := i) (by lia) with rfl | rfl | rfl | rfl | rfl | rfl <;> simp
theorem look_round {q : Nat → P3} {n i c0 c1 c2 c3 c4 c5 : Nat} (hi : i < 6) (h0 : c0 = 97 + i % 6) (h1 : c1 = 97 + (i + 1) % 6) (h2 : c2 = 97 + (i + 2) % 6) (h3 : c3 = 97 + (i + 3) % 6) (h4 : c4 = 97 + (i + 4) % 6) (h5 : c5 = 97 + (i + 5) % 6) (c : Nat) (hc : 97 ≤ c) (hc' : c ≤ 102) :
    List.lookup (⟨#[c]⟩ : Str) [(⟨#[c0]⟩, add3 (rotP n (q c0)) (q c1)), (⟨#[c1]⟩, add3 (rotP n (q c1)) (q c2)), (⟨#[c2]⟩, add3 (rotP n (q c2)) (q c3)), (⟨#[c3]⟩, add3 (rotP n (q c3)) (q c4)), (⟨#[c4]⟩, add3 (rotP n (q c4)) (q c5)), (⟨#[c5]⟩, add3 (rotP n (q c5)) (q c0))] = some (roundQ n q c) := by
  have hi' := six_of hi
  rcases hi' with rfl | rfl | rfl | rfl | rfl | rfl <;> subst h0 h1 h2 h3 h4 h5 <;> rcases letter_cases hc hc' with rfl | rfl | rfl | rfl | rfl | rfl <;> rfl
theorem nodup_round {i c0 c1 c2 c3 c4 c5 : Nat} (hi : i < 6) (h0 : c0 = 97 + i % 6) (h1 : c1 = 97 + (i + 1) % 6) (h2 : c2 = 97 + (i + 2) % 6) (h3 : c3 = 97 + (i + 3) % 6) (h4 : c4 = 97 + (i + 4) % 6) (h5 : c5 = 97 + (i + 5) % 6) : [c0, c1, c2, c3, c4, c5].Nodup := by
  have hi' := six_of hi
  rcases hi' with rfl | rfl | rfl | rfl | rfl | rfl <;> subst h0 h1 h2 h3 h4 h5 <;> decide
/-- what the laws about floats give of a turn -/
def TurnFact : Prop := ∀ (q : P3) (n : Nat), PBnd 192 q → 3 ≤ n → n ≤ 8 → TurnOk q.1 q.2.1 q.2.2 n (rotP n q).1 (rotP n q).2.1 (rotP n q).2.2
theorem abs_64 {x : Int} (h : 0 ≤ x ∧ x ≤ 192) : x.natAbs < 2 ^ 64 := by lia
theorem bnd_abs {q : P3} (h : PBnd 192 q) : q.1.natAbs < 2 ^ 64 ∧ q.2.1.natAbs < 2 ^ 64 ∧ q.2.2.natAbs < 2 ^ 64 := ⟨abs_64 h.1, abs_64 h.2.1, abs_64 h.2.2⟩
theorem pow_le : ∀ {i : Nat}, i < 5 → (12 * 2 ^ i : Int) ≤ 192 := by decide
end Mine
end
section
open PySem PySem.Spec PySem.Calls PySem.W PyProof.Rows
set_option maxRecDepth 100000
namespace Mine
/-- what holds ahead of the i-th round: the ring's pieces, the paints, the turns left -/
structure RS (w : World) (L x dx tr P : Addr) (lf : Nat) (q00 q01 q02 q03 q04 q05 : P3) (nw : List (Addr × Obj)) (i : Nat) (D : Addr) (l : List (Str × P3)) (q : Nat → P3) (p0 p1 p2 p3 p4 p5 : Piece) (ws : List Value) (tn : List Nat) : Prop where
  pd : PaintDict PySem.Challenge.rw_wo0025_01.row.prog w nw D l
  look : ∀ c, 97 ≤ c → c ≤ 102 → l.lookup (⟨#[c]⟩ : Str) = some (q c)
  letters : p0.2.2.2 = 97 + i % 6 ∧ p1.2.2.2 = 97 + (i + 1) % 6 ∧ p2.2.2.2 = 97 + (i + 2) % 6 ∧ p3.2.2.2 = 97 + (i + 3) % 6 ∧ p4.2.2.2 = 97 + (i + 4) % 6 ∧ p5.2.2.2 = 97 + (i + 5) % 6
  pcs : (p0.1, pieceObj p0) ∈ nw ∧ (p1.1, pieceObj p1) ∈ nw ∧ (p2.1, pieceObj p2) ∈ nw ∧ (p3.1, pieceObj p3) ∈ nw ∧ (p4.1, pieceObj p4) ∈ nw ∧ (p5.1, pieceObj p5) ∈ nw
  wints : IntsAre ws (tn.map fun n : Nat => (n : Int))
  len : tn.length + i = 5
  rng : ∀ n ∈ tn, 3 ≤ n ∧ n ≤ 8
  runs : run tn (v6 q) = wishes (lf : Int) (pt q00, pt q01, pt q02, pt q03, pt q04, pt q05)
  bnd : ∀ c, PBnd (12 * 2 ^ i) (q c)
  pts : PtsIn nw P q00 q01 q02 q03 q04 q05
  off : ∀ p ∈ nw, p.1 ≠ 98 ∧ p.1 ≠ 23 ∧ p.1 ≠ x ∧ p.1 ≠ dx ∧ p.1 ≠ L + 1 ∧ p.1 ≠ tr
theorem RS.cons {w : World} {L x dx tr P : Addr} {lf : Nat} {q00 q01 q02 q03 q04 q05 : P3} {nw : List (Addr × Obj)} {i : Nat} {D : Addr} {l : List (Str × P3)} {q : Nat → P3} {p0 p1 p2 p3 p4 p5 : Piece} {ws : List Value} {tn : List Nat} {e : Addr × Obj}
    (r : RS w L x dx tr P lf q00 q01 q02 q03 q04 q05 nw i D l q p0 p1 p2 p3 p4 p5 ws tn) (h : e.1 ≠ 98 ∧ e.1 ≠ 23 ∧ e.1 ≠ x ∧ e.1 ≠ dx ∧ e.1 ≠ L + 1 ∧ e.1 ≠ tr) :
    RS w L x dx tr P lf q00 q01 q02 q03 q04 q05 (e :: nw) i D l q p0 p1 p2 p3 p4 p5 ws tn where
  pd := r.pd.sub (Sub.skip Sub.same)
  look := r.look
  letters := r.letters
  pcs := let ⟨a, b, c, d, e, f⟩ := r.pcs; ⟨.tail _ a, .tail _ b, .tail _ c, .tail _ d, .tail _ e, .tail _ f⟩
  wints := r.wints
  len := r.len
  rng := r.rng
  runs := r.runs
  bnd := r.bnd
  pts := r.pts.sub (Sub.skip Sub.same)
  off := List.forall_mem_cons.mpr ⟨h, r.off⟩
section
variable {prog : Program} {w : World} {A : Around} {E : Value → Shared → Prop} {s : Shared} {h₀ h : Heap} {L : Addr} {m : Str → Option Value} {news : List (Addr × Obj)}
theorem erase_map (f : Nat → Int) : ∀ (l : List Nat) (j : Nat), (l.map f).eraseIdx j = (l.eraseIdx j).map f
  | [], _ => rfl
  | _ :: _, 0 => rfl
  | a :: l, j + 1 => by
    show f a :: (l.map f).eraseIdx j = f a :: (l.eraseIdx j).map f
    rw [erase_map f l j]
theorem pop_nats {tr : Addr} {ws : List Value} {ts : List Nat} {j n : Nat} {i : Int} {u : Tok} {Q : Value → Shared → Prop} (F : Fr h₀ L s.heap m) (N : News h₀ L s.heap ((tr, W.listOf ws.toArray n) :: news)) (b : ∀ p ∈ news, p.1 ≠ tr)
    (hI : IntsAre ws (ts.map fun n : Nat => (n : Int))) (hi : i = (j : Int)) (hj : j < ts.length) (hl : ts.length ≤ 6)
    (h : ∀ h' t ws', IntsAre ws' ((ts.eraseIdx j).map fun n : Nat => (n : Int)) → Fr h₀ L h' m → News h₀ L h' ((tr, W.listOf ws'.toArray (n + 1)) :: news) → Q (.int (ts[j] : Nat) t) { s with heap := h' }) :
    wpAny (model prog w) A (call (.builtin "list.pop") [.ref tr, .int i u]) Q E s := by
  refine pop_ints F N b hI hi (by simpa using hj) (by simpa using hl) fun h' t ws' hI' F' N' => ?_
  rw [erase_map] at hI'
  have e : (ts.map fun n : Nat => (n : Int))[j]'(by simpa using hj) = ((ts[j] : Nat) : Int) := List.getElem_map ..
  rw [e]
  exact h h' t ws' hI' F' N'
theorem fmod_nat (a b : Nat) : ((a : Int)).fmod (b : Int) = ((a % b : Nat) : Int) := by
  rw [Int.fmod_eq_emod_of_nonneg _ (by simp +arith)]; rfl
theorem fdiv_nat (a b : Nat) : ((a : Int)).fdiv (b : Int) = ((a / b : Nat) : Int) := by
  rw [Int.fdiv_eq_ediv_of_nonneg _ (by simp +arith)]; rfl
theorem round_settle {h1 h2 : Heap} {x dx c tr I : Addr} {ps qs xs its : Array Value} {k kt : Nat} {od o o8 oI : Obj} {v : Option Value} {nw : List (Addr × Obj)}
    (N7 : News h₀ L h1 ((98, tabOf ps) :: (23, tabOf qs) :: (x, ringObj dx xs k) :: (dx, od) :: nw))
    (N8 : News h₀ L h2 ((c, o8) :: ((98, tabOf ps) :: (23, tabOf qs) :: (x, ringObj dx xs k) :: (dx, od) :: nw).filter fun p => p.1 != c))
    (hod : RD od) (mc : (c, o) ∈ nw) (hd : o.data = .cell v) (mt : (tr, W.listOf its kt) ∈ nw) (mI : (I, oI) ∈ nw) (hIc : I ≠ c) :
    News h₀ L h2 ((I, oI) :: (98, tabOf ps) :: (23, tabOf qs) :: (x, ringObj dx xs k) :: (dx, od) :: (c, o8) :: (tr, W.listOf its kt) :: nw.filter fun p => offB [c, tr, I] p.1) := by
  have mc' : (c, o) ∈ (98, tabOf ps) :: (23, tabOf qs) :: (x, ringObj dx xs k) :: (dx, od) :: nw := .tail _ (.tail _ (.tail _ (.tail _ mc)))
  have key : ∀ p ∈ ((98, tabOf ps) :: (23, tabOf qs) :: (x, ringObj dx xs k) :: (dx, od) :: nw : List (Addr × Obj)), p.1 ≠ c → p ∈ ((c, o8) :: ((98, tabOf ps) :: (23, tabOf qs) :: (x, ringObj dx xs k) :: (dx, od) :: nw).filter fun p => p.1 != c) :=
    fun p hp hne => .tail _ (List.mem_filter.mpr ⟨hp, bne_iff_ne.mpr hne⟩)
  have ne : ∀ p ∈ ((98, tabOf ps) :: (23, tabOf qs) :: (x, ringObj dx xs k) :: (dx, od) :: nw : List (Addr × Obj)), (∀ v, p.2.data ≠ .cell v) → p.1 ≠ c := fun p hp hne => news_ne_data N7 hp mc' (by rw [hd]; exact hne v)
  refine news_sub N8 (Sub.cons (key _ (.tail _ (.tail _ (.tail _ (.tail _ mI)))) hIc) (Sub.cons (key _ (.head _) (ne _ (.head _) (by intro v q; cases q))) (Sub.cons (key _ (.tail _ (.head _)) (ne _ (.tail _ (.head _)) (by intro v q; cases q))) (Sub.cons (key _ (.tail _ (.tail _ (.head _))) (ne _ (.tail _ (.tail _ (.head _))) (by intro v q; cases q)))
    (Sub.cons (key _ (.tail _ (.tail _ (.tail _ (.head _)))) (ne _ (.tail _ (.tail _ (.tail _ (.head _)))) ?_)) (Sub.cons (.head _) (Sub.cons (key _ (.tail _ (.tail _ (.tail _ (.tail _ mt)))) (ne _ (.tail _ (.tail _ (.tail _ (.tail _ mt)))) (by intro v q; cases q))) fun p hp => ?_)))))))
  · intro v q
    obtain ⟨_, _, _, h | ⟨_, _, _, _, h⟩⟩ := hod
    · dsimp only at q; rw [h] at q; cases q
    · dsimp only at q; rw [h] at q; cases q
  · exact key _ (.tail _ (.tail _ (.tail _ (.tail _ (List.mem_filter.mp hp).1)))) (off_out p hp _ (by simp))
end
end Mine
end
section
open PySem PySem.Spec PySem.Calls PySem.W PyProof.Rows PySem.Flt
set_option maxRecDepth 100000
set_option maxHeartbeats 8000000
namespace Mine
theorem round_use {w : World} {pv : Program} {lo : List Str} {mean : ExcName → Option Value} {mg mb : Str → Option Value} {dp un : Nat} {gd : Option (List Code)} {cn : Str} {cs : Scope} {a : Addr} {ccd : Value} {cl : List (Str × Addr)} {outer : List Env} {A₀ : Around} {base h₀ : Heap} {L : Addr} {m : Str → Option Value} {s : Shared} {Q E : Value → Shared → Prop} {news : List (Addr × Obj)} {x dx : Addr} {k : Nat} {od : Obj} {ps qs : Array Value} {nw : List (Addr × Obj)} {p0 p1 p2 p3 p4 p5 : Piece} {D : Addr} {l : List (Str × P3)} {n : Int} {tn : Tok} {q0 q1 q2 q3 q4 q5 z0 z1 z2 z3 z4 z5 : P3}
    (B : Below A₀ base outer h₀) (F : Fr h₀ L s.heap m) (X : (hd.heap_1 w.params).In h₀) (N : News h₀ L s.heap news) (T : Top pv lo mean mg mb h₀) (hk : cs.kind = .function)
    (hd : dp + 4 < recursionLimit) (hu : un + 32 < cLine)
    (hz0 : news = (98, tabOf ps) :: (23, tabOf qs) :: (x, ringObj dx (piecesOf [p0, p1, p2, p3, p4, p5]) k) :: (dx, od) :: nw)
    (hz1 : TriplesOk ps.toList ∧ TriplesOk qs.toList ∧ RD od ∧ @LT.lt Nat _ dx x ∧ @LT.lt Nat _ 98 dx ∧ (∀ p ∈ nw, p.1 ≠ 98) ∧ (∀ p ∈ nw, p.1 ≠ 23) ∧ (∀ p ∈ nw, p.1 ≠ x) ∧ (∀ p ∈ nw, p.1 ≠ dx))
    (hz2 : (p0.1, pieceObj p0) ∈ nw ∧ (p1.1, pieceObj p1) ∈ nw ∧ (p2.1, pieceObj p2) ∈ nw ∧ (p3.1, pieceObj p3) ∈ nw ∧ (p4.1, pieceObj p4) ∈ nw ∧ (p5.1, pieceObj p5) ∈ nw)
    (hz3 : PaintDict PySem.Challenge.rw_wo0025_01.row.prog w nw D l ∧ l.lookup ⟨#[p0.2.2.2]⟩ = some q0 ∧ l.lookup ⟨#[p1.2.2.2]⟩ = some q1 ∧ l.lookup ⟨#[p2.2.2.2]⟩ = some q2 ∧ l.lookup ⟨#[p3.2.2.2]⟩ = some q3 ∧ l.lookup ⟨#[p4.2.2.2]⟩ = some q4 ∧ l.lookup ⟨#[p5.2.2.2]⟩ = some q5)
    (hz4 : [p0.2.2.2, p1.2.2.2, p2.2.2.2, p3.2.2.2, p4.2.2.2, p5.2.2.2].Nodup)
    (hz5 : n.natAbs < 2 ^ 64 ∧ (q0.1.natAbs < 2 ^ 64 ∧ q0.2.1.natAbs < 2 ^ 64 ∧ q0.2.2.natAbs < 2 ^ 64) ∧ (q1.1.natAbs < 2 ^ 64 ∧ q1.2.1.natAbs < 2 ^ 64 ∧ q1.2.2.natAbs < 2 ^ 64) ∧ (q2.1.natAbs < 2 ^ 64 ∧ q2.2.1.natAbs < 2 ^ 64 ∧ q2.2.2.natAbs < 2 ^ 64) ∧ (q3.1.natAbs < 2 ^ 64 ∧ q3.2.1.natAbs < 2 ^ 64 ∧ q3.2.2.natAbs < 2 ^ 64) ∧ (q4.1.natAbs < 2 ^ 64 ∧ q4.2.1.natAbs < 2 ^ 64 ∧ q4.2.2.natAbs < 2 ^ 64) ∧ (q5.1.natAbs < 2 ^ 64 ∧ q5.2.1.natAbs < 2 ^ 64 ∧ q5.2.2.natAbs < 2 ^ 64))
    (hz6 : TurnOk q0.1 q0.2.1 q0.2.2 n z0.1 z0.2.1 z0.2.2 ∧ TurnOk q1.1 q1.2.1 q1.2.2 n z1.1 z1.2.1 z1.2.2 ∧ TurnOk q2.1 q2.2.1 q2.2.2 n z2.1 z2.2.1 z2.2.2 ∧ TurnOk q3.1 q3.2.1 q3.2.2 n z3.1 z3.2.1 z3.2.2 ∧ TurnOk q4.1 q4.2.1 q4.2.2 n z4.1 z4.2.1 z4.2.2 ∧ TurnOk q5.1 q5.2.1 q5.2.2 n z5.1 z5.2.1 z5.2.2)
    (hret : ∀ D' h' g' tk ps' qs' k' od' nw', TriplesOk ps'.toList → TriplesOk qs'.toList → RD od' → Bare2 s.gens g' → Fr h₀ L h' m → News h₀ L h' ((98, tabOf ps') :: (23, tabOf qs') :: (x, ringObj dx (piecesOf [p1, p2, p3, p4, p5, p0]) k') :: (dx, od') :: nw') → (∀ p ∈ nw', p.1 ≠ 98) → (∀ p ∈ nw', p.1 ≠ 23) → (∀ p ∈ nw', p.1 ≠ x) → (∀ p ∈ nw', p.1 ≠ dx) → Sub nw nw' → PaintDict PySem.Challenge.rw_wo0025_01.row.prog w nw' D' [(⟨#[p0.2.2.2]⟩, add3 z0 q1), (⟨#[p1.2.2.2]⟩, add3 z1 q2), (⟨#[p2.2.2.2]⟩, add3 z2 q3), (⟨#[p3.2.2.2]⟩, add3 z3 q4), (⟨#[p4.2.2.2]⟩, add3 z4 q5), (⟨#[p5.2.2.2]⟩, add3 z5 q0)] → Q (.ref D') { s with heap := h', gens := g', toks := tk }) :
    wpAny (model PySem.Challenge.rw_wo0025_01.row.prog w) (ktrTop dp un gd cn cs L a ccd cl outer) (call (.ref 143) [.ref x, .ref D, .int n tn]) Q E s :=
  round w pv lo mean mg mb _ _ _ _ _ _ _ _ _ _ _ _ _ _ _ _ _ _ _ _ _ _ _ _ _ _ _ _ _ _ _ _ _ _ _ _ _ _ _ _ _ _ _ _ _ _ _  B F X N T hk hd hu hz0 hz1 hz2 hz3 hz4 hz5 hz6 hret
inductive RoundJ (w : World) (L x dx tr P D0 G sc I a : Addr) (tup : Obj) (lf : Nat) (tl : Tok) (q00 q01 q02 q03 q04 q05 : P3) (nv : Option Value) (i : Nat) (m' : Str → Option Value) (news' : List (Addr × Obj)) : Prop
  | mk (ps qs : Array Value) (k : Nat) (od o : Obj) (ws : List Value) (kt : Nat) (D : Addr) (l : List (Str × P3)) (q : Nat → P3) (p0 p1 p2 p3 p4 p5 : Piece) (tn : List Nat) (nw : List (Addr × Obj)) (tot : Nat) (tt : Tok) (cv : Option Value) (f0 : TriplesOk ps.toList) (f1 : TriplesOk qs.toList) (f2 : RD od) (f3 : o.data = Data.cell (some (.ref D))) (f4 : RS w L x dx tr P lf q00 q01 q02 q03 q04 q05 nw i D l q p0 p1 p2 p3 p4 p5 ws tn) (f5 : (a, tup) ∈ nw) (f6 : (∀ p ∈ nw, p.1 ≠ I)) (f7 : m' = (fun y => if y = Str.ofString "count" then cv else if y = Str.ofString "total" then some (.int (tot : Int) tt) else if y = Str.ofString "name" then nv else (fun y => if y = Str.ofString "ring" then some (Value.ref x) else if y = Str.ofString "left" then some (.int (lf : Int) tl) else if y = Str.ofString "turns" then some (Value.ref tr) else if y = Str.ofString "points" then some (Value.ref P) else if y = Str.ofString "numbers" then some (Value.ref D0) else if y = Str.ofString "given" then some (Value.ref G) else if y = Str.ofString "script" then some (Value.ref sc) else none) y)) (f8 : news' = (98, tabOf ps) :: (23, tabOf qs) :: (x, ringObj dx (piecesOf [p0, p1, p2, p3, p4, p5]) k) :: (dx, od) :: (L + 1, o) :: (tr, W.listOf ws.toArray kt) :: nw)
theorem five_of {i : Nat} (h : i < 5) : i = 0 ∨ i = 1 ∨ i = 2 ∨ i = 3 ∨ i = 4 := by revert i; decide
theorem i5_of {c i : Nat} (h : c + i = 5) (h0 : 0 < c) : i < 5 := by omega
theorem n98_L {L : Nat} (h : 172 < L) : 98 < L + 1 := by omega
theorem n23_L {L : Nat} (h : 172 < L) : 23 < L + 1 := by omega
theorem counts_at {i : Nat} {a : Itm} {t5 t4 t3 t2 t1 : Tok} (h : [Itm.val (.int 5 t5), Itm.val (.int 4 t4), Itm.val (.int 3 t3), Itm.val (.int 2 t2), Itm.val (.int 1 t1)][i]? = some a) : ∃ (c : Nat) (tc : Tok), a = Itm.val (.int (c : Int) tc) ∧ c + i = 5 ∧ 0 < c := by
  have hi5 : i < 5 := (List.getElem?_eq_some_iff.mp h).1
  rcases five_of hi5 with rfl | rfl | rfl | rfl | rfl
  · exact ⟨5, _, (Option.some.inj h).symm, rfl, by decide⟩
  · exact ⟨4, _, (Option.some.inj h).symm, rfl, by decide⟩
  · exact ⟨3, _, (Option.some.inj h).symm, rfl, by decide⟩
  · exact ⟨2, _, (Option.some.inj h).symm, rfl, by decide⟩
  · exact ⟨1, _, (Option.some.inj h).symm, rfl, by decide⟩
theorem hj_of {t c l i : Nat} (hl : l + i = 5) (hci : c + i = 5) (h0 : 0 < c) : t % c < l := (Nat.add_right_cancel (hci.trans hl.symm)) ▸ Nat.mod_lt t h0
theorem l6_of {l i : Nat} (hl : l + i = 5) : l ≤ 6 := by lia
theorem look_lo {c n : Nat} (e : c = 97 + n % 6) : 97 ≤ c := e ▸ Nat.le_add_right _ _
theorem look_hi {c n : Nat} (e : c = 97 + n % 6) : c ≤ 102 := by lia
theorem i6_of {i : Nat} (h : i < 5) : i < 6 := Nat.lt_succ_of_lt h
theorem n9_of {n : Nat} (h : 3 ≤ n ∧ n ≤ 8) : (n : Int).natAbs < 2 ^ 64 := by lia
theorem len_of {l i j : Nat} (hl : l + i = 5) (hj : j < l) : l - 1 + (i + 1) = 5 := by lia
theorem nil_of {l : Nat} (hl : l + 5 = 5) : l = 0 := Nat.add_right_cancel (hl.trans (Nat.zero_add 5).symm)
theorem law5 {w : World} {pv : Program} {lo : List Str} {mean : ExcName → Option Value} {mg mb : Str → Option Value} {fa : Addr} {cd : Value} {h₀ : Heap} {L : Addr} {s : Shared} {Q : Flow → Shared → Prop} {E : Value → Shared → Prop} {sc D0 G P tr x dx D : Addr} {o od : Obj} {lf tot : Nat} {tl tt : Tok} {ws : List Value} {nw : List (Addr × Obj)} {l : List (Str × P3)} {q : Nat → P3} {q00 q01 q02 q03 q04 q05 : P3} {p0 p1 p2 p3 p4 p5 : Piece} {tn : List Nat} {nv : Option Value} {ps qs : Array Value} {k kt : Nat}
    (B : Below callerA h₀ [] h₀) (F : Fr h₀ L s.heap (fun y => if y = Str.ofString "name" then nv else (fun y => if y = Str.ofString "ring" then some (Value.ref x) else if y = Str.ofString "left" then some (.int (lf : Int) tl) else if y = Str.ofString "total" then some (.int (tot : Int) tt) else if y = Str.ofString "turns" then some (Value.ref tr) else if y = Str.ofString "points" then some (Value.ref P) else if y = Str.ofString "numbers" then some (Value.ref D0) else if y = Str.ofString "given" then some (Value.ref G) else if y = Str.ofString "script" then some (Value.ref sc) else none) y)) (X : (hd.heap_1 w.params).In h₀) (N : News h₀ L s.heap ((98, tabOf ps) :: (23, tabOf qs) :: (x, ringObj dx (piecesOf [p0, p1, p2, p3, p4, p5]) k) :: (dx, od) :: (L + 1, o) :: (tr, W.listOf ws.toArray kt) :: nw)) (T : Top pv lo mean mg mb h₀)
    (hz0 : PassesOwn (model PySem.Challenge.rw_wo0025_01.row.prog w) (callerA.deeper (lawEnv L fa cd)) (lawEnv L fa cd) E)
    (hz1 : TurnFact)
    (hz2 : TriplesOk ps.toList ∧ TriplesOk qs.toList ∧ RD od)
    (hz3 : o.data = Data.cell (some (.ref D)))
    (hz4 : RS w L x dx tr P lf q00 q01 q02 q03 q04 q05 nw 0 D l q p0 p1 p2 p3 p4 p5 ws tn)
    (hz5 : @LT.lt Nat _ dx x ∧ @LT.lt Nat _ 98 dx)
    (hret : ∀ h' g' tk, Bare2 s.gens g' → ∀ ps qs k od o ws kt D l q p0 p1 p2 p3 p4 p5 nw, ∀ (tot : Nat) (tt : Tok) (cv : Option Value), TriplesOk ps.toList → TriplesOk qs.toList → RD od → o.data = Data.cell (some (.ref D)) → RS w L x dx tr P lf q00 q01 q02 q03 q04 q05 nw 5 D l q p0 p1 p2 p3 p4 p5 ws [] → Fr h₀ L h' (fun y => if y = Str.ofString "count" then cv else if y = Str.ofString "total" then some (.int (tot : Int) tt) else if y = Str.ofString "name" then nv else (fun y => if y = Str.ofString "ring" then some (Value.ref x) else if y = Str.ofString "left" then some (.int (lf : Int) tl) else if y = Str.ofString "turns" then some (Value.ref tr) else if y = Str.ofString "points" then some (Value.ref P) else if y = Str.ofString "numbers" then some (Value.ref D0) else if y = Str.ofString "given" then some (Value.ref G) else if y = Str.ofString "script" then some (Value.ref sc) else none) y) → News h₀ L h' ((98, tabOf ps) :: (23, tabOf qs) :: (x, ringObj dx (piecesOf [p0, p1, p2, p3, p4, p5]) k) :: (dx, od) :: (L + 1, o) :: (tr, W.listOf ws.toArray kt) :: nw) → wpAny (model PySem.Challenge.rw_wo0025_01.row.prog w) (callerA.deeper (lawEnv L fa cd)) (execs (lawBody.drop 9) (lawEnv L fa cd)) Q E { s with heap := h', gens := g', toks := tk }) :
    wpAny (model PySem.Challenge.rw_wo0025_01.row.prog w) (callerA.deeper (lawEnv L fa cd)) (execs (lawBody.drop 8) (lawEnv L fa cd)) Q E s := by
  w_top off
  k_with_none
  k_with "exec For" => ((k_here; k_dflt (refine For_G (by k_asm) ?_ (by intro _; rfl) (by assumption))))
  k_with "exec For Name Tuple cons nil" => ((k_here; k_dflt (refine For_G (by k_asm) ?_ (by intro _; rfl) (by assumption))))
  k_with "exec For Tuple Call cons nil" => ((k_here; k_dflt (refine For_G (by k_asm) ?_ (by intro _; rfl) (by assumption))))
  k_with "execs cons" => ((k_here; (fail_if_success (fail_if_success with_reducible show wpAny _ _ (execs (Stmt.For (Expr.Tuple _ _ _) _ _ _ _ :: _) _) _ _ _)); refine Stop.out ?_))
  k_with "call builtin:list.pop" => ((k_here; (fail_if_success (fail_if_success with_reducible show wpAny _ _ (call _ [Value.ref _, Value.int _ _]) _ _ _)); refine Stop.out ?_))
  k_with "pyIter ref" => ((k_here; (fail_if_success (fail_if_success with_reducible show wpAny _ _ (pyIter (Value.ref _)) (GAt _ _ _ _ _ _ _ _) _ _)); refine Stop.out ?_))
  k_with "storeName" => ((k_here; (fail_if_success (fail_if_success k_dflt (show wpAny _ _ (storeName _ (Str.ofString "paints") _) _ _ _))); refine Stop.out ?_))
  k_with "call ref" => (((fail_if_success (fail_if_success k_dflt (show wpAny _ _ (call (Value.ref 143) _) _ _ _))); refine Stop.out ?_))
  with_unfolding_all have eb : lawBody.drop 8 = _ :: _ := rfl
  with_unfolding_all have es : lawScope = ⟨_, _, _, _, _⟩ := rfl
  unfold lawEnv
  rw [eb, es]
  clear eb es
  revert X; k_fill; intro X
  with_unfolding_all have hE : PassesOwn (model PySem.Challenge.rw_wo0025_01.row.prog w) (callerA.deeper _) _ E := hz0
  k_dflt (try k_fold)
  k_steps
  (rename Fr _ _ _ _ => F1); (rename News _ _ _ _ => N1)
  rename_i a9 h9 l9
  obtain ⟨tri1, tri2, rd⟩ := hz2
  obtain ⟨ltd, lt98⟩ := hz5
  have rs0 := hz4
  have bL : @LT.lt Nat _ 172 L := L_big X F1
  have N2 := news_sub N1 (a := (98, tabOf ps) :: (23, tabOf qs) :: (x, ringObj dx (piecesOf [p0, p1, p2, p3, p4, p5]) k) :: (dx, od) :: (L + 1, o) :: (tr, W.listOf ws.toArray kt) :: (a9, _) :: nw) (Sub.cons (.tail _ (.head _)) (Sub.cons (.tail _ (.tail _ (.head _))) (Sub.cons (.tail _ (.tail _ (.tail _ (.head _)))) (Sub.cons (.tail _ (.tail _ (.tail _ (.tail _ (.head _))))) (Sub.cons (.tail _ (.tail _ (.tail _ (.tail _ (.tail _ (.head _)))))) (Sub.cons (.tail _ (.tail _ (.tail _ (.tail _ (.tail _ (.tail _ (.head _))))))) (Sub.cons (.head _) (Sub.skip (Sub.skip (Sub.skip (Sub.skip (Sub.skip (Sub.skip (Sub.skip Sub.same))))))))))))))
  k_dflt (refine g_tup (a := a9) rfl F1 N2 (.tail _ (.tail _ (.tail _ (.tail _ (.tail _ (.tail _ (.head _))))))) ?_)
  intro I lI
  have hIc : @LT.lt Nat _ (L + 1) I := lI (L + 1, o) (by k_mem)
  k_dflt (refine GItems.all (J := RoundJ w L x dx tr P D0 G sc I a9 { cls := .type "tuple", data := .seq #[.int 5 s.toks, .int 4 (s.toks + 1), .int 3 (s.toks + 1 + 1), .int 2 (s.toks + 1 + 1 + 1), .int 1 (s.toks + 1 + 1 + 1 + 1)] } lf tl q00 q01 q02 q03 q04 q05 nv) ?_ ⟨.tail _ (.tail _ (.tail _ (.tail _ (.tail _ (.tail _ (.head _)))))), trivial⟩ ?_ ?_)
  case refine_1 =>
    refine ⟨ps, qs, k, od, o, ws, kt, D, l, q, p0, p1, p2, p3, p4, p5, tn, _, tot, tt, none, tri1, tri2, rd, hz3, rs0.cons ⟨Ne.symm (Nat.ne_of_lt l9.1), Ne.symm (Nat.ne_of_lt l9.2.1), Ne.symm (Nat.ne_of_lt l9.2.2.1), Ne.symm (Nat.ne_of_lt l9.2.2.2.1), Ne.symm (Nat.ne_of_lt l9.2.2.2.2.1), Ne.symm (Nat.ne_of_lt l9.2.2.2.2.2.1)⟩, .head _, fun p hp => Nat.ne_of_lt (lI p (.tail _ (.tail _ (.tail _ (.tail _ (.tail _ (.tail _ hp))))))), ?_, rfl⟩
    funext z
    by_cases h1 : z = Str.ofString "count"
    · subst h1; k_dflt exact rfl
    · by_cases h2 : z = Str.ofString "total"
      · subst h2; k_dflt exact rfl
      · by_cases h3 : z = Str.ofString "name"
        · subst h3; k_dflt exact rfl
        · simp only [if_neg h1, if_neg h2, if_neg h3]
  case refine_2 =>
    rintro i a m' news' hi ⟨ps, qs, k, od, o, ws, kt, D, l, q, p0, p1, p2, p3, p4, p5, tn, nw, tot, tt, cv, tri1, tri2, rd, hd, rs, ma, nI, rfl, rfl⟩ - v h tk g oI bg hav hc F2 N3
    replace F2 : Fr h₀ L h _ := F2
    replace N3 : News h₀ L h _ := N3
    obtain ⟨c, tc, rfl, hci, hc0⟩ := counts_at hi
    have hav' : v = .int (c : Int) tc := hav
    subst hav'
    clear F1 N1 hav
    k_steps
    refine Stop.intro ?_
    (rename Fr _ _ _ _ => F4); (rename News _ _ _ _ => N4)
    obtain ⟨e0, e1, e2, e3, e4, e5⟩ := rs.letters
    obtain ⟨m0, m1, m2, m3, m4, m5⟩ := rs.pcs
    have hlen := rs.len
    have hi5 : i < 5 := i5_of hci hc0
    have hj : tot % c < tn.length := hj_of hlen hci hc0
    have N5 := news_sub N4 (a := (tr, W.listOf ws.toArray kt) :: (I, oI) :: (98, tabOf ps) :: (23, tabOf qs) :: (x, ringObj dx (piecesOf [p0, p1, p2, p3, p4, p5]) k) :: (dx, od) :: (L + 1, o) :: nw) (by (repeat (refine Sub.cons (by k_mem) ?_)); (repeat (first | exact Sub.same | refine Sub.skip ?_)))
    have mT4 : (tr, W.listOf ws.toArray kt) ∈ ((I, oI) :: (98, tabOf ps) :: (23, tabOf qs) :: (x, ringObj dx (piecesOf [p0, p1, p2, p3, p4, p5]) k) :: (dx, od) :: (L + 1, o) :: (tr, W.listOf ws.toArray kt) :: nw) := by k_mem
    have tI : I ≠ tr := news_ne N4 (.head _) mT4 (by rw [hc]; intro q; injection q with q; exact absurd q (by decide))
    have t98 : (98 : Addr) ≠ tr := news_ne_data N4 (o := tabOf ps) (by k_mem) mT4 (by intro q; cases q)
    have t23 : (23 : Addr) ≠ tr := news_ne_data N4 (o := tabOf qs) (by k_mem) mT4 (by intro q; cases q)
    have tx : x ≠ tr := news_ne N4 (o := ringObj dx (piecesOf [p0, p1, p2, p3, p4, p5]) k) (by k_mem) mT4 (by intro q; cases q)
    have td : dx ≠ tr := news_ne N4 (o := od) (by k_mem) mT4 (by rw [rd.1]; intro q; injection q with q; exact absurd q (by decide))
    have tL : L + 1 ≠ tr := news_ne_data N4 (o := o) (by k_mem) mT4 (by rw [hd]; intro q; cases q)
    have offT : ∀ p ∈ ((I, oI) :: (98, tabOf ps) :: (23, tabOf qs) :: (x, ringObj dx (piecesOf [p0, p1, p2, p3, p4, p5]) k) :: (dx, od) :: (L + 1, o) :: nw), p.1 ≠ tr :=
      List.forall_mem_cons.mpr ⟨tI, List.forall_mem_cons.mpr ⟨t98, List.forall_mem_cons.mpr ⟨t23, List.forall_mem_cons.mpr ⟨tx, List.forall_mem_cons.mpr ⟨td, List.forall_mem_cons.mpr ⟨tL, fun p hp => (rs.off p hp).2.2.2.2.2⟩⟩⟩⟩⟩⟩
    k_dflt (refine pop_nats F4 N5 offT rs.wints (j := tot % c) (fmod_nat tot c) hj (l6_of hlen) ?_)
    intro h6 t6 ws2 hI2 F6 N6
    clear F4 N4 N5
    have hr9 := rs.rng _ (List.getElem_mem hj)
    have rE := run_erase tn (tot % c) hj (v6 q)
    generalize tn[tot % c] = n9 at *
    k_steps
    refine Stop.intro ?_
    (rename Fr _ _ _ _ => F7); (rename News _ _ _ _ => N7)
    have N8 := news_sub N7 (a := (98, tabOf ps) :: (23, tabOf qs) :: (x, ringObj dx (piecesOf [p0, p1, p2, p3, p4, p5]) k) :: (dx, od) :: (L + 1, o) :: (tr, W.listOf ws2.toArray (kt + 1)) :: (I, oI) :: nw) (by (repeat (refine Sub.cons (by k_mem) ?_)); (repeat (first | exact Sub.same | refine Sub.skip ?_)))
    clear N7
    have bd : ∀ c, PBnd 192 (q c) := fun c => bnd_mono (rs.bnd c) (pow_le hi5)
    have x98 : (98 : Addr) ≠ I := Nat.ne_of_lt (Nat.lt_trans (n98_L bL) hIc)
    have x23 : (23 : Addr) ≠ I := Nat.ne_of_lt (Nat.lt_trans (n23_L bL) hIc)
    have xx : x ≠ I := news_ne N8 (o := ringObj dx (piecesOf [p0, p1, p2, p3, p4, p5]) k) (by k_mem) (o' := oI) (by k_mem) (by rw [hc]; intro q; cases q)
    have xd : dx ≠ I := news_ne N8 (o := od) (by k_mem) (o' := oI) (by k_mem) (by rw [hc, rd.1]; intro q; injection q with q; exact absurd q (by decide))
    have lx : L + 1 ≠ x := news_ne_data N8 (o := o) (by k_mem) (o' := ringObj dx (piecesOf [p0, p1, p2, p3, p4, p5]) k) (by k_mem) (by rw [hd]; intro q; cases q)
    have ld : L + 1 ≠ dx := news_ne_data N8 (o := o) (by k_mem) (o' := od) (by k_mem) (by
      rw [hd]; intro q
      obtain ⟨_, _, _, h | ⟨_, _, _, _, h⟩⟩ := rd
      · rw [h] at q; cases q
      · rw [h] at q; cases q)
    have l98 : L + 1 ≠ (98 : Addr) := Ne.symm (Nat.ne_of_lt (n98_L bL))
    have l23 : L + 1 ≠ (23 : Addr) := Ne.symm (Nat.ne_of_lt (n23_L bL))
    have offAll : ∀ p ∈ ((L + 1, o) :: (tr, W.listOf ws2.toArray (kt + 1)) :: (I, oI) :: nw), p.1 ≠ 98 ∧ p.1 ≠ 23 ∧ p.1 ≠ x ∧ p.1 ≠ dx :=
      List.forall_mem_cons.mpr ⟨⟨l98, l23, lx, ld⟩, List.forall_mem_cons.mpr ⟨⟨Ne.symm t98, Ne.symm t23, Ne.symm tx, Ne.symm td⟩, List.forall_mem_cons.mpr ⟨⟨Ne.symm x98, Ne.symm x23, Ne.symm xx, Ne.symm xd⟩, fun p hp => ⟨(rs.off p hp).1, (rs.off p hp).2.1, (rs.off p hp).2.2.1, (rs.off p hp).2.2.2.1⟩⟩⟩⟩
    have sub3 : Sub nw ((L + 1, o) :: (tr, W.listOf ws2.toArray (kt + 1)) :: (I, oI) :: nw) := Sub.skip (Sub.skip (Sub.skip Sub.same))
    k_dflt (refine' round_use (l := l) (n := (n9 : Int)) (q0 := q p0.2.2.2) (q1 := q p1.2.2.2) (q2 := q p2.2.2.2) (q3 := q p3.2.2.2) (q4 := q p4.2.2.2) (q5 := q p5.2.2.2) (z0 := rotP n9 (q p0.2.2.2)) (z1 := rotP n9 (q p1.2.2.2)) (z2 := rotP n9 (q p2.2.2.2)) (z3 := rotP n9 (q p3.2.2.2)) (z4 := rotP n9 (q p4.2.2.2)) (z5 := rotP n9 (q p5.2.2.2)) ?k1 ?k2 ?k3 N8 ?k5 ?kK ?kd ?ku rfl ⟨tri1, tri2, rd, ltd, lt98, fun p hp => (offAll p hp).1, fun p hp => (offAll p hp).2.1, fun p hp => (offAll p hp).2.2.1, fun p hp => (offAll p hp).2.2.2⟩ ⟨sub3 _ m0, sub3 _ m1, sub3 _ m2, sub3 _ m3, sub3 _ m4, sub3 _ m5⟩ ⟨rs.pd.sub sub3, rs.look _ (look_lo e0) (look_hi e0), rs.look _ (look_lo e1) (look_hi e1), rs.look _ (look_lo e2) (look_hi e2), rs.look _ (look_lo e3) (look_hi e3), rs.look _ (look_lo e4) (look_hi e4), rs.look _ (look_lo e5) (look_hi e5)⟩ (nodup_round (i6_of hi5) e0 e1 e2 e3 e4 e5) ⟨n9_of hr9, bnd_abs (bd _), bnd_abs (bd _), bnd_abs (bd _), bnd_abs (bd _), bnd_abs (bd _), bnd_abs (bd _)⟩ ⟨hz1 _ n9 (bd _) hr9.1 hr9.2, hz1 _ n9 (bd _) hr9.1 hr9.2, hz1 _ n9 (bd _) hr9.1 hr9.2, hz1 _ n9 (bd _) hr9.1 hr9.2, hz1 _ n9 (bd _) hr9.1 hr9.2, hz1 _ n9 (bd _) hr9.1 hr9.2⟩ ?_; (case k1 => k_asm); (case k2 => k_asm); (case k3 => k_asm); (case k5 => k_asm); (case kK => first | exact rfl | assumption); (case kd => ktr_room); (case ku => ktr_units))
    intro D' h7 g7 tk7 ps' qs' k' od' nw' tri1' tri2' rd' bb7 F8 N9 o98 o23 ox odx sub' pd'
    clear N8 F7
    k_steps
    refine Stop.intro ?_
    (rename Fr _ _ _ _ => FA); (rename News _ _ _ _ => NA)
    k_dflt (refine cell_store FA NA (c := L + 1) (o := o) (by rfl) (.tail _ (.tail _ (.tail _ (.tail _ (sub' _ (.head _)))))) hd ?_ (by rfl) (by rfl))
    intro h8 o8 F9 d8 N10
    have N11 := round_settle NA N10 rd' (sub' _ (.head _)) hd (sub' _ (.tail _ (.head _))) (sub' _ (.tail _ (.tail _ (.head _)))) (Ne.symm (Nat.ne_of_lt hIc))
    have ha : ∀ a ∈ [L + 1, tr, I], ∃ o, (a, o) ∈ nw' ∧ Hd o := by
      intro a h
      simp only [List.mem_cons, List.not_mem_nil, or_false] at h
      rcases h with rfl | rfl | rfl
      · exact ⟨_, sub' _ (.head _), Hd.cell hd⟩
      · exact ⟨_, sub' _ (.tail _ (.head _)), Hd.list _ _⟩
      · exact ⟨_, sub' _ (.tail _ (.tail _ (.head _))), Hd.other hc (by decide) (by decide)⟩
    have NB : News h₀ L _ nw' := news_sub NA (Sub.skip (Sub.skip (Sub.skip (Sub.skip Sub.same))))
    have pdF := off_pd [L + 1, tr, I] NB ha pd'
    have subF : Sub nw (nw'.filter fun p => offB [L + 1, tr, I] p.1) := fun p hp => List.mem_filter.mpr ⟨sub' _ (.tail _ (.tail _ (.tail _ hp))), offB_iff.mpr (by
      intro b hb
      simp only [List.mem_cons, List.not_mem_nil, or_false] at hb
      rcases hb with rfl | rfl | rfl
      · exact (rs.off p hp).2.2.2.2.1
      · exact (rs.off p hp).2.2.2.2.2
      · exact nI p hp)⟩
    have rsF : RS w L x dx tr P lf q00 q01 q02 q03 q04 q05 (nw'.filter fun p => offB [L + 1, tr, I] p.1) (i + 1) D' _ (roundQ n9 q) p1 p2 p3 p4 p5 p0 ws2 (tn.eraseIdx (tot % c)) := {
      pd := pdF
      look := look_round (i := i) (Nat.lt_succ_of_lt hi5) e0 e1 e2 e3 e4 e5
      letters := ⟨e1, e2, e3, e4, e5, e0.trans (congrArg (97 + ·) (Nat.add_mod_right i 6).symm)⟩
      pcs := ⟨subF _ m1, subF _ m2, subF _ m3, subF _ m4, subF _ m5, subF _ m0⟩
      wints := hI2
      len := by rw [List.length_eraseIdx_of_lt hj]; exact len_of hlen hj
      rng := fun n hn => rs.rng n (List.mem_of_mem_eraseIdx hn)
      runs := by rw [v6_round, rE]; exact rs.runs
      bnd := fun c => by
        have := bnd_add (bnd_rot n9 (rs.bnd c)) (rs.bnd (nx c))
        rw [show (12 * 2 ^ (i + 1) : Int) = 2 * (12 * 2 ^ i) by rw [Int.pow_succ]; grind]
        exact this
      pts := rs.pts.sub subF
      off := fun p hp => by
        have h1 := (List.mem_filter.mp hp).1
        exact ⟨o98 p h1, o23 p h1, ox p h1, odx p h1, off_out p hp _ (by simp), off_out p hp _ (by simp)⟩ }
    clear NA FA N10 NB
    dsimp only
    k_steps
    (rename Fr _ _ _ _ => FZ); (rename News _ _ _ _ => NZ)
    rw [fdiv_nat] at FZ
    k_dflt (refine GEnd.at (news' := (98, tabOf ps') :: (23, tabOf qs') :: (x, ringObj dx (piecesOf [p1, p2, p3, p4, p5, p0]) k') :: (dx, od') :: (L + 1, o8) :: (tr, W.listOf ws2.toArray (kt + 1)) :: nw'.filter fun p => offB [L + 1, tr, I] p.1) FZ NZ bb7 (fun p hp => hp) ?_ ⟨⟨.tail _ (.tail _ (.tail _ (.tail _ (.tail _ (.tail _ (subF _ ma)))))), trivial⟩, ps', qs', k', od', o8, ws2, kt + 1, D', _, roundQ n9 q, p1, p2, p3, p4, p5, p0, tn.eraseIdx (tot % c), _, tot / c, tk7, some (.int (c : Int) tc), tri1', tri2', rd', d8, rsF, subF _ ma, fun p hp => off_out p hp _ (by simp), ?_, rfl⟩)
    · exact List.forall_mem_cons.mpr ⟨x98, List.forall_mem_cons.mpr ⟨x23, List.forall_mem_cons.mpr ⟨xx, List.forall_mem_cons.mpr ⟨xd, List.forall_mem_cons.mpr ⟨Nat.ne_of_lt hIc, List.forall_mem_cons.mpr ⟨Ne.symm tI, fun p hp => off_out p hp _ (by simp)⟩⟩⟩⟩⟩⟩
    · funext z
      by_cases h1 : z = Str.ofString "count"
      · subst h1; k_dflt exact rfl
      · by_cases h2 : z = Str.ofString "total"
        · subst h2; k_dflt exact rfl
        · simp only [if_neg h1, if_neg h2]
  case refine_3 =>
    rintro m' news' ⟨ps, qs, k, od, o, ws, kt, D, l, q, p0, p1, p2, p3, p4, p5, tn, nw, tot, tt, cv, tri1, tri2, rd, hd, rs, ma, nI, rfl, rfl⟩ h tk g bg F2 N3
    replace F2 : Fr h₀ L h _ := F2
    replace N3 : News h₀ L h _ := N3
    replace rs : RS w L x dx tr P lf q00 q01 q02 q03 q04 q05 nw 5 D l q p0 p1 p2 p3 p4 p5 ws tn := rs
    have ht : tn = [] := List.length_eq_zero_iff.mp (nil_of rs.len)
    subst ht
    dsimp only
    with_unfolding_all refine hret _ _ _ bg ps qs k od o ws kt D l q p0 p1 p2 p3 p4 p5 nw tot tt cv tri1 tri2 rd hd rs F2 N3
end Mine
end
section
open PySem PySem.Spec PySem.Calls PySem.W PyProof.Rows PySem.Flt
set_option maxRecDepth 100000
set_option maxHeartbeats 8000000
namespace Mine
theorem moved_use {w : World} {pv : Program} {lo : List Str} {mean : ExcName → Option Value} {mg mb : Str → Option Value} {dp un : Nat} {gd : Option (List Code)} {cn : Str} {cs : Scope} {a : Addr} {ccd : Value} {cl : List (Str × Addr)} {outer : List Env} {A₀ : Around} {base h₀ : Heap} {L : Addr} {m : Str → Option Value} {s : Shared} {Q E : Value → Shared → Prop} {news : List (Addr × Obj)} {p : Addr} {x y n : Int} {k : Nat} {t1 t2 tn : Tok}
    (B : Below A₀ base outer h₀) (F : Fr h₀ L s.heap m) (X : (hd.heap_1 w.params).In h₀) (N : News h₀ L s.heap news) (T : Top pv lo mean mg mb h₀) (hk : cs.kind = .function)
    (hd : dp + 1 < recursionLimit) (hu : un + 8 < cLine)
    (hz0 : (p, { cls := .type "tuple", data := .seq #[.int x t1, .int y t2] }) ∈ news)
    (hz1 : n.fmod 6 = (k : Int) ∧ k < 6)
    (hret : ∀ D h' tk t1 t2, Fr h₀ L h' m → News h₀ L h' ((D, { cls := .type "tuple", data := .seq #[.int (rotk k (x, y)).1 t1, .int (rotk k (x, y)).2 t2] }) :: news) → (∀ p ∈ news, p.1 < D) → Q (.ref D) { s with heap := h', toks := tk }) :
    wpAny (model PySem.Challenge.rw_wo0025_01.row.prog w) (ktrTop dp un gd cn cs L a ccd cl outer) (call (.ref 157) [.ref p, .int n tn]) Q E s :=
  moved w pv lo mean mg mb _ _ _ _ _ _ _ _ _ _ _ _ _ _ _ _ _ _ _ _ _ _ _ _ _ _  B F X N T hk hd hu hz0 hz1 hret
noncomputable def wishSum (l : List (Int × Int)) : Int × Int := ((l.map fun q => q.1).sum, (l.map fun q => q.2).sum)
abbrev WishedClaim (w : World) (pv : Program) (lo : List Str) (mean : ExcName → Option Value) (mg mb : Str → Option Value) : Prop :=
  ∀ (dp un : Nat) (gd : Option (List Code)) (cn : Str) (cs : Scope) (a : Addr) (ccd : Value) (cl : List (Str × Addr)) (outer : List Env) (A₀ : Around) (base h₀ : Heap) (L : Addr) (m : Str → Option Value) (s : Shared) (Q E : Value → Shared → Prop) (news : List (Addr × Obj)) (P : Addr) (kP : Nat) (spot left : Int) (ts tl : Tok) (a0 : Addr) (x0 y0 : Int) (u0 v0 : Tok) (k0 : Nat) (a1 : Addr) (x1 y1 : Int) (u1 v1 : Tok) (k1 : Nat) (a2 : Addr) (x2 y2 : Int) (u2 v2 : Tok) (k2 : Nat) (a3 : Addr) (x3 y3 : Int) (u3 v3 : Tok) (k3 : Nat) (a4 : Addr) (x4 y4 : Int) (u4 v4 : Tok) (k4 : Nat) (a5 : Addr) (x5 y5 : Int) (u5 v5 : Tok) (k5 : Nat),
    Below A₀ base outer h₀ → Fr h₀ L s.heap m → (hd.heap_1 w.params).In h₀ → News h₀ L s.heap news → Top pv lo mean mg mb h₀ → cs.kind = .function →
    dp + 2 < recursionLimit → un + 16 < cLine →
    ((P, { cls := .type "list", data := .seq #[.ref a0, .ref a1, .ref a2, .ref a3, .ref a4, .ref a5] kP }) ∈ news) →
    ((a0, { cls := .type "tuple", data := .seq #[.int x0 u0, .int y0 v0] }) ∈ news) →
    ((a1, { cls := .type "tuple", data := .seq #[.int x1 u1, .int y1 v1] }) ∈ news) →
    ((a2, { cls := .type "tuple", data := .seq #[.int x2 u2, .int y2 v2] }) ∈ news) →
    ((a3, { cls := .type "tuple", data := .seq #[.int x3 u3, .int y3 v3] }) ∈ news) →
    ((a4, { cls := .type "tuple", data := .seq #[.int x4 u4, .int y4 v4] }) ∈ news) →
    ((a5, { cls := .type "tuple", data := .seq #[.int x5 u5, .int y5 v5] }) ∈ news) →
    (Builtin.Int.intBits left ≤ 64) →
    ((left * (spot - 0 - 1)).fmod 6 = (k0 : Int) ∧ k0 < 6) →
    ((left * (spot - 1 - 1)).fmod 6 = (k1 : Int) ∧ k1 < 6) →
    ((left * (spot - 2 - 1)).fmod 6 = (k2 : Int) ∧ k2 < 6) →
    ((left * (spot - 3 - 1)).fmod 6 = (k3 : Int) ∧ k3 < 6) →
    ((left * (spot - 4 - 1)).fmod 6 = (k4 : Int) ∧ k4 < 6) →
    ((left * (spot - 5 - 1)).fmod 6 = (k5 : Int) ∧ k5 < 6) →
    (∀ D h' tk t1 t2, Fr h₀ L h' m → News h₀ L h' ((D, { cls := .type "tuple", data := .seq #[.int (wishSum [rotk k0 (x0, y0), rotk k1 (x1, y1), rotk k2 (x2, y2), rotk k3 (x3, y3), rotk k4 (x4, y4), rotk k5 (x5, y5)]).1 t1, .int (wishSum [rotk k0 (x0, y0), rotk k1 (x1, y1), rotk k2 (x2, y2), rotk k3 (x3, y3), rotk k4 (x4, y4), rotk k5 (x5, y5)]).2 t2] }) :: news) → (∀ p ∈ news, p.1 < D) → Q (.ref D) { s with heap := h', toks := tk }) →
      wpAny (model PySem.Challenge.rw_wo0025_01.row.prog w) (ktrTop dp un gd cn cs L a ccd cl outer) (call (.ref 162) [.ref P, .int spot ts, .int left tl]) Q E s
theorem wished (w : World) (pv : Program) (lo : List Str) (mean : ExcName → Option Value) (mg mb : Str → Option Value) : WishedClaim w pv lo mean mg mb := by
  w_top off
  k_with_none
  k_with "eval ListComp" => ((k_here; k_dflt (refine ListComp_F (by k_asm) (by with_unfolding_all rfl) (by decide) (by rfl) (by decide) ?_ (by intro _; rfl))))
  k_with "exec Assign cons ListComp" => ((k_here; k_dflt (refine Assign_ListComp_F (by k_asm) (by rfl) (by with_unfolding_all rfl) (by with_unfolding_all rfl) (by decide) (by rfl) (by decide) (by rfl) (by rfl) ?_ (by intro _; rfl))))
  k_with "eval DictComp" => ((k_here; k_dflt (refine DictComp_F (by k_asm) (by rfl) (by decide) (by with_unfolding_all rfl) (by decide) (by rfl) (by decide) ?_ (by intro _; rfl))))
  k_with "exec Assign cons DictComp" => ((k_here; k_dflt (refine Assign_DictComp_F (by k_asm) (by rfl) (by with_unfolding_all rfl) (by rfl) (by decide) (by with_unfolding_all rfl) (by decide) (by rfl) (by decide) (by rfl) (by rfl) ?_ (by intro _; rfl))))
  k_with "pyIter ref" => ((k_here; (fail_if_success (fail_if_success with_reducible show wpAny _ _ (pyIter (Value.ref _)) (LSrc _ _ _ _ _ _ _ _ _ _ _ _) _ _)); k_dflt (first
  | refine lsrc_tup (by rfl) (by k_asm) (by k_asm) (by k_mem) (by rfl) (by rfl) (by first | (rw [sizeLine_eq]; exact Nat.le_of_ble_eq_true rfl) | size_fits) ?_
  | refine lsrc_list (by rfl) (by k_asm) (by k_asm) (by k_mem) (by rfl) (by rfl) (by first | (rw [sizeLine_eq]; exact Nat.le_of_ble_eq_true rfl) | size_fits) ?_); intro g' tk'))
  k_with "pyIter str" => ((k_here; k_dflt (first
  | ((with_reducible show wpAny _ _ (pyIter (Value.str _ _)) (LSrc _ _ _ _ _ _ _ _ _ _ _ _) _ _); refine lsrc_str (by rfl) (by k_asm) (by k_asm) (by rfl) (by rfl) (by first | (rw [sizeLine_eq]; exact Nat.le_of_ble_eq_true rfl) | size_fits) ?_)
  | ((with_reducible show wpAny _ _ (pyIter (Value.str _ _)) (DSrc _ _ _ _ _ _ _ _ _ _ _ _ _) _ _); refine dsrc_str (by rfl) (by k_asm) (by k_asm) (by rfl) (by rfl) (by first | (rw [sizeLine_eq]; exact Nat.le_of_ble_eq_true rfl) | size_fits) ?_)); intro g' tk'))
  k_with "LTurns" => (with_unfolding_all (refine LT.intro ?_; intro T9 nil9 cons9))
  k_with "LT" => (with_unfolding_all (first
  | (refine nil9 _ _ ?_)
  | (refine cons9 _ _ _ _ ?_; intro t9' u9' C' oC' mC' D' h' tk' nw' E' hns' hb' F' N' hC' hD' hsub'; (first | replace hb' := bound_one hb' | (have hb1' := (bound_two hb').1; have hb2' := (bound_two hb').2; clear hb')); (try k_sweep))))
  k_with "DTurns" => (with_unfolding_all (refine DT.intro ?_; intro T9 nil9 cons9))
  k_with "DT" => (with_unfolding_all (first
  | (refine nil9 _ _ ?_)
  | (refine cons9 _ _ _ _ _ ?_; intro t9' u9' C' oC' mC' D' oD' h' tk' nw' E' hns' hb' F' N' hC' hD' hdict' hsub'; (first | replace hb' := bound_one hb' | (have hb1' := (bound_two hb').1; have hb2' := (bound_two hb').2; clear hb')); (try k_sweep))))
  k_with "EltEnd" => ((k_dflt (first | refine LT.none (by k_asm) (by k_asm) ?_ | refine DT.none (by k_asm) (by k_asm) ?_ | refine LT.one (by k_asm) (by k_asm) (by k_asm) ?_ | refine DT.one (by k_asm) (by k_asm) (by k_asm) ?_ | refine LT.drop (by k_asm) (by k_asm) ?_ | refine DT.drop (by k_asm) (by k_asm) ?_)); (try (rename Sub _ _ => H; clear H)); (try (rename Obj.IsDictOf _ _ (stored _ _ _) => H; clear H)); (try (rename LCg.NsObj _ _ => H; clear H)); (try (rename (_ : Addr × Obj) ∈ (_ : List (Addr × Obj)) => H; clear H)); (try (rename (_ : Addr × Obj) ∈ (_ : List (Addr × Obj)) => H; clear H)); (try (rename InElt _ _ => H; clear H)); (try (rename ∀ p : Str × Value, p ∈ _ → _ = some _ => H; clear H)); (try k_sweep); (repeat (rename Value → Shared → Prop => H; clear H)))
  k_with "LFinE" => (((unfold LFinE); intro D' h' tk' F' N' o1'; (try simp only [List.nil_append, List.cons_append] at N' o1'); (try dsimp only)))
  k_with "LFinA" => (((unfold LFinA); intro D' h' tk' F' N' o1'; (try simp only [List.nil_append, List.cons_append] at N' o1'); (try dsimp only)))
  k_with "DFinE" => (((unfold DFinE); intro D' oD' h' tk' F' N' d1' lD' o1'; (replace d1' := KeepD.intro d1'); (try simp only [List.nil_append, List.cons_append] at N' o1'); (try dsimp only)))
  k_with "DFinA" => (((unfold DFinA); intro D' oD' h' tk' F' N' d1' lD' o1'; (replace d1' := KeepD.intro d1'); (try simp only [List.nil_append, List.cons_append] at N' o1'); (try dsimp only)))
  k_with "pyIter ref" => ((k_here; (fail_if_success (fail_if_success with_reducible show wpAny _ _ (pyIter (Value.ref _)) (LSrc _ _ _ _ _ _ _ _ (Expr.Tuple [_, _] _ _) _ _ _) _ _)); k_dflt (refine lsrc_pairs (by rfl) (by k_asm) (by k_asm) (by k_mem) (by repeat (first | exact Tups.nil | (apply Tups.cons; k_mem))) (by rfl) (by rfl) (by rfl) (by decide) (by first | (rw [sizeLine_eq]; exact Nat.le_of_ble_eq_true rfl) | size_fits) ?_); intro g' tk'))
  k_with "call builtin:sum" => ((k_here; (fail_if_success (fail_if_success with_reducible show wpAny _ _ (call (Value.builtin "sum") [Value.ref _]) _ _ _)); k_dflt (refine' sum_lst ?k0 ?k1 ?k2 ?k3 ?k4 ?_; (case k0 => rfl); (case k1 => k_asm); (case k2 => k_asm); (case k3 => k_mem); (case k4 => first | l_ints | l_intsW); k_whole); intro h' tk' t' F' N'; (try simp only [List.sum_cons, List.sum_nil])))
  k_with "call type:enumerate" => ((k_here; k_dflt (refine lsrc_enumK (by rfl) (by k_asm) (by k_asm) (by k_mem) (by rfl) (by rfl) (by rfl) (by decide) (by first | (rw [sizeLine_eq]; exact Nat.le_of_ble_eq_true rfl) | size_fits) ?_; intro g' tk')))
  k_with "eval Name" => ((k_here; (fail_if_success (fail_if_success with_reducible show wpAny _ _ (eval (Expr.Name _ _) (compEnvC _ _ _ _)) _ _ _)); k_dflt (first
  | (refine' lcf_cell ?N ?c ?m ?d ?_ ?a ?b; (case a => rfl); (case b => rfl); (case N => k_asm); (case c => rfl); (case m => k_mem); (case d => k_asm); k_whole)
  | (refine' lcf_free ?N ?c ?m ?d ?_ ?a ?b; (case a => rfl); (case b => rfl); (case N => k_asm); (case c => rfl); (case m => k_mem); (case d => k_asm); k_whole))))
  k_with "binaryOp Mult int int" => (with_reducible refine PyProof.Rows.mul_int ?_ (IntMulOk.of_left (by assumption)))
  k_with "call ref" => ((k_here; (fail_if_success (fail_if_success with_reducible show wpAny _ _ (call (Value.ref 157) [Value.ref _, Value.int _ _]) _ _ _)); k_dflt (refine' moved_use ?k1 ?k2 ?k3 ?k4 ?k5 ?kK ?kd ?ku ?kz0 ?kz1 ?_; (case k1 => k_asm); (case k2 => k_asm); (case k3 => k_asm); (case k4 => k_asm); (case k5 => k_asm); (case kK => first | exact rfl | assumption); (case kd => ktr_room); (case ku => ktr_units); (case kz0 => k_mem); (case kz1 => assumption); k_whole; intro D' h' tk' t1' t2' F' N' l1'; (try k_sweep)); walk_say "ASKED moved"))
  delta WishedClaim
  k_fill
  intro dp un gd cn cs a ccd cl outer A₀ base h₀ L m s Q E news P kP spot left ts tl a0 x0 y0 u0 v0 k0 a1 x1 y1 u1 v1 k1 a2 x2 y2 u2 v2 k2 a3 x3 y3 u3 v3 k3 a4 x4 y4 u4 v4 k4 a5 x5 y5 u5 v5 k5 B F X N T hk hd hu hp0 hp1 hp2 hp3 hp4 hp5 hp6 hp7 hp8 hp9 hp10 hp11 hp12 hp13 hret
  refine wpAny_call ?_
  k_dflt (refine' code_defC (binds := [(Str.ofString "points", .ref P), (Str.ofString "spot", .int spot ts), (Str.ofString "left", .int left tl)]) ?k1 ?k2 ?k3 ?k4 ?k5 ?kA ?kF ?kK ?k6 ?k7 ?k8 ?k9 ?kB ?kD ?_ ?c2 ?c3 ?c4; (case kA => exact rfl); (case kF => exact rfl); (case kK => assumption); (case k1 => k_asm); (case k2 => k_asm); (case k3 => k_asm); (case k4 => k_asm); (case k5 => k_asm); (case k6 => k_is); (case k7 => k_is); (case k8 => ktr_room); (case k9 => exact BindsTo.of_eq rfl); (case kB => exact rfl); (case kD => decide +kernel); (case c2 => exact rfl); (case c3 => exact rfl); (case c4 => exact rfl); k_whole)
  intro g' L' h' tk' cells' FG' F' N' Y' B' X' T' l1
  k_dflt (try k_lt l1)
  k_dflt (replace F' : Fr g' L' h' (fun z => if z = Str.ofString "points" then some (.ref P) else none) := F')
  k_dflt (obtain ⟨o1', o2', hc', d1', d2'⟩ := CellsAre.two Y')
  subst hc'
  k_dflt (replace d1' : o1'.data = Data.cell (some (.int left tl)) := d1')
  k_dflt (replace d2' : o2'.data = Data.cell (some (.int spot ts)) := d2')
  k_dflt ((try simp only [List.cons_append, List.nil_append] at N'); (try dsimp only); (try k_lift B'); (try k_fold))
  k_steps
  (rename Fr h₀ L _ m => F1); (rename News h₀ L _ _ => N1)
  (rename _ ∧ _ ∧ _ ∧ _ ∧ _ ∧ _ ∧ _ ∧ _ ∧ _ ∧ _ ∧ _ ∧ AllLt _ _ => l9)
  refine hret _ _ _ _ _ F1 (news_sub N1 (Sub.keep ?_)) ?_
  · exact Sub.skip (Sub.skip (Sub.skip (Sub.skip (Sub.skip (Sub.skip (Sub.skip (Sub.skip (Sub.skip (Sub.skip (Sub.skip Sub.same))))))))))
  · exact allLt_all l9.2.2.2.2.2.2.2.2.2.2.2
end Mine
end
section
open PySem PySem.Spec PySem.Calls PySem.W PyProof.Rows PySem.Flt
set_option maxRecDepth 100000
set_option maxHeartbeats 8000000
namespace Mine
abbrev HlsClaim (w : World) (pv : Program) (lo : List Str) (mean : ExcName → Option Value) (mg mb : Str → Option Value) : Prop :=
  ∀ (dp un : Nat) (gd : Option (List Code)) (cn : Str) (cs : Scope) (a : Addr) (ccd : Value) (cl : List (Str × Addr)) (outer : List Env) (A₀ : Around) (base h₀ : Heap) (L : Addr) (m : Str → Option Value) (s : Shared) (Q E : Value → Shared → Prop) (news : List (Addr × Obj)) (r g b : UInt64) (t1 t2 t3 : Tok),
    Below A₀ base outer h₀ → Fr h₀ L s.heap m → (hd.heap_1 w.params).In h₀ → News h₀ L s.heap news → Top pv lo mean mg mb h₀ → cs.kind = .function →
    dp + 1 < recursionLimit → un + 8 < cLine →
    (HlsOk r g b) →
    (∀ D h' tk X Y Z t1 t2 t3, Fr h₀ L h' m → News h₀ L h' ((D, { cls := .type "tuple", data := .seq #[.float X t1, .float Y t2, .float Z t3] }) :: news) → (∀ p ∈ news, p.1 < D) → X = (hsvF r g b).1 → Q (.ref D) { s with heap := h', toks := tk }) →
      wpAny (model PySem.Challenge.rw_wo0025_01.row.prog w) (ktrTop dp un gd cn cs L a ccd cl outer) (call (.ref 35) [.float r t1, .float g t2, .float b t3]) Q E s
theorem hls (w : World) (pv : Program) (lo : List Str) (mean : ExcName → Option Value) (mg mb : Str → Option Value) : HlsClaim w pv lo mean mg mb := by
  w_top off
  k_with_none
  k_with "call builtin:max" => (((fail_if_success (fail_if_success with_reducible show wpAny _ _ (call _ [Value.float _ _, Value.float _ _, Value.float _ _]) _ _ _)); (rename News _ _ _ _ => N'); (rename Fr _ _ _ _ => F'); refine max_three_fff rfl F' N' ?_; clear N'; intro _ _ _ _ _))
  k_with "call builtin:min" => (((fail_if_success (fail_if_success with_reducible show wpAny _ _ (call _ [Value.float _ _, Value.float _ _, Value.float _ _]) _ _ _)); (rename News _ _ _ _ => N'); (rename Fr _ _ _ _ => F'); refine min_three_fff rfl F' N' ?_; clear N'; intro _ _ _ _ _))
  k_with "execs cons" => ((k_here; (fail_if_success (fail_if_success with_reducible show wpAny _ _ (execs (Stmt.If _ _ (_ :: _) _ :: _ :: _) _) _ _ _)); refine Stop.out ?_))
  delta HlsClaim
  k_fill
  intro dp un gd cn cs a ccd cl outer A₀ base h₀ L m s Q E news r g b t1 t2 t3 B F X N T hk hd hu hz hret
  refine wpAny_call ?_
  k_dflt cell_enter
  k_steps
  · exact hret _ _ _ _ _ _ _ _ _ (by k_asm) (by k_asm) (by k_asm) (congrArg (fun q => q.1) (hsvF_grey (by assumption))).symm
  (rename Fr _ _ _ _ => F1); (rename News _ _ _ _ => N1)
  refine Stop.intro (join_at F1 N1 (Str.ofString "s") (fun v => ∃ u t, v = .float u t) ?_ ?_)
  · k_steps
    all_goals first
      | (refine Joined.intro (by k_asm) (by k_asm) ⟨_, _, rfl⟩)
      | exact absurd (by assumption) (hz (by assumption)).2.1
      | exact absurd (by assumption) (hz (by assumption)).2.2
      | ((rename (_ || _) = false => q); exact absurd (q.symm.trans (hz (by assumption)).1) (by decide))
  clear F1 N1
  rintro v h tk ⟨u, t, rfl⟩ F1 N1
  k_steps
  · exact absurd (by assumption) (hz (by assumption)).2.2
  (rename Fr _ _ _ _ => F1); (rename News _ _ _ _ => N1)
  refine Stop.intro (join_at F1 N1 (Str.ofString "h") (fun v => ∃ u t, v = .float u t ∧ (Float64.divmod (Float64.div u 4618441417868443648) 4607182418800017408).snd = (hsvF r g b).1) ?_ ?_)
  · k_steps
    all_goals refine Joined.intro (by k_asm) (by k_asm) ⟨_, _, rfl, ?_⟩
    · exact (congrArg (fun q => q.1) (hsvF_r (by assumption) (by assumption))).symm
    · exact (congrArg (fun q => q.1) (hsvF_g (by assumption) (by assumption) (by assumption))).symm
    · exact (congrArg (fun q => q.1) (hsvF_b (by assumption) (by assumption) (by assumption))).symm
  clear F1 N1
  rintro v h tk ⟨u, t, rfl, hX⟩ F1 N1
  k_steps
  exact hret _ _ _ _ _ _ _ _ _ (by k_asm) (by k_asm) (by k_asm) hX
end Mine
end
section
open PySem PySem.Spec PySem.Calls PySem.W PyProof.Rows PySem.Flt
set_option maxRecDepth 100000
set_option maxHeartbeats 8000000
namespace Mine
theorem hls_use {w : World} {pv : Program} {lo : List Str} {mean : ExcName → Option Value} {mg mb : Str → Option Value} {dp un : Nat} {gd : Option (List Code)} {cn : Str} {cs : Scope} {a : Addr} {ccd : Value} {cl : List (Str × Addr)} {outer : List Env} {A₀ : Around} {base h₀ : Heap} {L : Addr} {m : Str → Option Value} {s : Shared} {Q E : Value → Shared → Prop} {news : List (Addr × Obj)} {r g b : UInt64} {t1 t2 t3 : Tok}
    (B : Below A₀ base outer h₀) (F : Fr h₀ L s.heap m) (X : (hd.heap_1 w.params).In h₀) (N : News h₀ L s.heap news) (T : Top pv lo mean mg mb h₀) (hk : cs.kind = .function)
    (hd : dp + 1 < recursionLimit) (hu : un + 8 < cLine)
    (hz0 : HlsOk r g b)
    (hret : ∀ D h' tk X Y Z t1 t2 t3, Fr h₀ L h' m → News h₀ L h' ((D, { cls := .type "tuple", data := .seq #[.float X t1, .float Y t2, .float Z t3] }) :: news) → (∀ p ∈ news, p.1 < D) → X = (hsvF r g b).1 → Q (.ref D) { s with heap := h', toks := tk }) :
    wpAny (model PySem.Challenge.rw_wo0025_01.row.prog w) (ktrTop dp un gd cn cs L a ccd cl outer) (call (.ref 35) [.float r t1, .float g t2, .float b t3]) Q E s :=
  hls w pv lo mean mg mb _ _ _ _ _ _ _ _ _ _ _ _ _ _ _ _ _ _ _ _ _ _ _ _  B F X N T hk hd hu hz0 hret
noncomputable def offOk (h1 h2 : UInt64) (left : Int) : Bool := Float64.cmp (Float64.abs (Float64.sub (Float64.divmod (Float64.add (Float64.sub (Float64.sub h2 h1) (Float64.div (Float64.ofInt left) 4618441417868443648)) 4602678819172646912) 4607182418800017408).snd 4602678819172646912)) 4517329193108106637 == some Ordering.lt
abbrev ApartClaim (w : World) (pv : Program) (lo : List Str) (mean : ExcName → Option Value) (mg mb : Str → Option Value) : Prop :=
  ∀ (dp un : Nat) (gd : Option (List Code)) (cn : Str) (cs : Scope) (a : Addr) (ccd : Value) (cl : List (Str × Addr)) (outer : List Env) (A₀ : Around) (base h₀ : Heap) (L : Addr) (m : Str → Option Value) (s : Shared) (Q E : Value → Shared → Prop) (news : List (Addr × Obj)) (p q : Addr) (c e : Int × Int × Int) (left : Int) (t0 t1 t2 v0 v1 v2 tl : Tok),
    Below A₀ base outer h₀ → Fr h₀ L s.heap m → (hd.heap_1 w.params).In h₀ → News h₀ L s.heap news → Top pv lo mean mg mb h₀ → cs.kind = .function →
    dp + 2 < recursionLimit → un + 16 < cLine →
    ((p, { cls := .type "tuple", data := .seq #[.int c.1 t0, .int c.2.1 t1, .int c.2.2 t2] }) ∈ news) →
    ((q, { cls := .type "tuple", data := .seq #[.int e.1 v0, .int e.2.1 v1, .int e.2.2 v2] }) ∈ news) →
    (c.1.natAbs < 2 ^ 64 ∧ c.2.1.natAbs < 2 ^ 64 ∧ c.2.2.natAbs < 2 ^ 64) →
    (e.1.natAbs < 2 ^ 64 ∧ e.2.1.natAbs < 2 ^ 64 ∧ e.2.2.natAbs < 2 ^ 64) →
    (left.natAbs < 2 ^ 64) →
    (HlsOk (fl c.1) (fl c.2.1) (fl c.2.2) ∧ HlsOk (fl e.1) (fl e.2.1) (fl e.2.2)) →
    (mx3 c.1 c.2.1 c.2.2 - mn3 c.1 c.2.1 c.2.2 = mx3 e.1 e.2.1 e.2.2 - mn3 e.1 e.2.1 e.2.2) →
    (mx3 c.1 c.2.1 c.2.2 - mn3 c.1 c.2.1 c.2.2 = 0 ∨ offOk (hsvF (fl c.1) (fl c.2.1) (fl c.2.2)).1 (hsvF (fl e.1) (fl e.2.1) (fl e.2.2)).1 left = true) →
    (∀ h' tk, Fr h₀ L h' m → News h₀ L h' news → Q (.bool true) { s with heap := h', toks := tk }) →
      wpAny (model PySem.Challenge.rw_wo0025_01.row.prog w) (ktrTop dp un gd cn cs L a ccd cl outer) (call (.ref 167) [.ref p, .ref q, .int left tl]) Q E s
theorem apart (w : World) (pv : Program) (lo : List Str) (mean : ExcName → Option Value) (mg mb : Str → Option Value) : ApartClaim w pv lo mean mg mb := by
  w_top off
  k_with_none
  k_with "eval ListComp" => ((k_here; k_dflt (refine ListComp_F (by k_asm) (by with_unfolding_all rfl) (by decide) (by rfl) (by decide) ?_ (by intro _; rfl))))
  k_with "exec Assign cons ListComp" => ((k_here; k_dflt (refine Assign_ListComp_F (by k_asm) (by rfl) (by with_unfolding_all rfl) (by with_unfolding_all rfl) (by decide) (by rfl) (by decide) (by rfl) (by rfl) ?_ (by intro _; rfl))))
  k_with "eval DictComp" => ((k_here; k_dflt (refine DictComp_F (by k_asm) (by rfl) (by decide) (by with_unfolding_all rfl) (by decide) (by rfl) (by decide) ?_ (by intro _; rfl))))
  k_with "exec Assign cons DictComp" => ((k_here; k_dflt (refine Assign_DictComp_F (by k_asm) (by rfl) (by with_unfolding_all rfl) (by rfl) (by decide) (by with_unfolding_all rfl) (by decide) (by rfl) (by decide) (by rfl) (by rfl) ?_ (by intro _; rfl))))
  k_with "pyIter ref" => ((k_here; (fail_if_success (fail_if_success with_reducible show wpAny _ _ (pyIter (Value.ref _)) (LSrc _ _ _ _ _ _ _ _ _ _ _ _) _ _)); k_dflt (first
  | refine lsrc_tup (by rfl) (by k_asm) (by k_asm) (by k_mem) (by rfl) (by rfl) (by first | (rw [sizeLine_eq]; exact Nat.le_of_ble_eq_true rfl) | size_fits) ?_
  | refine lsrc_list (by rfl) (by k_asm) (by k_asm) (by k_mem) (by rfl) (by rfl) (by first | (rw [sizeLine_eq]; exact Nat.le_of_ble_eq_true rfl) | size_fits) ?_); intro g' tk'))
  k_with "pyIter str" => ((k_here; k_dflt (first
  | ((with_reducible show wpAny _ _ (pyIter (Value.str _ _)) (LSrc _ _ _ _ _ _ _ _ _ _ _ _) _ _); refine lsrc_str (by rfl) (by k_asm) (by k_asm) (by rfl) (by rfl) (by first | (rw [sizeLine_eq]; exact Nat.le_of_ble_eq_true rfl) | size_fits) ?_)
  | ((with_reducible show wpAny _ _ (pyIter (Value.str _ _)) (DSrc _ _ _ _ _ _ _ _ _ _ _ _ _) _ _); refine dsrc_str (by rfl) (by k_asm) (by k_asm) (by rfl) (by rfl) (by first | (rw [sizeLine_eq]; exact Nat.le_of_ble_eq_true rfl) | size_fits) ?_)); intro g' tk'))
  k_with "LTurns" => (with_unfolding_all (refine LT.intro ?_; intro T9 nil9 cons9))
  k_with "LT" => (with_unfolding_all (first
  | (refine nil9 _ _ ?_)
  | (refine cons9 _ _ _ _ ?_; intro t9' u9' C' oC' mC' D' h' tk' nw' E' hns' hb' F' N' hC' hD' hsub'; (first | replace hb' := bound_one hb' | (have hb1' := (bound_two hb').1; have hb2' := (bound_two hb').2; clear hb')); (try k_sweep))))
  k_with "DTurns" => (with_unfolding_all (refine DT.intro ?_; intro T9 nil9 cons9))
  k_with "DT" => (with_unfolding_all (first
  | (refine nil9 _ _ ?_)
  | (refine cons9 _ _ _ _ _ ?_; intro t9' u9' C' oC' mC' D' oD' h' tk' nw' E' hns' hb' F' N' hC' hD' hdict' hsub'; (first | replace hb' := bound_one hb' | (have hb1' := (bound_two hb').1; have hb2' := (bound_two hb').2; clear hb')); (try k_sweep))))
  k_with "EltEnd" => ((k_dflt (first | refine LT.none (by k_asm) (by k_asm) ?_ | refine DT.none (by k_asm) (by k_asm) ?_ | refine LT.one (by k_asm) (by k_asm) (by k_asm) ?_ | refine DT.one (by k_asm) (by k_asm) (by k_asm) ?_ | refine LT.drop (by k_asm) (by k_asm) ?_ | refine DT.drop (by k_asm) (by k_asm) ?_)); (try (rename Sub _ _ => H; clear H)); (try (rename Obj.IsDictOf _ _ (stored _ _ _) => H; clear H)); (try (rename LCg.NsObj _ _ => H; clear H)); (try (rename (_ : Addr × Obj) ∈ (_ : List (Addr × Obj)) => H; clear H)); (try (rename (_ : Addr × Obj) ∈ (_ : List (Addr × Obj)) => H; clear H)); (try (rename InElt _ _ => H; clear H)); (try (rename ∀ p : Str × Value, p ∈ _ → _ = some _ => H; clear H)); (try k_sweep); (repeat (rename Value → Shared → Prop => H; clear H)))
  k_with "LFinE" => (((unfold LFinE); intro D' h' tk' F' N' o1'; (try simp only [List.nil_append, List.cons_append] at N' o1'); (try dsimp only)))
  k_with "LFinA" => (((unfold LFinA); intro D' h' tk' F' N' o1'; (try simp only [List.nil_append, List.cons_append] at N' o1'); (try dsimp only)))
  k_with "DFinE" => (((unfold DFinE); intro D' oD' h' tk' F' N' d1' lD' o1'; (replace d1' := KeepD.intro d1'); (try simp only [List.nil_append, List.cons_append] at N' o1'); (try dsimp only)))
  k_with "DFinA" => (((unfold DFinA); intro D' oD' h' tk' F' N' d1' lD' o1'; (replace d1' := KeepD.intro d1'); (try simp only [List.nil_append, List.cons_append] at N' o1'); (try dsimp only)))
  k_with "pyIter ref" => ((k_here; (fail_if_success (fail_if_success with_reducible show wpAny _ _ (pyIter (Value.ref _)) (LSrc _ _ _ _ _ _ _ _ (Expr.Tuple [_, _] _ _) _ _ _) _ _)); k_dflt (refine lsrc_pairs (by rfl) (by k_asm) (by k_asm) (by k_mem) (by repeat (first | exact Tups.nil | (apply Tups.cons; k_mem))) (by rfl) (by rfl) (by rfl) (by decide) (by first | (rw [sizeLine_eq]; exact Nat.le_of_ble_eq_true rfl) | size_fits) ?_); intro g' tk'))
  k_with "call builtin:sum" => ((k_here; (fail_if_success (fail_if_success with_reducible show wpAny _ _ (call (Value.builtin "sum") [Value.ref _]) _ _ _)); k_dflt (refine' sum_lst ?k0 ?k1 ?k2 ?k3 ?k4 ?_; (case k0 => rfl); (case k1 => k_asm); (case k2 => k_asm); (case k3 => k_mem); (case k4 => first | l_ints | l_intsW); k_whole); intro h' tk' t' F' N'; (try simp only [List.sum_cons, List.sum_nil])))
  k_with "call builtin:max" => ((k_here; k_dflt (refine max_tup (by rfl) (by k_asm) (by k_asm) (by k_mem) ?_); intro h' tk' v' F' N'; (try k_sweep)))
  k_with "call builtin:min" => ((k_here; k_dflt (refine min_tup (by rfl) (by k_asm) (by k_asm) (by k_mem) ?_); intro h' tk' v' F' N'; (try k_sweep)))
  k_with "call ref" => ((k_here; (fail_if_success (fail_if_success with_reducible show wpAny _ _ (call (Value.ref 35) [Value.float _ _, Value.float _ _, Value.float _ _]) _ _ _)); k_dflt (refine' hls_use ?k1 ?k2 ?k3 ?k4 ?k5 ?kK ?kd ?ku ?kz0 ?_; (case k1 => k_asm); (case k2 => k_asm); (case k3 => k_asm); (case k4 => k_asm); (case k5 => k_asm); (case kK => first | exact rfl | assumption); (case kd => ktr_room); (case ku => ktr_units); (case kz0 => (rename HlsOk _ _ _ ∧ HlsOk _ _ _ => hls9; first | exact hls9.1 | exact hls9.2)); k_whole; intro D' h' tk' X' Y' Z' t1' t2' t3' F' N' l1' e'; (try k_sweep)); walk_say "ASKED hls"))
  delta ApartClaim
  k_fill
  intro dp un gd cn cs a ccd cl outer A₀ base h₀ L m s Q E news p q c e left t0 t1 t2 v0 v1 v2 tl B F X N T hk hd hu hp0 hp1 hp2 hp3 hp4 hp5 hp6 hp7 hret
  refine wpAny_call ?_
  k_dflt (refine' code_def (binds := [(Str.ofString "one", .ref p), (Str.ofString "two", .ref q), (Str.ofString "left", .int left tl)]) ?k1 ?k2 ?k3 ?k4 ?k5 ?kA ?kF ?kK ?k6 ?k7 ?k8 ?k9 ?kB ?_ ?c2 ?c3 ?c4 ?c5; (case kA => exact rfl); (case kF => exact rfl); (case kK => assumption); (case k1 => k_asm); (case k2 => k_asm); (case k3 => k_asm); (case k4 => k_asm); (case k5 => k_asm); (case k6 => k_is); (case k7 => k_is); (case k8 => ktr_room); (case k9 => exact BindsTo.of_eq rfl); (case c5 => decide); (case kB => exact locs rfl); (case c2 => exact rfl); (case c3 => exact rfl); (case c4 => exact rfl); k_whole)
  intro g' L' h' FG' F' N' B' X' T'
  k_dflt (replace F' : Fr g' L' h' (fun z => List.lookup z [(Str.ofString "left", .int left tl), (Str.ofString "two", .ref q), (Str.ofString "one", .ref p)]) := F')
  k_dflt ((try dsimp only); (try k_lift B'); (try k_fold))
  k_steps
  all_goals ((rename Fr h₀ L _ m => F1); (rename News h₀ L _ _ => N1))
  · exact absurd hp6 (by assumption)
  · (rename _ = (0 : Int) => e0)
    have e1 : (mx3 c.1 c.2.1 c.2.2 - mn3 c.1 c.2.1 c.2.2 == 0) = true := by simpa using e0
    rw [e1]
    exact hret _ _ F1 (news_sub N1 (Sub.skip (Sub.skip Sub.same)))
  · (rename _ ≠ (0 : Int) => e0); (rename _ = (hsvF _ _ _).1 => e2); subst e2; (rename _ = (hsvF _ _ _).1 => e3); subst e3
    have e1 := hp7.resolve_left e0
    unfold offOk at e1
    refine Eq.mpr (congrArg (fun b => Q (.bool b) _) e1) ?_
    exact hret _ _ F1 (news_sub N1 (Sub.skip (Sub.skip Sub.same)))
end Mine
end
section
open PySem PySem.Spec PySem.Calls PySem.W PyProof.Rows
set_option maxRecDepth 100000
namespace Mine
set_option linter.unusedSimpArgs false
set_option maxHeartbeats 4000000
def StepAt (m : Nat) (v : V6) : Prop := wishAt m 1 v = rotn m (wishAt m 0 v) ∧ wishAt m 2 v = rotn m (wishAt m 1 v) ∧ wishAt m 3 v = rotn m (wishAt m 2 v) ∧ wishAt m 4 v = rotn m (wishAt m 3 v) ∧ wishAt m 5 v = rotn m (wishAt m 4 v) ∧ wishAt m 0 v = rotn m (wishAt m 5 v)
theorem wish_step (m : Nat) (hm : m < 6) (v : V6) : StepAt m v := by
  have h := steps_ok m hm
  simp only [Bool.and_eq_true] at h
  obtain ⟨⟨⟨⟨⟨h0, h1⟩, h2⟩, h3⟩, h4⟩, h5⟩ := h
  exact ⟨step_wish h0 v, step_wish h1 v, step_wish h2 v, step_wish h3 v, step_wish h4 v, step_wish h5 v⟩
theorem next_pt {lf c : Nat} {q : Nat → P3} {v : V6} (hl : lf < 6) (h : v6 q = wishes (lf : Int) v) (h1 : 97 ≤ c) (h2 : c ≤ 102) : pt (q (nx c)) = rotn lf (pt (q c)) := by
  obtain ⟨s0, s1, s2, s3, s4, s5⟩ := wish_step lf hl v
  simp only [v6, wishes, Prod.mk.injEq] at h
  obtain ⟨a0, a1, a2, a3, a4, a5⟩ := h
  rcases letter_cases h1 h2 with rfl | rfl | rfl | rfl | rfl | rfl
  · show pt (q 98) = _; rw [a1, a0]; exact s0
  · show pt (q 99) = _; rw [a2, a1]; exact s1
  · show pt (q 100) = _; rw [a3, a2]; exact s2
  · show pt (q 101) = _; rw [a4, a3]; exact s3
  · show pt (q 102) = _; rw [a5, a4]; exact s4
  · show pt (q 97) = _; rw [a0, a5]; exact s5
theorem wishSum_at (m s : Int) (a b c d e f : P2) : wishSum [rotk ((m * (s - 0 - 1)).fmod 6).toNat a, rotk ((m * (s - 1 - 1)).fmod 6).toNat b, rotk ((m * (s - 2 - 1)).fmod 6).toNat c, rotk ((m * (s - 3 - 1)).fmod 6).toNat d, rotk ((m * (s - 4 - 1)).fmod 6).toNat e, rotk ((m * (s - 5 - 1)).fmod 6).toNat f] = wishAt m s (a, b, c, d, e, f) := by
  simp only [rotk_rotn, wishSum, wishAt, List.map_cons, List.map_nil, List.sum_cons, List.sum_nil, addp]
theorem wish_pt {lf i c : Nat} {q : Nat → P3} {a b c' d e f : P2} (h : v6 q = wishes (lf : Int) (a, b, c', d, e, f)) (hc : c = 97 + i) (h2 : c ≤ 102) :
    wishSum [rotk (((lf : Int) * ((i : Int) - 0 - 1)).fmod 6).toNat a, rotk (((lf : Int) * ((i : Int) - 1 - 1)).fmod 6).toNat b, rotk (((lf : Int) * ((i : Int) - 2 - 1)).fmod 6).toNat c', rotk (((lf : Int) * ((i : Int) - 3 - 1)).fmod 6).toNat d, rotk (((lf : Int) * ((i : Int) - 4 - 1)).fmod 6).toNat e, rotk (((lf : Int) * ((i : Int) - 5 - 1)).fmod 6).toNat f] = pt (q c) := by
  rw [wishSum_at]
  simp only [v6, wishes, Prod.mk.injEq] at h
  obtain ⟨a0, a1, a2, a3, a4, a5⟩ := h
  have hi : i = 0 ∨ i = 1 ∨ i = 2 ∨ i = 3 ∨ i = 4 ∨ i = 5 := by omega
  rcases hi with rfl | rfl | rfl | rfl | rfl | rfl <;> subst hc
  · exact a0.symm
  · exact a1.symm
  · exact a2.symm
  · exact a3.symm
  · exact a4.symm
  · exact a5.symm
theorem letter_next {i c : Nat} (hc : c = 97 + i) (h2 : c ≤ 102) : Txt.item (Str.ofString "bcdefa") (i : Int) = ⟨#[nx c]⟩ := by
  have hi : i = 0 ∨ i = 1 ∨ i = 2 ∨ i = 3 ∨ i = 4 ∨ i = 5 := by omega
  rcases hi with rfl | rfl | rfl | rfl | rfl | rfl <;> subst hc <;> with_unfolding_all rfl
/-- what the laws about floats give of two neighbours at the end -/
def ApartFact : Prop := ∀ (c e : P3) (lf : Nat), lf < 6 → PBnd 384 c → PBnd 384 e → pt e = rotn lf (pt c) →
  (HlsOk (fl c.1) (fl c.2.1) (fl c.2.2) ∧ HlsOk (fl e.1) (fl e.2.1) (fl e.2.2)) ∧ mx3 c.1 c.2.1 c.2.2 - mn3 c.1 c.2.1 c.2.2 = mx3 e.1 e.2.1 e.2.2 - mn3 e.1 e.2.1 e.2.2 ∧
    (mx3 c.1 c.2.1 c.2.2 - mn3 c.1 c.2.1 c.2.2 = 0 ∨ offOk (hsvF (fl c.1) (fl c.2.1) (fl c.2.2)).1 (hsvF (fl e.1) (fl e.2.1) (fl e.2.2)).1 (lf : Int) = true)
theorem nx_in {c : Nat} (h1 : 97 ≤ c) (h2 : c ≤ 102) : 97 ≤ nx c ∧ nx c ≤ 102 := by
  unfold nx; split <;> omega
end Mine
end
section
open PySem PySem.Spec PySem.Calls PySem.W PyProof.Rows PySem.Flt
set_option maxRecDepth 100000
set_option maxHeartbeats 8000000
namespace Mine
theorem point_use6 {w : World} {pv : Program} {lo : List Str} {mean : ExcName → Option Value} {mg mb : Str → Option Value} {dp un : Nat} {gd : Option (List Code)} {cn : Str} {cs : Scope} {a : Addr} {ccd : Value} {cl : List (Str × Addr)} {outer : List Env} {A₀ : Around} {base h₀ : Heap} {L : Addr} {m : Str → Option Value} {s : Shared} {Q E : Value → Shared → Prop} {news : List (Addr × Obj)} {p : Addr} {r g b : Int} {t1 t2 t3 : Tok}
    (B : Below A₀ base outer h₀) (F : Fr h₀ L s.heap m) (X : (hd.heap_1 w.params).In h₀) (N : News h₀ L s.heap news) (T : Top pv lo mean mg mb h₀) (hk : cs.kind = .function)
    (hd : dp + 1 < recursionLimit) (hu : un + 8 < cLine)
    (hz0 : (p, { cls := .type "tuple", data := .seq #[.int r t1, .int g t2, .int b t3] }) ∈ news)
    (hret : ∀ D h' tk t1 t2, Fr h₀ L h' m → News h₀ L h' ((D, { cls := .type "tuple", data := .seq #[.int (r - b) t1, .int (g - b) t2] }) :: news) → (∀ p ∈ news, p.1 < D) → Q (.ref D) { s with heap := h', toks := tk }) :
    wpAny (model PySem.Challenge.rw_wo0025_01.row.prog w) (ktrTop dp un gd cn cs L a ccd cl outer) (call (.ref 150) [.ref p]) Q E s :=
  point w pv lo mean mg mb _ _ _ _ _ _ _ _ _ _ _ _ _ _ _ _ _ _ _ _ _ _ _ _ _  B F X N T hk hd hu hz0 hret
theorem wished_use {w : World} {pv : Program} {lo : List Str} {mean : ExcName → Option Value} {mg mb : Str → Option Value} {dp un : Nat} {gd : Option (List Code)} {cn : Str} {cs : Scope} {a : Addr} {ccd : Value} {cl : List (Str × Addr)} {outer : List Env} {A₀ : Around} {base h₀ : Heap} {L : Addr} {m : Str → Option Value} {s : Shared} {Q E : Value → Shared → Prop} {news : List (Addr × Obj)} {P : Addr} {kP : Nat} {spot left : Int} {ts tl : Tok} {a0 : Addr} {x0 y0 : Int} {u0 v0 : Tok} {k0 : Nat} {a1 : Addr} {x1 y1 : Int} {u1 v1 : Tok} {k1 : Nat} {a2 : Addr} {x2 y2 : Int} {u2 v2 : Tok} {k2 : Nat} {a3 : Addr} {x3 y3 : Int} {u3 v3 : Tok} {k3 : Nat} {a4 : Addr} {x4 y4 : Int} {u4 v4 : Tok} {k4 : Nat} {a5 : Addr} {x5 y5 : Int} {u5 v5 : Tok} {k5 : Nat}
    (B : Below A₀ base outer h₀) (F : Fr h₀ L s.heap m) (X : (hd.heap_1 w.params).In h₀) (N : News h₀ L s.heap news) (T : Top pv lo mean mg mb h₀) (hk : cs.kind = .function)
    (hd : dp + 2 < recursionLimit) (hu : un + 16 < cLine)
    (hz0 : (P, { cls := .type "list", data := .seq #[.ref a0, .ref a1, .ref a2, .ref a3, .ref a4, .ref a5] kP }) ∈ news)
    (hz1 : (a0, { cls := .type "tuple", data := .seq #[.int x0 u0, .int y0 v0] }) ∈ news)
    (hz2 : (a1, { cls := .type "tuple", data := .seq #[.int x1 u1, .int y1 v1] }) ∈ news)
    (hz3 : (a2, { cls := .type "tuple", data := .seq #[.int x2 u2, .int y2 v2] }) ∈ news)
    (hz4 : (a3, { cls := .type "tuple", data := .seq #[.int x3 u3, .int y3 v3] }) ∈ news)
    (hz5 : (a4, { cls := .type "tuple", data := .seq #[.int x4 u4, .int y4 v4] }) ∈ news)
    (hz6 : (a5, { cls := .type "tuple", data := .seq #[.int x5 u5, .int y5 v5] }) ∈ news)
    (hz7 : Builtin.Int.intBits left ≤ 64)
    (hz8 : (left * (spot - 0 - 1)).fmod 6 = (k0 : Int) ∧ k0 < 6)
    (hz9 : (left * (spot - 1 - 1)).fmod 6 = (k1 : Int) ∧ k1 < 6)
    (hz10 : (left * (spot - 2 - 1)).fmod 6 = (k2 : Int) ∧ k2 < 6)
    (hz11 : (left * (spot - 3 - 1)).fmod 6 = (k3 : Int) ∧ k3 < 6)
    (hz12 : (left * (spot - 4 - 1)).fmod 6 = (k4 : Int) ∧ k4 < 6)
    (hz13 : (left * (spot - 5 - 1)).fmod 6 = (k5 : Int) ∧ k5 < 6)
    (hret : ∀ D h' tk t1 t2, Fr h₀ L h' m → News h₀ L h' ((D, { cls := .type "tuple", data := .seq #[.int (wishSum [rotk k0 (x0, y0), rotk k1 (x1, y1), rotk k2 (x2, y2), rotk k3 (x3, y3), rotk k4 (x4, y4), rotk k5 (x5, y5)]).1 t1, .int (wishSum [rotk k0 (x0, y0), rotk k1 (x1, y1), rotk k2 (x2, y2), rotk k3 (x3, y3), rotk k4 (x4, y4), rotk k5 (x5, y5)]).2 t2] }) :: news) → (∀ p ∈ news, p.1 < D) → Q (.ref D) { s with heap := h', toks := tk }) :
    wpAny (model PySem.Challenge.rw_wo0025_01.row.prog w) (ktrTop dp un gd cn cs L a ccd cl outer) (call (.ref 162) [.ref P, .int spot ts, .int left tl]) Q E s :=
  wished w pv lo mean mg mb _ _ _ _ _ _ _ _ _ _ _ _ _ _ _ _ _ _ _ _ _ _ _ _ _ _ _ _ _ _ _ _ _ _ _ _ _ _ _ _ _ _ _ _ _ _ _ _ _ _ _ _ _ _ _ _ _ _ _ _  B F X N T hk hd hu hz0 hz1 hz2 hz3 hz4 hz5 hz6 hz7 hz8 hz9 hz10 hz11 hz12 hz13 hret
theorem apart_use {w : World} {pv : Program} {lo : List Str} {mean : ExcName → Option Value} {mg mb : Str → Option Value} {dp un : Nat} {gd : Option (List Code)} {cn : Str} {cs : Scope} {a : Addr} {ccd : Value} {cl : List (Str × Addr)} {outer : List Env} {A₀ : Around} {base h₀ : Heap} {L : Addr} {m : Str → Option Value} {s : Shared} {Q E : Value → Shared → Prop} {news : List (Addr × Obj)} {p q : Addr} {c e : Int × Int × Int} {left : Int} {t0 t1 t2 v0 v1 v2 tl : Tok}
    (B : Below A₀ base outer h₀) (F : Fr h₀ L s.heap m) (X : (hd.heap_1 w.params).In h₀) (N : News h₀ L s.heap news) (T : Top pv lo mean mg mb h₀) (hk : cs.kind = .function)
    (hd : dp + 2 < recursionLimit) (hu : un + 16 < cLine)
    (hz0 : (p, { cls := .type "tuple", data := .seq #[.int c.1 t0, .int c.2.1 t1, .int c.2.2 t2] }) ∈ news)
    (hz1 : (q, { cls := .type "tuple", data := .seq #[.int e.1 v0, .int e.2.1 v1, .int e.2.2 v2] }) ∈ news)
    (hz2 : c.1.natAbs < 2 ^ 64 ∧ c.2.1.natAbs < 2 ^ 64 ∧ c.2.2.natAbs < 2 ^ 64)
    (hz3 : e.1.natAbs < 2 ^ 64 ∧ e.2.1.natAbs < 2 ^ 64 ∧ e.2.2.natAbs < 2 ^ 64)
    (hz4 : left.natAbs < 2 ^ 64)
    (hz5 : HlsOk (fl c.1) (fl c.2.1) (fl c.2.2) ∧ HlsOk (fl e.1) (fl e.2.1) (fl e.2.2))
    (hz6 : mx3 c.1 c.2.1 c.2.2 - mn3 c.1 c.2.1 c.2.2 = mx3 e.1 e.2.1 e.2.2 - mn3 e.1 e.2.1 e.2.2)
    (hz7 : mx3 c.1 c.2.1 c.2.2 - mn3 c.1 c.2.1 c.2.2 = 0 ∨ offOk (hsvF (fl c.1) (fl c.2.1) (fl c.2.2)).1 (hsvF (fl e.1) (fl e.2.1) (fl e.2.2)).1 left = true)
    (hret : ∀ h' tk, Fr h₀ L h' m → News h₀ L h' news → Q (.bool true) { s with heap := h', toks := tk }) :
    wpAny (model PySem.Challenge.rw_wo0025_01.row.prog w) (ktrTop dp un gd cn cs L a ccd cl outer) (call (.ref 167) [.ref p, .ref q, .int left tl]) Q E s :=
  apart w pv lo mean mg mb _ _ _ _ _ _ _ _ _ _ _ _ _ _ _ _ _ _ _ _ _ _ _ _ _ _ _ _ _ _  B F X N T hk hd hu hz0 hz1 hz2 hz3 hz4 hz5 hz6 hz7 hret
def LastJ (cv : Option Value) (tot lf : Nat) (tt tl : Tok) (x tr P D0 G sc : Addr) (led : List (Addr × Obj)) (_i : Nat) (m' : Str → Option Value) (news' : List (Addr × Obj)) : Prop :=
  ∃ nv sv : Option Value, m' = (fun y => if y = Str.ofString "name" then nv else if y = Str.ofString "spot" then sv else if y = Str.ofString "count" then cv else if y = Str.ofString "total" then some (.int (tot : Int) tt) else (fun y => if y = Str.ofString "ring" then some (Value.ref x) else if y = Str.ofString "left" then some (.int (lf : Int) tl) else if y = Str.ofString "turns" then some (Value.ref tr) else if y = Str.ofString "points" then some (Value.ref P) else if y = Str.ofString "numbers" then some (Value.ref D0) else if y = Str.ofString "given" then some (Value.ref G) else if y = Str.ofString "script" then some (Value.ref sc) else none) y) ∧ news' = led
theorem abs384 {q : P3} (h : PBnd 384 q) : q.1.natAbs < 2 ^ 64 ∧ q.2.1.natAbs < 2 ^ 64 ∧ q.2.2.natAbs < 2 ^ 64 := by
  unfold PBnd at h
  omega
theorem kfm (z : Int) : z.fmod 6 = (((z.fmod 6).toNat : Nat) : Int) ∧ (z.fmod 6).toNat < 6 := by
  rw [Int.fmod_eq_emod_of_nonneg _ (by decide)]; lia
theorem bits_lf {lf : Nat} (h : lf < 6) : Builtin.Int.intBits (lf : Int) ≤ 64 := by
  have : lf = 0 ∨ lf = 1 ∨ lf = 2 ∨ lf = 3 ∨ lf = 4 ∨ lf = 5 := by lia
  rcases this with rfl | rfl | rfl | rfl | rfl | rfl <;> decide
theorem letters_at {i c : Nat} (h1 : [97, 98, 99, 100, 101, 102][i]? = some c) : c = 97 + i ∧ 97 ≤ c ∧ c ≤ 102 := by
  have hi6 : i < 6 := (List.getElem?_eq_some_iff.mp h1).1
  rcases six_of hi6 with rfl | rfl | rfl | rfl | rfl | rfl <;> (have h3 := Option.some.inj h1; subst h3; decide)
theorem law6 {w : World} {pv : Program} {lo : List Str} {mean : ExcName → Option Value} {mg mb : Str → Option Value} {fa : Addr} {cd : Value} {h₀ : Heap} {L : Addr} {s : Shared} {Q : Flow → Shared → Prop} {E : Value → Shared → Prop} {sc D0 G P tr x dx D : Addr} {o od : Obj} {lf tot : Nat} {tl tt : Tok} {ws : List Value} {nw : List (Addr × Obj)} {l : List (Str × P3)} {q : Nat → P3} {q00 q01 q02 q03 q04 q05 : P3} {p0 p1 p2 p3 p4 p5 : Piece} {nv cv : Option Value} {ps qs : Array Value} {k kt : Nat}
    (B : Below callerA h₀ [] h₀) (F : Fr h₀ L s.heap (fun y => if y = Str.ofString "count" then cv else if y = Str.ofString "total" then some (.int (tot : Int) tt) else if y = Str.ofString "name" then nv else (fun y => if y = Str.ofString "ring" then some (Value.ref x) else if y = Str.ofString "left" then some (.int (lf : Int) tl) else if y = Str.ofString "turns" then some (Value.ref tr) else if y = Str.ofString "points" then some (Value.ref P) else if y = Str.ofString "numbers" then some (Value.ref D0) else if y = Str.ofString "given" then some (Value.ref G) else if y = Str.ofString "script" then some (Value.ref sc) else none) y)) (X : (hd.heap_1 w.params).In h₀) (N : News h₀ L s.heap ((98, tabOf ps) :: (23, tabOf qs) :: (x, ringObj dx (piecesOf [p0, p1, p2, p3, p4, p5]) k) :: (dx, od) :: (L + 1, o) :: (tr, W.listOf ws.toArray kt) :: nw)) (T : Top pv lo mean mg mb h₀)
    (hz0 : PassesOwn (model PySem.Challenge.rw_wo0025_01.row.prog w) (callerA.deeper (lawEnv L fa cd)) (lawEnv L fa cd) E)
    (hz1 : lf < 6)
    (hz2 : ApartFact)
    (hz3 : TriplesOk ps.toList ∧ TriplesOk qs.toList ∧ RD od)
    (hz4 : o.data = Data.cell (some (.ref D)))
    (hz5 : RS w L x dx tr P lf q00 q01 q02 q03 q04 q05 nw 5 D l q p0 p1 p2 p3 p4 p5 ws [])
    (hz6 : @LT.lt Nat _ dx x ∧ @LT.lt Nat _ 98 dx)
    (hret : ∀ h' g' tk m' led' pa pb, Bare2 s.gens g' → (98, tabOf pa) ∈ led' → (23, tabOf pb) ∈ led' → Fr h₀ L h' m' → News h₀ L h' led' → Q (.ret (.bool true)) { s with heap := h', gens := g', toks := tk }) :
    wpAny (model PySem.Challenge.rw_wo0025_01.row.prog w) (callerA.deeper (lawEnv L fa cd)) (execs (lawBody.drop 9) (lawEnv L fa cd)) Q E s := by
  w_top off
  k_with_none
  k_with "exec For" => ((k_here; k_dflt (refine For_G (by k_asm) ?_ (by intro _; rfl) (by assumption))))
  k_with "exec For Name Tuple cons nil" => ((k_here; k_dflt (refine For_G (by k_asm) ?_ (by intro _; rfl) (by assumption))))
  k_with "exec For Tuple Call cons nil" => ((k_here; k_dflt (refine For_G (by k_asm) ?_ (by intro _; rfl) (by assumption))))
  k_with "subscriptTail Name Name ref str" => ((k_here; k_dflt (refine kda_item (knd := PySem.strKind _ _) (by k_asm) (by k_mem) (by with_reducible assumption) (strKind_is _ _ _ _) (by with_reducible assumption) ?_)))
  k_with "call type:enumerate" => ((k_here; refine Stop.out ?_))
  k_with "subscriptTail Constant Name str int" => ((k_here; refine Stop.out ?_))
  k_with "call ref" => ((k_here; (fail_if_success (fail_if_success with_reducible show wpAny _ _ (call (Value.ref 150) [Value.ref _]) _ _ _)); k_dflt (refine' point_use6 ?k1 ?k2 ?k3 ?k4 ?k5 ?kK ?kd ?ku ?kz0 ?_; (case k1 => k_asm); (case k2 => k_asm); (case k3 => k_asm); (case k4 => k_asm); (case k5 => k_asm); (case kK => first | exact rfl | assumption); (case kd => ktr_room); (case ku => ktr_units); (case kz0 => k_mem); k_whole; intro D' h' tk' t1' t2' F' N' l1'; (try k_sweep)); walk_say "ASKED point"))
  k_with "call ref" => (((fail_if_success (fail_if_success k_dflt (show wpAny _ _ (call (Value.ref 162) _) _ _ _))); refine Stop.out ?_))
  k_with "call ref" => (((fail_if_success (fail_if_success k_dflt (show wpAny _ _ (call (Value.ref 167) _) _ _ _))); refine Stop.out ?_))
  k_with "call ref" => (((fail_if_success (fail_if_success k_dflt (show wpAny _ _ (call (Value.ref 103) _) _ _ _))); refine Stop.out ?_))
  k_with "subscriptTail Name Subscript ref str" => ((k_here; k_dflt (refine kda_item (knd := PySem.strKind _ _) (by k_asm) (by k_mem) (by with_reducible assumption) (strKind_is _ _ _ _) (by with_reducible assumption) ?_)))
  k_with "call type:str" => ((k_here; (fail_if_success (fail_if_success with_reducible show wpAny _ _ (call (Value.type "str") [Value.ref _]) _ _ _)); k_dflt (refine' kso_call (C := 129) ?k1 ?k2 ?k3 ?k4 ?k5 ?_; (case k1 => ktr_units); (case k2 => k_in); (case k3 => (refine' ring_instN ?Ia ?Ib ?Ic; (case Ia => k_asm); (case Ib => k_mem); (case Ic => k_mem))); (case k4 => k_is); (case k5 => k_is); k_whole)))
  with_unfolding_all have eb : lawBody.drop 9 = _ :: _ := rfl
  with_unfolding_all have es : lawScope = ⟨_, _, _, _, _⟩ := rfl
  unfold lawEnv
  rw [eb, es]
  clear eb es
  revert X; k_fill; intro X
  with_unfolding_all have hE : PassesOwn (model PySem.Challenge.rw_wo0025_01.row.prog w) (callerA.deeper _) _ E := hz0
  obtain ⟨oD, rs, mD, sD, iD, eD, qD⟩ := hz5.pd
  k_dflt (try k_fold)
  k_steps
  refine Stop.intro ?_
  (rename Fr _ _ _ _ => F1); (rename News _ _ _ _ => N1)
  k_dflt (refine g_enum [97, 98, 99, 100, 101, 102] (by rfl) (by decide) rfl F1 N1 ?_)
  intro I J lI lJ
  k_dflt (refine GItems.all2 (J := LastJ cv tot lf tt tl x tr P D0 G sc ((98, tabOf ps) :: (23, tabOf qs) :: (x, ringObj dx (piecesOf [p0, p1, p2, p3, p4, p5]) k) :: (dx, od) :: (L + 1, o) :: (tr, W.listOf ws.toArray kt) :: nw)) ?_ ?_ ?_)
  case refine_1 =>
    refine ⟨nv, none, ?_, rfl⟩
    funext z
    by_cases h1 : z = Str.ofString "count"
    · subst h1; k_dflt exact rfl
    · by_cases h2 : z = Str.ofString "total"
      · subst h2; k_dflt exact rfl
      · by_cases h3 : z = Str.ofString "name"
        · subst h3; k_dflt exact rfl
        · by_cases h4 : z = Str.ofString "spot"
          · subst h4; k_dflt exact rfl
          · simp only [if_neg h1, if_neg h2, if_neg h3, if_neg h4]
  case refine_2 =>
    rintro i a m' news' hi ⟨nv, sv, rfl, rfl⟩ v h tk g oI oJ bg hav hc hc' F2 N3
    replace F2 : Fr h₀ L h _ := F2
    replace N3 : News h₀ L h _ := N3
    obtain ⟨c, hci, h97, h102, rfl⟩ : ∃ c, c = 97 + i ∧ 97 ≤ c ∧ c ≤ 102 ∧ a = Itm.pairF (fun t => .int (i : Int) t) (PyData.str ⟨#[c]⟩) := by
      rw [List.getElem?_mapIdx, Option.map_eq_some_iff] at hi
      obtain ⟨c, h1, h2⟩ := hi
      have h3 := letters_at h1
      exact ⟨c, h3.1, h3.2.1, h3.2.2, h2.symm⟩
    obtain ⟨T', t', xv, rfl, hfl, hT⟩ := hav
    obtain ⟨u', rfl⟩ := flat_str h hfl
    clear F1 N1
    obtain ⟨a0, v0, t00, t01, t02, y0⟩ := paint_look (k := ⟨#[c]⟩) (q := q c) rs qD (by rw [eD]; exact hz5.look c h97 h102)
    have hnx := nx_in h97 h102
    obtain ⟨a1, v1, t10, t11, t12, y1⟩ := paint_look (k := ⟨#[nx c]⟩) (q := q (nx c)) rs qD (by rw [eD]; exact hz5.look _ hnx.1 hnx.2)
    rw [← letter_next hci h102] at v1
    k_steps
    (rename Fr _ _ _ _ => F4); (rename News _ _ _ _ => N4)
    obtain ⟨kP, b0, b1, b2, b3, b4, b5, u0, u1, u2, u3, u4, u5, w0, w1, w2, w3, w4, w5, mP, g0, g1, g2, g3, g4, g5⟩ := hz5.pts
    k_dflt (refine' wished_use (k0 := (((lf : Int) * ((i : Int) - 0 - 1)).fmod 6).toNat) (k1 := (((lf : Int) * ((i : Int) - 1 - 1)).fmod 6).toNat) (k2 := (((lf : Int) * ((i : Int) - 2 - 1)).fmod 6).toNat) (k3 := (((lf : Int) * ((i : Int) - 3 - 1)).fmod 6).toNat) (k4 := (((lf : Int) * ((i : Int) - 4 - 1)).fmod 6).toNat) (k5 := (((lf : Int) * ((i : Int) - 5 - 1)).fmod 6).toNat) ?k1 F4 ?k3 N4 ?k5 ?kK ?kd ?ku ((Sub.skip (Sub.skip (Sub.skip (Sub.skip (Sub.skip (Sub.skip (Sub.skip (Sub.skip (Sub.skip (Sub.same)))))))))) _ mP) ((Sub.skip (Sub.skip (Sub.skip (Sub.skip (Sub.skip (Sub.skip (Sub.skip (Sub.skip (Sub.skip (Sub.same)))))))))) _ g0) ((Sub.skip (Sub.skip (Sub.skip (Sub.skip (Sub.skip (Sub.skip (Sub.skip (Sub.skip (Sub.skip (Sub.same)))))))))) _ g1) ((Sub.skip (Sub.skip (Sub.skip (Sub.skip (Sub.skip (Sub.skip (Sub.skip (Sub.skip (Sub.skip (Sub.same)))))))))) _ g2) ((Sub.skip (Sub.skip (Sub.skip (Sub.skip (Sub.skip (Sub.skip (Sub.skip (Sub.skip (Sub.skip (Sub.same)))))))))) _ g3) ((Sub.skip (Sub.skip (Sub.skip (Sub.skip (Sub.skip (Sub.skip (Sub.skip (Sub.skip (Sub.skip (Sub.same)))))))))) _ g4) ((Sub.skip (Sub.skip (Sub.skip (Sub.skip (Sub.skip (Sub.skip (Sub.skip (Sub.skip (Sub.skip (Sub.same)))))))))) _ g5) (bits_lf hz1) (kfm _) (kfm _) (kfm _) (kfm _) (kfm _) (kfm _) ?_; (case k1 => k_asm); (case k3 => k_asm); (case k5 => k_asm); (case kK => first | exact rfl | assumption); (case kd => ktr_room); (case ku => ktr_units))
    intro D2 h5 tk5 t51 t52 F5 N5 l5
    clear F4 N4
    have hW := wish_pt (show v6 q = _ from hz5.runs) hci h102
    dsimp only [pt] at hW
    rw [hW] at N5
    dsimp only at N5
    k_steps
    (rename Fr _ _ _ _ => F6); (rename News _ _ _ _ => N6)
    have hb1 : PBnd 384 (q c) := hz5.bnd c
    have hb2 : PBnd 384 (q (nx c)) := hz5.bnd (nx c)
    obtain ⟨ap1, ap2, ap3⟩ := hz2 (q c) (q (nx c)) lf hz1 hb1 hb2 (next_pt hz1 (show v6 q = _ from hz5.runs) h97 h102)
    k_dflt (refine' apart_use (c := q c) (e := q (nx c)) (left := (lf : Int)) ?k1 F6 ?k3 N6 ?k5 ?kK ?kd ?ku ((Sub.skip (Sub.skip (Sub.skip (Sub.skip (Sub.skip (Sub.skip (Sub.skip (Sub.skip (Sub.skip (Sub.skip (Sub.same))))))))))) _ y0) ((Sub.skip (Sub.skip (Sub.skip (Sub.skip (Sub.skip (Sub.skip (Sub.skip (Sub.skip (Sub.skip (Sub.skip (Sub.same))))))))))) _ y1) (abs384 hb1) (abs384 hb2) (by omega) ap1 ap2 ap3 ?_; (case k1 => k_asm); (case k3 => k_asm); (case k5 => k_asm); (case kK => first | exact rfl | assumption); (case kd => ktr_room); (case ku => ktr_units))
    intro h7 tk7 F7 N7
    clear F6 N6
    k_steps
    (rename Fr _ _ _ _ => F8); (rename News _ _ _ _ => N8)
    refine GEnd.intro F8 N8 (Bare2.refl _) ((98, tabOf ps) :: (23, tabOf qs) :: (x, ringObj dx (piecesOf [p0, p1, p2, p3, p4, p5]) k) :: (dx, od) :: (L + 1, o) :: (tr, W.listOf ws.toArray kt) :: nw) ?_ ?_ ?_ ⟨trivial, some (.str ⟨#[c]⟩ u'), some (.int (i : Int) t'), ?_, rfl⟩
    · intro p hp
      simp only [List.mem_cons, List.not_mem_nil, or_false] at hp
      rcases hp with rfl | rfl
      · k_mem
      · k_mem
    · exact fun p hp => .tail _ (.tail _ (.tail _ (.tail _ hp)))
    · intro p hp q hq
      simp only [List.mem_cons, List.not_mem_nil, or_false] at hq
      rcases hq with rfl | rfl
      · exact Nat.ne_of_lt (Nat.lt_trans (lI p hp) lJ)
      · exact Nat.ne_of_lt (lI p hp)
    · funext z
      by_cases h1 : z = Str.ofString "name"
      · simp only [if_pos h1]
      · by_cases h2 : z = Str.ofString "spot"
        · simp only [if_neg h1, if_pos h2]
        · simp only [if_neg h1, if_neg h2]
  case refine_3 =>
    rintro m' news' ⟨nv, sv, rfl, rfl⟩ h tk g bg F2 N3
    replace F2 : Fr h₀ L h _ := F2
    replace N3 : News h₀ L h _ := N3
    clear F1 N1
    dsimp only
    k_steps
    obtain ⟨e0, e1, e2, e3, e4, e5⟩ := hz5.letters
    obtain ⟨tri1, tri2, rd⟩ := hz3
    obtain ⟨ltd, lt98⟩ := hz6
    have bL : @LT.lt Nat _ 172 L := L_big X F2
    have l98 : L + 1 ≠ (98 : Addr) := Ne.symm (Nat.ne_of_lt (show @LT.lt Nat _ 98 (L + 1) by lia))
    have t98 : tr ≠ (98 : Addr) := news_ne_data N3 (o := W.listOf ws.toArray kt) (by k_mem) (o' := tabOf ps) (by k_mem) (by intro q; cases q)
    have N4 := news_sub N3 (a := (98, tabOf ps) :: (x, ringObj dx (piecesOf [p0, p1, p2, p3, p4, p5]) k) :: (dx, od) :: (23, tabOf qs) :: (L + 1, o) :: (tr, W.listOf ws.toArray kt) :: nw) (by (repeat (refine Sub.cons (by k_mem) ?_)); (repeat (first | exact Sub.same | refine Sub.skip ?_)))
    have off98 : ∀ p ∈ ((23, tabOf qs) :: (L + 1, o) :: (tr, W.listOf ws.toArray kt) :: nw), p.1 ≠ 98 := List.forall_mem_cons.mpr ⟨(show (23 : Nat) ≠ 98 by decide), List.forall_mem_cons.mpr ⟨l98, List.forall_mem_cons.mpr ⟨t98, fun p hp => (hz5.off p hp).1⟩⟩⟩
    have hm : ∀ p ∈ [p0, p1, p2, p3, p4, p5], (p.1, pieceObj p) ∈ ((23, tabOf qs) :: (L + 1, o) :: (tr, W.listOf ws.toArray kt) :: nw) := by
      obtain ⟨m0, m1, m2, m3, m4, m5⟩ := hz5.pcs
      intro p hp
      simp only [List.mem_cons, List.not_mem_nil, or_false] at hp
      rcases hp with rfl | rfl | rfl | rfl | rfl | rfl <;> exact .tail _ (.tail _ (.tail _ (by assumption)))
    k_dflt (refine' dstr_use (its := [p0, p1, p2, p3, p4, p5]) ?k1 ?k2 ?k3 N4 ?k5 ?kK ?kd ?ku rfl ⟨tri1, Ne.symm (Nat.ne_of_lt (Nat.lt_trans lt98 ltd)), Ne.symm (Nat.ne_of_lt lt98), off98, Nat.le_of_ble_eq_true rfl, hm⟩ ?_; (case k1 => k_asm); (case k2 => k_asm); (case k3 => k_asm); (case k5 => k_asm); (case kK => first | exact rfl | assumption); (case kd => ktr_room); (case ku => ktr_units))
    intro h9 g9 tk9 t9 ps9 tri9 bb9 F9 N9
    clear N3 N4 F2
    have et : textOf [p0, p1, p2, p3, p4, p5] = Str.ofString "fabcde" := by
      simp only [textOf, List.map_cons, List.map_nil, e0, e1, e2, e3, e4, e5]
      with_unfolding_all rfl
    rw [et]
    unfold StrBack
    dsimp only
    k_steps
    have eq9 : (Str.ofString "fabcde" == Str.ofString "fabcde") = true := by kernel_rfl
    rw [eq9]
    exact hret _ _ _ _ _ ps9 qs (bg.trans bb9) (by k_mem) (by k_mem) F9 N9
end Mine
end
end
section
open PySem PySem.Spec PySem.Calls PySem.W PyProof.Rows PySem.Flt
set_option maxRecDepth 100000
set_option maxHeartbeats 8000000
namespace Mine
noncomputable def startQ (a b c d e f : P3) (k : Nat) : P3 := if k = 97 then a else if k = 98 then b else if k = 99 then c else if k = 100 then d else if k = 101 then e else f
theorem startQ_bnd {a b c d e f : P3} {B : Int} (ha : PBnd B a) (hb : PBnd B b) (hc : PBnd B c) (hd : PBnd B d) (he : PBnd B e) (hf : PBnd B f) (k : Nat) : PBnd B (startQ a b c d e f k) := by
  unfold startQ
  repeat' split
  all_goals assumption
theorem paintOf_bnd (n : Int) : PBnd (12 * 2 ^ 0) (paintOf n) := by
  unfold PBnd paintOf
  simp only [Int.fmod_eq_emod_of_nonneg _ (show (0 : Int) ≤ 13 by decide)]
  grind
theorem start_rs {w : World} {L x dx tr P : Addr} {lf : Nat} {q0 q1 q2 q3 q4 q5 : P3} {nw nw' : List (Addr × Obj)} {D : Addr} {p0 p1 p2 p3 p4 p5 : Piece} {ws : List Value} (hl : lf < 6)
    (pd : PaintDict PySem.Challenge.rw_wo0025_01.row.prog w nw D [(⟨#[97]⟩, q0), (⟨#[98]⟩, q1), (⟨#[99]⟩, q2), (⟨#[100]⟩, q3), (⟨#[101]⟩, q4), (⟨#[102]⟩, q5)]) (pts : PtsIn nw P q0 q1 q2 q3 q4 q5)
    (b0 : PBnd (12 * 2 ^ 0) q0) (b1 : PBnd (12 * 2 ^ 0) q1) (b2 : PBnd (12 * 2 ^ 0) q2) (b3 : PBnd (12 * 2 ^ 0) q3) (b4 : PBnd (12 * 2 ^ 0) q4) (b5 : PBnd (12 * 2 ^ 0) q5)
    (hI : IntsAre ws (([3, 4, 5, 6, 7, 8] : List Int).eraseIdx lf)) (lets : p0.2.2.2 = 97 ∧ p1.2.2.2 = 98 ∧ p2.2.2.2 = 99 ∧ p3.2.2.2 = 100 ∧ p4.2.2.2 = 101 ∧ p5.2.2.2 = 102)
    (pcs : (p0.1, pieceObj p0) ∈ nw' ∧ (p1.1, pieceObj p1) ∈ nw' ∧ (p2.1, pieceObj p2) ∈ nw' ∧ (p3.1, pieceObj p3) ∈ nw' ∧ (p4.1, pieceObj p4) ∈ nw' ∧ (p5.1, pieceObj p5) ∈ nw') (sub : Sub nw nw')
    (h1 : ∀ p ∈ nw', p ∈ nw ∨ @LT.lt Nat _ x p.1) (h2 : ∀ p ∈ nw, p.1 ≠ 98 ∧ p.1 ≠ 23 ∧ p.1 ≠ L + 1 ∧ p.1 ≠ tr) (h3 : ∀ p ∈ nw, @LT.lt Nat _ p.1 dx) (ld : @LT.lt Nat _ dx x)
    (l98 : @LT.lt Nat _ 98 dx) (l23 : @LT.lt Nat _ 23 dx) (lL : @LT.lt Nat _ (L + 1) dx) (lt : @LT.lt Nat _ tr dx) :
    RS w L x dx tr P lf q0 q1 q2 q3 q4 q5 nw' 0 D [(⟨#[97]⟩, q0), (⟨#[98]⟩, q1), (⟨#[99]⟩, q2), (⟨#[100]⟩, q3), (⟨#[101]⟩, q4), (⟨#[102]⟩, q5)] (startQ q0 q1 q2 q3 q4 q5) p0 p1 p2 p3 p4 p5 ws (([3, 4, 5, 6, 7, 8] : List Nat).eraseIdx lf) where
  pd := pd.sub sub
  look := fun c h h' => by rcases letter_cases h h' with rfl | rfl | rfl | rfl | rfl | rfl <;> rfl
  letters := by simpa using lets
  pcs := pcs
  wints := by
    have e := erase_map (fun n : Nat => (n : Int)) [3, 4, 5, 6, 7, 8] lf
    rw [← e]
    exact hI
  len := by rw [List.length_eraseIdx_of_lt (by simpa using hl)]; rfl
  rng := fun n hn => by
    have := List.mem_of_mem_eraseIdx hn
    simp only [List.mem_cons, List.not_mem_nil, or_false] at this
    lia
  runs := run_wish lf hl _
  bnd := startQ_bnd b0 b1 b2 b3 b4 b5
  pts := pts.sub sub
  off := fun p hp => by
    have key : ∀ q : Nat, q < dx → ∀ a : Nat, x < a → a ≠ q := fun q h a h' => Ne.symm (Nat.ne_of_lt (Nat.lt_trans h (Nat.lt_trans ld h')))
    rcases h1 p hp with h | h
    · have := h2 p h
      have g := h3 p h
      exact ⟨this.1, this.2.1, Nat.ne_of_lt (Nat.lt_trans g ld), Nat.ne_of_lt g, this.2.2.1, this.2.2.2⟩
    · exact ⟨key _ l98 _ h, key _ l23 _ h, Ne.symm (Nat.ne_of_lt h), Ne.symm (Nat.ne_of_lt (Nat.lt_trans ld h)), key _ lL _ h, key _ lt _ h⟩
theorem triples_nil : TriplesOk (#[] : Array Value).toList := True.intro
theorem law_all {w : World} {pv : Program} {lo : List Str} {mean : ExcName → Option Value} {mg mb : Str → Option Value} {fa : Addr} {cd : Value} {h₀ : Heap} {L : Addr} {s : Shared} {Q : Flow → Shared → Prop} {E : Value → Shared → Prop} {sc : Addr} {vs : List Value} {ns : List Int} {o1 : Obj}
    (B : Below callerA h₀ [] h₀) (F : Fr h₀ L s.heap (fun z => if z = Str.ofString "script" then some (.ref sc) else none)) (X : (hd.heap_1 w.params).In h₀) (N : News h₀ L s.heap [(23, tabOf #[]), (98, tabOf #[]), (L + 1, o1)]) (T : Top pv lo mean mg mb h₀)
    (hE : PassesOwn (model PySem.Challenge.rw_wo0025_01.row.prog w) (callerA.deeper (lawEnv L fa cd)) (lawEnv L fa cd) E) (hT : TurnFact) (hA : ApartFact)
    (hd : o1.data = Data.cell none) (hl : h₀.IsList sc vs.toArray) (hI : IntsAre vs ns) (h63 : ¬ 63 < (ns.length : Int))
    (hret : ∀ h' g' tk m' led' pa pb, Bare2 s.gens g' → (98, tabOf pa) ∈ led' → (23, tabOf pb) ∈ led' → Fr h₀ L h' m' → News h₀ L h' led' → Q (.ret (.bool true)) { s with heap := h', gens := g', toks := tk }) :
    wpAny (model PySem.Challenge.rw_wo0025_01.row.prog w) (callerA.deeper (lawEnv L fa cd)) (execs (lawBody.drop 0) (lawEnv L fa cd)) Q E s := by
  refine law0 B F X N T hd hl hI h63 fun h0 k0 D G n0 n1 n2 n3 n4 n5 t0 t1 t2 t3 t4 t5 six F0 N0 => ?_
  refine law1 B F0 X N0 T hd fun h1 k1 D1 o nw1 mN hd1 pd1 off1 F1 N1 => ?_
  refine law2 B F1 X N1 T hd1 pd1 mN six fun h2 k2 P tr lf tot tl tt ws nw2 hlf hI2 pd2 pts2 off2 F2 N2 => ?_
  refine law3 B F2 X N2 T hlf hI2 ⟨_, hd1⟩ off2 fun h3 k3 x dx od ws3 hI3 rd3 ld3 l3 F3 N3 => ?_
  refine law4 B F3 X N3 T hE rd3 ld3 l3 fun h4 g4 k4 bb4 p0 p1 p2 p3 p4 p5 nv nw4 let4 pcs4 sub4 or4 F4 N4 => ?_
  have rs := start_rs hlf pd2 pts2 (paintOf_bnd n0) (paintOf_bnd n1) (paintOf_bnd n2) (paintOf_bnd n3) (paintOf_bnd n4) (paintOf_bnd n5) hI3 let4 pcs4 sub4 or4 off2 (fun p hp => l3 p (.tail _ (.tail _ (.tail _ (.tail _ hp))))) ld3 (l3 _ (.head _)) (l3 _ (.tail _ (.head _))) (l3 _ (.tail _ (.tail _ (.head _)))) (l3 _ (.tail _ (.tail _ (.tail _ (.head _)))))
  refine law5 B F4 X N4 T hE hT ⟨triples_nil, triples_nil, rd3⟩ hd1 rs ⟨ld3, l3 _ (.head _)⟩ fun h5 g5 k5 bb5 ps qs kk od5 o5 ws5 kt D5 l5 q p0 p1 p2 p3 p4 p5 nw5 tot5 tt5 cv5 tri1 tri2 rd5 hd5 rs5 F5 N5 => ?_
  refine law6 B F5 X N5 T hE hlf hA ⟨tri1, tri2, rd5⟩ hd5 rs5 ⟨ld3, l3 _ (.head _)⟩ fun h6 g6 k6 m6 led6 pa pb bb6 ma mb F6 N6 => ?_
  exact hret _ _ _ _ _ pa pb (bb4.trans (bb5.trans bb6)) ma mb F6 N6
end Mine
end
section
open PySem PySem.Float64
namespace Mine
/-- every q * 2 ^ k with q below 2 ^ 53 is a float's worth -/
theorem V_any : ∀ (k q : Nat), q < 2 ^ 53 → ∃ t, V t = q * 2 ^ k
  | 0, q, h => ⟨0 * 2 ^ 52 + q, V_at (k := 0) (Nat.le_of_lt h) (.inr rfl)⟩
  | k + 1, q, h => by
    by_cases hq : 2 ^ 52 ≤ q
    · exact ⟨(k + 1) * 2 ^ 52 + q, V_at (Nat.le_of_lt h) (.inl hq)⟩
    · obtain ⟨t, ht⟩ := V_any k (2 * q) (by lia)
      exact ⟨t, by rw [ht, Nat.pow_succ]; simp only [Nat.mul_assoc, Nat.mul_comm]⟩
/-- a finite float -/
def Fn (x : UInt64) : Prop := ∃ a m e, decode x = .fin a m e
theorem over_no {W D : Nat} (hD : 0 < D) (hW : W < D * 2 ^ 1084) : ¬ D * ((2 ^ 54 - 1) * 2 ^ 2045) ≤ 2 * W := by
  intro h
  have e : (2 : Nat) * 2 ^ 1084 ≤ (2 ^ 54 - 1) * 2 ^ 2045 := by decide +kernel
  have h1 : D * (2 * 2 ^ 1084) ≤ 2 * W := Nat.le_trans (Nat.mul_le_mul_left D e) h
  have h2 : D * (2 * 2 ^ 1084) = 2 * (D * 2 ^ 1084) := by simp only [Nat.mul_left_comm]
  rw [h2] at h1
  omega
/-- a rounded result is near, by whole numbers -/
theorem near_nat {r : UInt64} {neg : Bool} {W D : Nat} (h : Right r neg W D) (hD : 0 < D) (hW : W < D * 2 ^ 1084) :
    ∃ t, r = pack neg t ∧ t < infMag ∧ dist W (D * V t) < D * 2 ^ 1031 := by
  obtain ⟨t, hr, ht, hi, hn⟩ := h
  have hlt : t < infMag := by
    rcases Nat.lt_or_ge t infMag with q | q
    · exact q
    · exact absurd (hi.mp (Nat.le_antisymm ht q)) (over_no hD hW)
  refine ⟨t, hr, hlt, ?_⟩
  have hP : 0 < 2 ^ 1031 := Nat.two_pow_pos _
  have e84 : 2 ^ 1084 = 2 ^ 1031 * 2 ^ 53 := by rw [← Nat.pow_add]
  rw [e84] at hW
  have any := V_any 1031
  generalize 2 ^ 1031 = P at *
  have hDP : 0 < D * P := Nat.mul_pos hD hP
  have hq : W / (D * P) < 2 ^ 53 := by
    rw [Nat.div_lt_iff_lt_mul hDP]
    calc W < D * (P * 2 ^ 53) := hW
      _ = 2 ^ 53 * (D * P) := by rw [← Nat.mul_assoc, Nat.mul_comm]
  obtain ⟨t', ht'⟩ := any _ hq
  refine Nat.lt_of_le_of_lt (hn hlt t').1 ?_
  rw [ht']
  have e : D * (W / (D * P) * P) = D * P * (W / (D * P)) := by rw [Nat.mul_comm (W / (D * P)) P, Nat.mul_assoc]
  rw [e]
  have h1 := Nat.div_add_mod W (D * P)
  have h2 := Nat.mod_lt W hDP
  unfold dist
  generalize D * P * (W / (D * P)) = Y at *
  omega
/-- an exact result is exact -/
theorem exact_nat {r : UInt64} {neg : Bool} {W D : Nat} (h : Right r neg W D) (hD : 0 < D) {q k : Nat} (hq : q < 2 ^ 53) (hk : k ≤ 1031) (hW : W = D * (q * 2 ^ k)) :
    ∃ t, r = pack neg t ∧ t < infMag ∧ V t = q * 2 ^ k := by
  have hlt : W < D * 2 ^ 1084 := by
    rw [hW]
    refine Nat.mul_lt_mul_of_pos_left ?_ hD
    calc q * 2 ^ k < 2 ^ 53 * 2 ^ k := Nat.mul_lt_mul_of_pos_right hq (Nat.two_pow_pos _)
      _ ≤ 2 ^ 53 * 2 ^ 1031 := Nat.mul_le_mul_left _ (Nat.pow_le_pow_right (by decide) hk)
      _ = 2 ^ 1084 := by rw [← Nat.pow_add]
  obtain ⟨t, hr, ht, hi, hn⟩ := h
  have hlt' : t < infMag := by
    rcases Nat.lt_or_ge t infMag with q | q
    · exact q
    · exact absurd (hi.mp (Nat.le_antisymm ht q)) (over_no hD hlt)
  obtain ⟨t', ht'⟩ := V_any k q hq
  have h1 := (hn hlt' t').1
  rw [ht', hW] at h1
  refine ⟨t, hr, hlt', ?_⟩
  have h2 : dist (D * (q * 2 ^ k)) (D * (q * 2 ^ k)) = 0 := by unfold dist; simp +arith
  rw [h2] at h1
  have h3 : D * (q * 2 ^ k) = D * V t := by unfold dist at h1; omega
  exact (Nat.eq_of_mul_eq_mul_left hD h3).symm
theorem fn_pack {neg : Bool} {t : Nat} (h : t < infMag) : Fn (pack neg t) := by
  obtain ⟨m, e, hd, _⟩ := decode_pack neg h
  exact ⟨_, _, _, hd⟩
theorem near_int {r : UInt64} {neg : Bool} {W D : Nat} (h : Right r neg W D) (hD : 0 < D) (hW : W < D * 2 ^ 1084) :
    Fn r ∧ val r * D - sgn neg W < D * 2 ^ 1031 ∧ sgn neg W - val r * D < D * 2 ^ 1031 := by
  obtain ⟨t, rfl, ht, hd⟩ := near_nat h hD hW
  refine ⟨fn_pack ht, ?_⟩
  rw [val_pack neg ht]
  have e : ((D * 2 ^ 1031 : Nat) : Int) = (D : Int) * 2 ^ 1031 := by rw [Int.natCast_mul]; simp
  rw [← e]
  generalize D * 2 ^ 1031 = K at *
  have e2 : sgn neg (V t) * (D : Int) = sgn neg (V t * D) := (sgn_mul neg (V t) D).symm
  rw [e2, Nat.mul_comm]
  generalize D * V t = Y at *
  unfold dist at hd
  unfold sgn
  cases neg <;> simp <;> grind
theorem exact_int {r : UInt64} {neg : Bool} {W D : Nat} (h : Right r neg W D) (hD : 0 < D) {n : Int} {k : Nat} (hn : n.natAbs < 2 ^ 53) (hk : k ≤ 1031) (hW : sgn neg W = n * (D * 2 ^ k : Nat)) :
    Fn r ∧ val r = n * 2 ^ k := by
  have hW' : W = D * (n.natAbs * 2 ^ k) := by
    have := congrArg Int.natAbs hW
    rw [sgn_natAbs, Int.natAbs_mul, Int.natAbs_natCast] at this
    rw [this, Nat.mul_left_comm]
  obtain ⟨t, rfl, ht, hv⟩ := exact_nat h hD hn hk hW'
  refine ⟨fn_pack ht, ?_⟩
  rw [val_pack neg ht, hv]
  have hpos : (0 : Int) < (D * 2 ^ k : Nat) := Int.natCast_pos.mpr (Nat.mul_pos hD (Nat.two_pow_pos _))
  have e : sgn neg (n.natAbs * 2 ^ k) = sgn neg n.natAbs * (2 : Int) ^ k := by rw [sgn_mul]; simp
  rw [e]
  congr 1
  -- the sign
  have h3 : sgn neg W = sgn neg n.natAbs * (D * 2 ^ k : Nat) := by
    rw [hW', Nat.mul_left_comm, sgn_mul]
  rw [h3] at hW
  exact Int.eq_of_mul_eq_mul_right (Int.ne_of_gt hpos) hW
end Mine
end
section
open PySem PySem.Float64
set_option linter.unusedVariables false
set_option exponentiation.threshold 3000
namespace Mine
/-- the unit of nearness, 2 ^ -43 of one; one is 8796093022208 units -/
noncomputable def tU : Int := 2 ^ 1031
theorem tU_pos : 0 < tU := by unfold tU; exact Int.pow_pos (by decide)
theorem t31 : (2 : Int) ^ 1031 = tU := rfl
theorem t74 : (2 : Int) ^ 1074 = 8796093022208 * tU := by
  unfold tU
  rw [show (1074 : Nat) = 43 + 1031 from rfl, Int.pow_add]; rfl
theorem t74n : ((2 ^ 1074 : Nat) : Int) = 8796093022208 * tU := by rw [← t74, Int.natCast_pow]; rfl
theorem t84n : ((2 ^ 1084 : Nat) : Int) = 9007199254740992 * tU := by
  rw [Int.natCast_pow]
  unfold tU
  rw [show (1084 : Nat) = 53 + 1031 from rfl, Int.pow_add]; rfl
theorem sgn_two (a b : Bool) (m k : Nat) : sgn (a != b) (m * k) = sgn a m * sgn b k := by
  unfold sgn
  cases a <;> cases b <;> simp [Int.neg_mul, Int.mul_neg]
theorem sgn_own (v : Int) : sgn (decide (v < 0)) v.natAbs = v := by
  unfold sgn
  by_cases h : v < 0 <;> simp [h] <;> grind
theorem fn_zero (s : Bool) : Fn (zero s) ∧ val (zero s) = 0 := by
  have h : (0 : Nat) < infMag := by decide
  refine ⟨fn_pack h, ?_⟩
  have := val_pack s h
  unfold zero
  rw [this]
  have e : V 0 = 0 := by decide
  rw [e]; cases s <;> rfl
theorem near_u {r : UInt64} {neg : Bool} {W D : Nat} (h : Right r neg W D) (hD : 0 < D) (hW : (W : Int) < D * (9007199254740992 * tU)) :
    Fn r ∧ val r * D - sgn neg W ≤ D * tU ∧ sgn neg W - val r * D ≤ D * tU := by
  have hb : W < D * 2 ^ 1084 := by
    rw [← t84n, ← Int.natCast_mul] at hW
    exact Int.ofNat_lt.mp hW
  obtain ⟨f1, n1, n2⟩ := near_int h hD hb
  rw [t31] at n1 n2
  exact ⟨f1, Int.le_of_lt n1, Int.le_of_lt n2⟩
section
variable {x y : UInt64}
theorem add_near (hx : Fn x) (hy : Fn y) (h1 : val x + val y < 9007199254740992 * tU) (h2 : -(val x + val y) < 9007199254740992 * tU) :
    Fn (add x y) ∧ val (add x y) - (val x + val y) ≤ tU ∧ val x + val y - val (add x y) ≤ tU := by
  obtain ⟨a, m, e, dx⟩ := hx
  obtain ⟨b, k, f, dy⟩ := hy
  obtain ⟨r0, r1⟩ := add_right dx dy
  have hu := tU_pos
  by_cases h : val x + val y = 0
  · rw [r0 h, h]
    obtain ⟨z1, z2⟩ := fn_zero (a && b)
    rw [z2]
    exact ⟨z1, by decide, by decide⟩
  · have hr := near_u (r1 h) (by decide) (by omega)
    rw [sgn_own] at hr
    obtain ⟨f1, n1, n2⟩ := hr
    exact ⟨f1, by lia, by lia⟩
theorem sub_near (hx : Fn x) (hy : Fn y) (h1 : val x - val y < 9007199254740992 * tU) (h2 : -(val x - val y) < 9007199254740992 * tU) :
    Fn (sub x y) ∧ val (sub x y) - (val x - val y) ≤ tU ∧ val x - val y - val (sub x y) ≤ tU := by
  obtain ⟨b, k, f, dy⟩ := hy
  have := add_near (y := neg y) hx ⟨_, _, _, neg_decode dy⟩
  rw [neg_val dy, ← Int.sub_eq_add_neg] at this
  unfold Float64.sub
  exact this h1 h2
theorem mul_near (hx : Fn x) (hy : Fn y) (h1 : val x * val y < 8796093022208 * tU * (9007199254740992 * tU)) (h2 : -(val x * val y) < 8796093022208 * tU * (9007199254740992 * tU)) :
    Fn (mul x y) ∧ val (mul x y) * (8796093022208 * tU) - val x * val y ≤ 8796093022208 * tU * tU ∧ val x * val y - val (mul x y) * (8796093022208 * tU) ≤ 8796093022208 * tU * tU := by
  obtain ⟨a, m, e, dx⟩ := hx
  obtain ⟨b, k, f, dy⟩ := hy
  have r := mul_right dx dy
  have es : sgn (a != b) ((val x).natAbs * (val y).natAbs) = val x * val y := by
    rw [sgn_two, val_natAbs dx, val_natAbs dy, ← val_eq dx, ← val_eq dy]
  have hw : (((val x).natAbs * (val y).natAbs : Nat) : Int) < (2 ^ 1074 : Nat) * (9007199254740992 * tU) := by
    rw [t74n, ← Int.natAbs_mul]
    generalize val x * val y = p at *
    generalize 8796093022208 * tU * (9007199254740992 * tU) = q at *
    omega
  have hr := near_u r (Nat.two_pow_pos _) hw
  rw [es, t74n] at hr
  exact hr
theorem div_near (hx : Fn x) (hy : Fn y) (hp : 0 < val y) (h1 : val x * (8796093022208 * tU) < val y * (9007199254740992 * tU)) (h2 : -(val x * (8796093022208 * tU)) < val y * (9007199254740992 * tU)) :
    Fn (div x y) ∧ val (div x y) * val y - val x * (8796093022208 * tU) ≤ val y * tU ∧ val x * (8796093022208 * tU) - val (div x y) * val y ≤ val y * tU := by
  obtain ⟨a, m, e, dx⟩ := hx
  obtain ⟨b, k, f, dy⟩ := hy
  have hk : k ≠ 0 := by
    rintro rfl
    rw [val_eq dy] at hp
    unfold sgn at hp
    cases b <;> simp at hp
  have hb : b = false := by
    cases b
    · rfl
    · rw [val_eq dy] at hp
      unfold sgn at hp
      simp only [if_true] at hp
      omega
  subst hb
  have r := div_right dx dy hk
  have hn : ((val y).natAbs : Int) = val y := by lia
  have es : sgn (a != false) ((val x).natAbs * 2 ^ 1074) = val x * (8796093022208 * tU) := by
    rw [sgn_mul, t74n, Bool.bne_false, val_natAbs dx, ← val_eq dx]
  have hw : (((val x).natAbs * 2 ^ 1074 : Nat) : Int) < (val y).natAbs * (9007199254740992 * tU) := by
    have : (((val x).natAbs * 2 ^ 1074 : Nat) : Int) = (val x * (8796093022208 * tU)).natAbs := by
      rw [← es, sgn_natAbs]
    rw [this, hn]
    generalize val x * (8796093022208 * tU) = p at *
    generalize val y * (9007199254740992 * tU) = q at *
    (clear hp dx hk dy r hn es this; lia)
  have hr := near_u r (by lia) hw
  rw [es, hn] at hr
  exact hr
theorem int_near (hx : Fn x) (h0 : 0 ≤ val x) : Flt.toInt truncOf x * (8796093022208 * tU) ≤ val x ∧ val x < (Flt.toInt truncOf x + 1) * (8796093022208 * tU) := by
  obtain ⟨a, m, e, dx⟩ := hx
  have he := decode_ge dx
  rw [Flt.toInt_fin dx, val_eq dx, ← t74]
  rw [val_eq dx] at h0
  have key : floorOf false m e = ((m * 2 ^ (e + 1074).toNat / 2 ^ 1074 : Nat) : Int) := by
    unfold floorOf sgn
    split
    · rename_i h
      have e1 : (e + 1074).toNat = e.toNat + 1074 := by lia
      rw [e1, Nat.pow_add, ← Nat.mul_assoc, Nat.mul_div_cancel _ (Nat.two_pow_pos _)]
      simp
    · rename_i h
      have e1 : (2 : Nat) ^ 1074 = 2 ^ (-e).toNat * 2 ^ (e + 1074).toNat := by rw [← Nat.pow_add]; congr 1; lia
      rw [e1, Nat.mul_div_mul_right _ _ (Nat.two_pow_pos _)]
      simp only [Bool.false_eq_true, if_false]
      rw [Int.fdiv_eq_ediv_of_nonneg _ (Int.le_of_lt (Int.pow_pos (by decide))), Int.natCast_ediv, Int.natCast_pow]; rfl
  have tp : (0 : Int) < 2 ^ 1074 := Int.pow_pos (by decide)
  have tc : ((2 ^ 1074 : Nat) : Int) = 2 ^ 1074 := by rw [Int.natCast_pow]; rfl
  cases a
  · unfold truncOf
    simp only [Bool.false_eq_true, if_false]
    rw [key]
    unfold sgn
    simp only [Bool.false_eq_true, if_false]
    generalize m * 2 ^ (e + 1074).toNat = W at *
    rw [← tc]
    have d1 := Nat.div_add_mod W (2 ^ 1074)
    have d2 := Nat.mod_lt W (Nat.two_pow_pos 1074)
    generalize (2 : Nat) ^ 1074 = K at *
    constructor
    · rw [← Int.natCast_mul, Int.ofNat_le, Nat.mul_comm]; lia
    · rw [← Int.natCast_succ, ← Int.natCast_mul, Int.ofNat_lt, Nat.succ_mul, Nat.mul_comm]; grind
  · unfold truncOf ceilOf
    simp only [if_true, Bool.not_true]
    rw [key]
    unfold sgn at h0 ⊢
    simp only [if_true] at h0 ⊢
    have z : m * 2 ^ (e + 1074).toNat = 0 := by lia
    rw [z]
    simp only [Nat.zero_div]
    generalize (2 : Int) ^ 1074 = K at *
    simp
    exact tp
end
end Mine
end
section
open PySem PySem.Float64
set_option linter.unusedVariables false
set_option exponentiation.threshold 3000
namespace Mine
/-- X is n / D, but for k units -/
def Pr (X n D k : Int) : Prop := X * D - n * (8796093022208 * tU) ≤ k * D * tU ∧ n * (8796093022208 * tU) - X * D ≤ k * D * tU
theorem pr_scale {X D n k D' n' : Int} (hD : 0 < D) (hD' : 0 < D') (e : n * D' = n' * D) (h : Pr X n D k) : Pr X n' D' k := by
  obtain ⟨h1, h2⟩ := h
  constructor
  · refine Int.le_of_mul_le_mul_left (a := D) ?_ hD
    have := Int.mul_le_mul_of_nonneg_left h1 (Int.le_of_lt hD')
    grind
  · refine Int.le_of_mul_le_mul_left (a := D) ?_ hD
    have := Int.mul_le_mul_of_nonneg_left h2 (Int.le_of_lt hD')
    grind
theorem pr_mono {X D n k l : Int} (hD : 0 < D) (h : Pr X n D k) (hk : k ≤ l) : Pr X n D l := by
  have := Int.mul_le_mul_of_nonneg_right (Int.mul_le_mul_of_nonneg_right hk (Int.le_of_lt hD)) (Int.le_of_lt tU_pos)
  obtain ⟨h1, h2⟩ := h
  constructor <;> omega
theorem pr_near {X Y D n k : Int} (hD : 0 < D) (h : Pr X n D k) (h1 : Y - X ≤ tU) (h2 : X - Y ≤ tU) : Pr Y n D (k + 1) := by
  have := Int.mul_le_mul_of_nonneg_left h1 (Int.le_of_lt hD)
  have := Int.mul_le_mul_of_nonneg_left h2 (Int.le_of_lt hD)
  obtain ⟨a1, a2⟩ := h
  constructor <;> grind
theorem pr_add {X Y D n m k l : Int} (hx : Pr X n D k) (hy : Pr Y m D l) : Pr (X + Y) (n + m) D (k + l) := by
  obtain ⟨a1, a2⟩ := hx
  obtain ⟨b1, b2⟩ := hy
  constructor <;> grind
theorem pr_sub {X Y D n m k l : Int} (hx : Pr X n D k) (hy : Pr Y m D l) : Pr (X - Y) (n - m) D (k + l) := by
  obtain ⟨a1, a2⟩ := hx
  obtain ⟨b1, b2⟩ := hy
  constructor <;> grind
/-- the bound of what is near -/
theorem pr_bound {X D n k c : Int} (hD : 0 < D) (h : Pr X n D k) (h1 : n ≤ c * D) (h2 : -n ≤ c * D) : X ≤ (c * 8796093022208 + k) * tU ∧ -X ≤ (c * 8796093022208 + k) * tU := by
  have hu := tU_pos
  have b1 := Int.mul_le_mul_of_nonneg_right h1 (Int.le_of_lt hu)
  have b2 := Int.mul_le_mul_of_nonneg_right h2 (Int.le_of_lt hu)
  obtain ⟨a1, a2⟩ := h
  constructor
  · refine Int.le_of_mul_le_mul_left (a := D) ?_ hD
    grind
  · refine Int.le_of_mul_le_mul_left (a := D) ?_ hD
    grind
theorem pr_big {X D n k c : Int} (hD : 0 < D) (h : Pr X n D k) (h1 : n ≤ c * D) (h2 : -n ≤ c * D) (hc : c ≤ 500) (hk : k ≤ 1000000) : X < 9007199254740992 * tU ∧ -X < 9007199254740992 * tU := by
  obtain ⟨b1, b2⟩ := pr_bound hD h h1 h2
  have hu := tU_pos
  have := Int.mul_lt_mul_of_pos_right (show c * 8796093022208 + k < 9007199254740992 by lia) hu
  constructor <;> lia
def Nr (x : UInt64) (n D k : Int) : Prop := Fn x ∧ Pr (val x) n D k
theorem nr_scale {x : UInt64} {D n k D' n' : Int} (hD : 0 < D) (hD' : 0 < D') (e : n * D' = n' * D) (h : Nr x n D k) : Nr x n' D' k := ⟨h.1, pr_scale hD hD' e h.2⟩
theorem nr_mono {x : UInt64} {D n k l : Int} (hD : 0 < D) (h : Nr x n D k) (hk : k ≤ l) : Nr x n D l := ⟨h.1, pr_mono hD h.2 hk⟩
section
variable {x y : UInt64} {n m D E k l c : Int}
theorem nr_add (hD : 0 < D) (hx : Nr x n D k) (hy : Nr y m D l) (c : Int) (h1 : n + m ≤ c * D) (h2 : -(n + m) ≤ c * D) (hc : c ≤ 500) (hk : k + l ≤ 1000000) : Nr (add x y) (n + m) D (k + l + 1) := by
  have p := pr_add hx.2 hy.2
  obtain ⟨b1, b2⟩ := pr_big hD p h1 h2 hc hk
  obtain ⟨f, n1, n2⟩ := add_near hx.1 hy.1 b1 b2
  exact ⟨f, pr_near hD p n1 n2⟩
theorem nr_sub (hD : 0 < D) (hx : Nr x n D k) (hy : Nr y m D l) (c : Int) (h1 : n - m ≤ c * D) (h2 : -(n - m) ≤ c * D) (hc : c ≤ 500) (hk : k + l ≤ 1000000) : Nr (sub x y) (n - m) D (k + l + 1) := by
  have p := pr_sub hx.2 hy.2
  obtain ⟨b1, b2⟩ := pr_big hD p h1 h2 hc hk
  obtain ⟨f, n1, n2⟩ := sub_near hx.1 hy.1 b1 b2
  exact ⟨f, pr_near hD p n1 n2⟩
theorem mul_abs {p q P Q : Int} (h1 : p ≤ P) (h2 : -p ≤ P) (h3 : q ≤ Q) (h4 : -q ≤ Q) : p * q ≤ P * Q ∧ -(p * q) ≤ P * Q := by
  have a1 := Int.mul_nonneg (show 0 ≤ P - p by lia) (show 0 ≤ Q + q by lia)
  have a2 := Int.mul_nonneg (show 0 ≤ P + p by lia) (show 0 ≤ Q - q by lia)
  have a3 := Int.mul_nonneg (show 0 ≤ P - p by lia) (show 0 ≤ Q - q by lia)
  have a4 := Int.mul_nonneg (show 0 ≤ P + p by lia) (show 0 ≤ Q + q by lia)
  constructor <;> grind
theorem nr_mul (hD : 0 < D) (hE : 0 < E) (hx : Nr x n D k) (hy : Nr y m E l) (a b : Int) (h1 : n ≤ a * D) (h2 : -n ≤ a * D) (h3 : m ≤ b * E) (h4 : -m ≤ b * E) (ha : 0 ≤ a) (ha' : a ≤ 20) (hb : 0 ≤ b) (hb' : b ≤ 20) (hk : 0 ≤ k) (hk' : k ≤ 1000000) (hl : 0 ≤ l) (hl' : l ≤ 1000000) : Nr (mul x y) (n * m) (D * E) (a * l + b * k + 2) := by
  have hu := tU_pos
  obtain ⟨bx, bx'⟩ := pr_bound hD hx.2 h1 h2
  obtain ⟨by1, by1'⟩ := pr_bound hE hy.2 h3 h4
  have hB : (0 : Int) < 8796093022208 * tU := by decide
  have g1 : (a * 8796093022208 + k) * tU ≤ 21 * (8796093022208 * tU) := by
    have := Int.mul_le_mul_of_nonneg_right (show a * 8796093022208 + k ≤ 21 * 8796093022208 by lia) (Int.le_of_lt hu)
    assumption
  have g2 : (b * 8796093022208 + l) * tU ≤ 21 * (8796093022208 * tU) := by
    have := Int.mul_le_mul_of_nonneg_right (show b * 8796093022208 + l ≤ 21 * 8796093022208 by lia) (Int.le_of_lt hu)
    assumption
  obtain ⟨q1, q2⟩ := mul_abs (Int.le_trans bx g1) (Int.le_trans bx' g1) (Int.le_trans by1 g2) (Int.le_trans by1' g2)
  have g3 : 21 * (8796093022208 * tU) * (21 * (8796093022208 * tU)) < 8796093022208 * tU * (9007199254740992 * tU) := by
    have := Int.mul_pos hB hB
    grind
  obtain ⟨f, n1, n2⟩ := mul_near hx.1 hy.1 (by lia) (by lia)
  refine ⟨f, ?_⟩
  generalize val (mul x y) = Z at *
  obtain ⟨fx, px1, px2⟩ := hx
  obtain ⟨fy, py1, py2⟩ := hy
  generalize val x = X at *
  generalize val y = Y at *
  clear bx bx' by1 by1' g1 g2 q1 q2 g3 fx fy f
  have hDE := Int.mul_pos hD hE
  -- the errors
  obtain ⟨e1, e2⟩ := mul_abs px1 (by grind) py1 (by grind)
  obtain ⟨f1, f2⟩ := mul_abs h1 h2 py1 (by grind)
  obtain ⟨g1, g2⟩ := mul_abs h3 h4 px1 (by grind)
  have s1 := Int.mul_le_mul_of_nonneg_left n1 (Int.le_of_lt hDE)
  have s2 := Int.mul_le_mul_of_nonneg_left n2 (Int.le_of_lt hDE)
  have hkl : k * l ≤ 8796093022208 := by
    have := Int.mul_le_mul hk' hl' hl (by decide)
    lia
  have hkl2 := Int.mul_le_mul_of_nonneg_right hkl (Int.le_of_lt (Int.mul_pos hDE (Int.mul_pos hu hu)))
  have f1' := Int.mul_le_mul_of_nonneg_right f1 (Int.le_of_lt hB)
  have f2' := Int.mul_le_mul_of_nonneg_right f2 (Int.le_of_lt hB)
  have g1' := Int.mul_le_mul_of_nonneg_right g1 (Int.le_of_lt hB)
  have g2' := Int.mul_le_mul_of_nonneg_right g2 (Int.le_of_lt hB)
  constructor
  · refine Int.le_of_mul_le_mul_left (a := 8796093022208 * tU) ?_ hB
    clear n1 n2 f1 f2 g1 g2 hkl px1 px2 py1 py2 h1 h2 h3 h4
    grind
  · refine Int.le_of_mul_le_mul_left (a := 8796093022208 * tU) ?_ hB
    clear n1 n2 f1 f2 g1 g2 hkl px1 px2 py1 py2 h1 h2 h3 h4
    grind
/-- a quotient by a whole number -/
theorem nr_divw (hD : 0 < D) (hx : Nr x n D k) (hy : Fn y) (c : Int) (hv : val y = c * (8796093022208 * tU)) (hc : 1 ≤ c) (h1 : n ≤ 500 * D) (h2 : -n ≤ 500 * D) (hk : 0 ≤ k) (hk' : k ≤ 1000000) : Nr (div x y) n (D * c) (k + 1) := by
  have hu := tU_pos
  have hB : (0 : Int) < 8796093022208 * tU := by decide
  have hcp : (0 : Int) < c := by assumption
  have hp : 0 < val y := by rw [hv]; exact Int.mul_pos hcp hB
  obtain ⟨b1, b2⟩ := pr_big hD hx.2 h1 h2 (by decide) hk'
  have hyB : 8796093022208 * tU ≤ val y := by
    rw [hv]
    have := Int.mul_le_mul_of_nonneg_right hc (Int.le_of_lt hB)
    assumption
  have hbig := Int.mul_le_mul_of_nonneg_right hyB (show 0 ≤ 9007199254740992 * tU by decide)
  have s1 := Int.mul_lt_mul_of_pos_right b1 hB
  have s2 := Int.mul_lt_mul_of_pos_right b2 hB
  rw [Int.mul_comm (9007199254740992 * tU)] at s1 s2
  rw [Int.neg_mul] at s2
  obtain ⟨f, n1, n2⟩ := div_near hx.1 hy hp (Int.lt_of_lt_of_le s1 hbig) (Int.lt_of_lt_of_le s2 hbig)
  refine ⟨f, ?_⟩
  obtain ⟨fx, px1, px2⟩ := hx
  rw [hv] at n1 n2
  generalize val (div x y) = Z at *
  generalize val x = X at *
  clear b1 b2 hyB hbig s1 s2 fx f hp hv
  have t1 := Int.mul_le_mul_of_nonneg_left n1 (Int.le_of_lt hD)
  have t2 := Int.mul_le_mul_of_nonneg_left n2 (Int.le_of_lt hD)
  have r1 := Int.mul_le_mul_of_nonneg_left px1 (Int.le_of_lt hB)
  have r2 := Int.mul_le_mul_of_nonneg_left px2 (Int.le_of_lt hB)
  have hkc : k * 1 ≤ k * c := Int.mul_le_mul_of_nonneg_left hc hk
  have hkc2 := Int.mul_le_mul_of_nonneg_right hkc (Int.le_of_lt (Int.mul_pos (Int.mul_pos hD hu) hB))
  constructor
  · refine Int.le_of_mul_le_mul_left (a := 8796093022208 * tU) ?_ hB
    clear n1 n2 px1 px2 hkc
    grind
  · refine Int.le_of_mul_le_mul_left (a := 8796093022208 * tU) ?_ hB
    clear n1 n2 px1 px2 hkc
    grind
/-- a quotient of two whole numbers of the same parts -/
theorem nr_dive (hx : Fn x) (hy : Fn y) (w : Int) (hw : 0 < w) (vx : val x = n * w) (vy : val y = m * w) (hm : 0 < m) (h1 : n ≤ 500 * m) (h2 : -n ≤ 500 * m) : Nr (div x y) n m 1 := by
  have hu := tU_pos
  have hB : (0 : Int) < 8796093022208 * tU := by decide
  have hp : 0 < val y := by rw [vy]; exact Int.mul_pos hm hw
  have hwB := Int.mul_pos hw hB
  have s1 := Int.mul_le_mul_of_nonneg_right h1 (Int.le_of_lt hwB)
  have s2 := Int.mul_le_mul_of_nonneg_right h2 (Int.le_of_lt hwB)
  have s3 := Int.mul_pos (Int.mul_pos hm hw) hu
  obtain ⟨f, n1, n2⟩ := div_near hx hy hp (by rw [vx, vy]; grind) (by rw [vx, vy]; grind)
  refine ⟨f, ?_⟩
  rw [vx, vy] at n1 n2
  constructor
  · refine Int.le_of_mul_le_mul_left (a := w) ?_ hw
    grind
  · refine Int.le_of_mul_le_mul_left (a := w) ?_ hw
    grind
/-- a number that is exact -/
theorem nr_of (hx : Fn x) (hD : 0 < D) (h : val x * D = n * (8796093022208 * tU)) : Nr x n D 0 := by
  refine ⟨hx, ?_, ?_⟩ <;> rw [h] <;> simp
end
end Mine
end
section
open PySem PySem.Float64
set_option linter.unusedVariables false
set_option exponentiation.threshold 3000
namespace Mine
theorem t31n : ((2 ^ 1031 : Nat) : Int) = tU := by rw [Int.natCast_pow]; rfl
section
variable {x y : UInt64} {n : Int}
theorem ex_of {r : UInt64} {neg : Bool} {W D : Nat} (h : Right r neg W D) (hD : 0 < D) (hn : n.natAbs < 2 ^ 53) (hW : sgn neg W = n * tU * D) : Fn r ∧ val r = n * tU := by
  have := exact_int h hD hn (Nat.le_refl 1031) (by rw [Int.natCast_mul, t31n, hW, Int.mul_assoc, Int.mul_comm (D : Int)])
  exact this
theorem ex_add (hx : Fn x) (hy : Fn y) (hn : n.natAbs < 2 ^ 53) (h : val x + val y = n * tU) : Fn (add x y) ∧ val (add x y) = n * tU := by
  obtain ⟨a, m, e, dx⟩ := hx
  obtain ⟨b, k, f, dy⟩ := hy
  obtain ⟨r0, r1⟩ := add_right dx dy
  by_cases h0 : val x + val y = 0
  · rw [r0 h0, ← h, h0]
    exact fn_zero (a && b)
  · refine ex_of (r1 h0) (by decide) hn ?_
    rw [sgn_own, h]; simp
theorem ex_sub (hx : Fn x) (hy : Fn y) (hn : n.natAbs < 2 ^ 53) (h : val x - val y = n * tU) : Fn (sub x y) ∧ val (sub x y) = n * tU := by
  obtain ⟨b, k, f, dy⟩ := hy
  have := ex_add (y := neg y) (n := n) hx ⟨_, _, _, neg_decode dy⟩ hn
  rw [neg_val dy, ← Int.sub_eq_add_neg] at this
  unfold Float64.sub
  exact this h
theorem ex_div (hx : Fn x) (hy : Fn y) (hp : 0 < val y) (hn : n.natAbs < 2 ^ 53) (h : val x * (8796093022208 * tU) = n * tU * val y) : Fn (div x y) ∧ val (div x y) = n * tU := by
  obtain ⟨a, m, e, dx⟩ := hx
  obtain ⟨b, k, f, dy⟩ := hy
  have hk : k ≠ 0 := by
    rintro rfl
    rw [val_eq dy] at hp
    unfold sgn at hp
    cases b <;> simp at hp
  have hb : b = false := by
    cases b
    · rfl
    · rw [val_eq dy] at hp
      unfold sgn at hp
      simp only [if_true] at hp
      omega
  subst hb
  have r := div_right dx dy hk
  have hn' : ((val y).natAbs : Int) = val y := by lia
  refine ex_of r (by lia) hn ?_
  rw [hn', ← h, sgn_mul, t74n, Bool.bne_false, val_natAbs dx, ← val_eq dx]
theorem cmp_fn (hx : Fn x) (hy : Fn y) : cmp x y = some (compare (val x) (val y)) := by
  obtain ⟨a, m, e, dx⟩ := hx
  obtain ⟨b, k, f, dy⟩ := hy
  exact cmp_right dx dy
theorem zero_fn (hx : Fn x) : isZero x = true ↔ val x = 0 := by
  obtain ⟨a, m, e, dx⟩ := hx
  have := val_natAbs dx
  unfold isZero
  rw [dx]
  have hp := Nat.two_pow_pos (e + 1074).toNat
  cases m with
  | zero => simp at this ⊢; omega
  | succ m =>
    have h2 := Nat.mul_pos (Nat.succ_pos m) hp
    rw [← this] at h2
    simp; omega
theorem fn_nan (hx : Fn x) : isNaN x = false := by
  obtain ⟨a, m, e, dx⟩ := hx
  unfold isNaN; rw [dx]
theorem fn_inf (hx : Fn x) : isInf x = false := by
  obtain ⟨a, m, e, dx⟩ := hx
  unfold isInf; rw [dx]
theorem fn_fin (hx : Fn x) : isFinite x = true := by
  obtain ⟨a, m, e, dx⟩ := hx
  unfold isFinite; rw [dx]
end
theorem fn_of {x : UInt64} (h : isFinite x = true) : Fn x := by
  unfold isFinite at h
  split at h
  · rename_i a m e d; exact ⟨a, m, e, d⟩
  · cases h
theorem fn_1 : Fn 4607182418800017408 ∧ val 4607182418800017408 = 1 * (8796093022208 * tU) := ⟨fn_of (by decide +kernel), by unfold tU; decide +kernel⟩
theorem fn_2 : Fn 4611686018427387904 ∧ val 4611686018427387904 = 2 * (8796093022208 * tU) := ⟨fn_of (by decide +kernel), by unfold tU; decide +kernel⟩
theorem fn_4 : Fn 4616189618054758400 ∧ val 4616189618054758400 = 4 * (8796093022208 * tU) := ⟨fn_of (by decide +kernel), by unfold tU; decide +kernel⟩
theorem fn_6 : Fn 4618441417868443648 ∧ val 4618441417868443648 = 6 * (8796093022208 * tU) := ⟨fn_of (by decide +kernel), by unfold tU; decide +kernel⟩
theorem fn_4096 : Fn 4661225614328463360 ∧ val 4661225614328463360 = 4096 * (8796093022208 * tU) := ⟨fn_of (by decide +kernel), by unfold tU; decide +kernel⟩
theorem fn_half : Fn 4602678819172646912 ∧ val 4602678819172646912 = 4398046511104 * tU := ⟨fn_of (by decide +kernel), by unfold tU; decide +kernel⟩
theorem fn_0 : Fn 0 ∧ val 0 = 0 := ⟨fn_of (by decide +kernel), by decide +kernel⟩
theorem fn_int (i : Int) (h : i.natAbs < 1024) : Fn (ofInt i) ∧ val (ofInt i) = i * (8796093022208 * tU) := by
  have := ex_of (n := i * 8796093022208) (ofInt_right i) (by decide) (by omega) (by rw [sgn_mul, sgn_own, t74n]; grind)
  rw [Int.mul_assoc] at this
  exact this
/-- a paint's part is exact -/
theorem fn_fl (r : Int) (h : r.natAbs < 1024) : Fn (fl r) ∧ val (fl r) = r * (2147483648 * tU) := by
  obtain ⟨f, v⟩ := fn_int r h
  have hu := tU_pos
  have := ex_div (n := r * 2147483648) f fn_4096.1 (by rw [fn_4096.2]; decide) (by omega) (by rw [v, fn_4096.2]; grind)
  rw [Int.mul_assoc] at this
  exact this
theorem compare_mul (a b c : Int) (hc : 0 < c) : compare (a * c) (b * c) = compare a b := by
  rcases Int.lt_trichotomy a b with h | h | h
  · rw [Int.compare_eq_lt.mpr h, Int.compare_eq_lt.mpr (Int.mul_lt_mul_of_pos_right h hc)]
  · subst h; simp
  · rw [Int.compare_eq_gt.mpr h, Int.compare_eq_gt.mpr (Int.mul_lt_mul_of_pos_right h hc)]
theorem cmp_fl (a b : Int) (ha : a.natAbs < 1024) (hb : b.natAbs < 1024) : cmp (fl a) (fl b) = some (compare a b) := by
  obtain ⟨fa, va⟩ := fn_fl a ha
  obtain ⟨fb, vb⟩ := fn_fl b hb
  have hu := tU_pos
  rw [cmp_fn fa fb, va, vb, compare_mul _ _ _ (by decide)]
theorem lt_fl (a b : Int) (ha : a.natAbs < 1024) (hb : b.natAbs < 1024) : (cmp (fl a) (fl b) == some .lt) = true ↔ a < b := by
  rw [cmp_fl a b ha hb]; simp [Int.compare_eq_lt]
theorem eq_fl (a b : Int) (ha : a.natAbs < 1024) (hb : b.natAbs < 1024) : (cmp (fl a) (fl b) == some .eq) = true ↔ a = b := by
  rw [cmp_fl a b ha hb]; simp
theorem max3_fl (a b c : Int) (ha : a.natAbs < 1024) (hb : b.natAbs < 1024) (hc : c.natAbs < 1024) : max3 (fl a) (fl b) (fl c) = fl (mx3 a b c) := by
  unfold max3 mx3
  simp only [lt_fl a b ha hb]
  by_cases h : a < b
  · simp only [h, if_true, lt_fl b c hb hc, gt_iff_lt]
    split <;> rfl
  · simp only [h, if_false, lt_fl a c ha hc, gt_iff_lt]
    split <;> rfl
theorem min3_fl (a b c : Int) (ha : a.natAbs < 1024) (hb : b.natAbs < 1024) (hc : c.natAbs < 1024) : min3 (fl a) (fl b) (fl c) = fl (mn3 a b c) := by
  unfold min3 mn3
  simp only [lt_fl b a hb ha]
  by_cases h : b < a
  · simp only [h, if_true, lt_fl c b hc hb]
    split <;> rfl
  · simp only [h, if_false, lt_fl c a hc ha]
    split <;> rfl
end Mine
end
section
open PySem PySem.Float64
set_option linter.unusedVariables false
set_option exponentiation.threshold 3000
namespace Mine
theorem dec_1 : decode 4607182418800017408 = .fin false (2 ^ 52) (-52) := by with_unfolding_all rfl
theorem fmod_right {x : UInt64} {a : Bool} {m : Nat} {e : Int} (hx : decode x = .fin a m e) : Right (fmod x 4607182418800017408) a ((val x).natAbs % 2 ^ 1074) 1 := by
  have he := decode_ge hx
  have h : fmod x 4607182418800017408 = ofBin a (m * 2 ^ (e - min e (-52)).toNat % (2 ^ 52 * 2 ^ (-52 - min e (-52)).toNat)) (min e (-52)) := by
    unfold fmod
    rw [hx, dec_1]
    rfl
  rw [h]
  unfold ofBin
  refine ofFrac_right (shift_pos _ _ _ (by decide)) ?_ (by decide)
  have := shift_one (m * 2 ^ (e - min e (-52)).toNat % (2 ^ 52 * 2 ^ (-52 - min e (-52)).toNat)) (min e (-52)) 1074 (by omega)
  rw [Nat.mul_one]
  refine this.trans ?_
  congr 1
  rw [val_natAbs hx, ← Nat.mul_mod_mul_right]
  have e1 : m * 2 ^ (e - min e (-52)).toNat * 2 ^ (min e (-52) + ((1074 : Nat) : Int)).toNat = m * 2 ^ (e + 1074).toNat := by
    rw [Nat.mul_assoc, ← Nat.pow_add]; congr 2; (clear hx he h this; lia)
  have e2 : 2 ^ 52 * 2 ^ (-52 - min e (-52)).toNat * 2 ^ (min e (-52) + ((1074 : Nat) : Int)).toNat = 2 ^ 1074 := by
    rw [← Nat.pow_add, ← Nat.pow_add]; congr 1; omega
  rw [e1, e2]
theorem lt_zero {x : UInt64} (hx : Fn x) : lt x (zero false) = true ↔ val x < 0 := by
  unfold lt
  rw [cmp_fn hx (fn_zero false).1, (fn_zero false).2]
  simp [Int.compare_eq_lt]
/-- what x % 1.0 gives -/
theorem mod_near {x : UInt64} (hx : Fn x) : ∃ z : Int, Fn (divmod x 4607182418800017408).snd ∧ val (divmod x 4607182418800017408).snd - (val x - z * (8796093022208 * tU)) ≤ 2 * tU ∧ val x - z * (8796093022208 * tU) - val (divmod x 4607182418800017408).snd ≤ 2 * tU ∧
    -(2 * tU) ≤ val (divmod x 4607182418800017408).snd ∧ val (divmod x 4607182418800017408).snd ≤ 8796093022208 * tU + 2 * tU := by
  obtain ⟨a, m, e, dx⟩ := hx
  have hu := tU_pos
  have r := fmod_right dx
  have hmod : (((val x).natAbs % 2 ^ 1074 : Nat) : Int) < 8796093022208 * tU := by
    rw [← t74n]; exact Int.ofNat_lt.mpr (Nat.mod_lt _ (Nat.two_pow_pos _))
  have hmod0 : (0 : Int) ≤ (((val x).natAbs % 2 ^ 1074 : Nat) : Int) := Int.natCast_nonneg _
  have hq : ((val x).natAbs : Int) = 8796093022208 * tU * ((val x).natAbs / 2 ^ 1074 : Nat) + ((val x).natAbs % 2 ^ 1074 : Nat) := by
    rw [← t74n, ← Int.natCast_mul, ← Int.natCast_add, Nat.div_add_mod]
  obtain ⟨fm, n1, n2⟩ := near_u r (by decide) (by lia)
  have hs : sgn a (val x).natAbs = val x := by rw [val_natAbs dx, ← val_eq dx]
  have dm : (divmod x 4607182418800017408).snd = (if isZero (fmod x 4607182418800017408) then copysign (zero false) 4607182418800017408 else if lt 4607182418800017408 (zero false) != lt (fmod x 4607182418800017408) (zero false) then add (fmod x 4607182418800017408) 4607182418800017408 else fmod x 4607182418800017408) := by
    unfold divmod
    simp only
    split
    · rfl
    · split <;> rfl
  have hcs : copysign (zero false) 4607182418800017408 = zero false := by decide +kernel
  have hl1 : lt 4607182418800017408 (zero false) = false := by decide +kernel
  rw [dm, hcs, hl1]
  generalize fmod x 4607182418800017408 = M at *
  generalize (val x).natAbs % 2 ^ 1074 = w at *
  generalize (val x).natAbs / 2 ^ 1074 = q at *
  generalize (val x).natAbs = p at *
  clear dm hcs hl1 r
  obtain ⟨z0, z1⟩ := fn_zero false
  by_cases h0 : isZero M = true
  · rw [if_pos h0, z1]
    have v0 := (zero_fn fm).mp h0
    rw [v0] at n1 n2
    unfold sgn at n1 n2 hs
    cases a
    · refine ⟨q, z0, ?_, ?_, ?_, ?_⟩ <;> simp at n1 n2 hs <;> grind
    · refine ⟨-q, z0, ?_, ?_, ?_, ?_⟩ <;> simp at n1 n2 hs <;> grind
  · rw [if_neg h0]
    have v0 : val M ≠ 0 := fun h => h0 ((zero_fn fm).mpr h)
    by_cases hl : val M < 0
    · have hl2 := (lt_zero fm).mpr hl
      rw [hl2]
      simp only [Bool.bne_true, Bool.not_false, if_true]
      have b1 : -tU ≤ val M + 8796093022208 * tU ∧ - (val M + 8796093022208 * tU) ≤ tU := by
        unfold sgn at n1 n2
        cases a <;> simp at n1 n2 <;> lia
      obtain ⟨fa, a1, a2⟩ := add_near fm fn_1.1 (by rw [fn_1.2]; lia) (by rw [fn_1.2]; lia)
      rw [fn_1.2] at a1 a2
      generalize val (add M 4607182418800017408) = R at *
      unfold sgn at n1 n2 hs
      cases a
      · refine ⟨q - 1, fa, ?_, ?_, ?_, ?_⟩ <;> simp at n1 n2 hs <;> grind
      · refine ⟨-q - 1, fa, ?_, ?_, ?_, ?_⟩ <;> simp at n1 n2 hs <;> grind
    · have hl2 : lt M (zero false) = false := by
        cases h : lt M (zero false)
        · rfl
        · exact absurd ((lt_zero fm).mp h) hl
      rw [hl2]
      simp only [bne_self_eq_false, Bool.false_eq_true, if_false]
      unfold sgn at n1 n2 hs
      cases a
      · refine ⟨q, fm, ?_, ?_, ?_, ?_⟩ <;> simp at n1 n2 hs <;> grind
      · refine ⟨-q, fm, ?_, ?_, ?_, ?_⟩ <;> simp at n1 n2 hs <;> grind
theorem nr_mod {x : UInt64} {n D k : Int} (hD : 0 < D) (hx : Nr x n D k) (hs : (k + 4) * D < 8796093022208) : ∃ z : Int, Nr (divmod x 4607182418800017408).snd (n - z * D) D (k + 2) ∧ 0 ≤ n - z * D ∧ n - z * D ≤ D := by
  obtain ⟨z, f, a1, a2, b1, b2⟩ := mod_near hx.1
  obtain ⟨fx, p1, p2⟩ := hx
  have hu := tU_pos
  refine ⟨z, ⟨f, ?_⟩, ?_⟩ <;> clear f fx
  all_goals generalize val (divmod x 4607182418800017408).snd = R at *
  all_goals generalize val x = X at *
  all_goals have c1 := Int.mul_le_mul_of_nonneg_left a1 (Int.le_of_lt hD)
  all_goals have c2 := Int.mul_le_mul_of_nonneg_left a2 (Int.le_of_lt hD)
  all_goals have d1 := Int.mul_le_mul_of_nonneg_left b1 (Int.le_of_lt hD)
  all_goals have d2 := Int.mul_le_mul_of_nonneg_left b2 (Int.le_of_lt hD)
  all_goals have q1 : R * D - (n - z * D) * (8796093022208 * tU) ≤ (k + 2) * D * tU := by grind
  all_goals have q2 : (n - z * D) * (8796093022208 * tU) - R * D ≤ (k + 2) * D * tU := by grind
  · exact ⟨q1, q2⟩
  refine ⟨?_, ?_⟩
  · generalize n - z * D = N at *
    clear c1 c2 a1 a2 p1 p2
    have g : (-N * 8796093022208) * tU ≤ ((k + 4) * D) * tU := by grind
    have := Int.le_of_mul_le_mul_right g hu
    lia
  · generalize n - z * D = N at *
    clear c1 c2 a1 a2 p1 p2
    have g : ((N - D) * 8796093022208) * tU ≤ ((k + 4) * D) * tU := by grind
    have := Int.le_of_mul_le_mul_right g hu
    lia
/-- what int gives of what is near n / D -/
theorem nr_int {x : UInt64} {n D k : Int} (hD : 0 < D) (hx : Nr x n D k) (hn : k * D < n * 8796093022208) (hs : k * D < 8796093022208) :
    0 ≤ Flt.toInt truncOf x ∧ Flt.toInt truncOf x * D ≤ n ∧ n ≤ (Flt.toInt truncOf x + 1) * D := by
  obtain ⟨f, p1, p2⟩ := hx
  have hu := tU_pos
  have h0 : 0 ≤ val x := by
    refine Int.le_of_mul_le_mul_right (a := D) ?_ hD
    have := Int.mul_lt_mul_of_pos_right hn hu
    grind
  obtain ⟨i1, i2⟩ := int_near f h0
  generalize Flt.toInt truncOf x = i at *
  generalize val x = X at *
  have j1 := Int.mul_le_mul_of_nonneg_left i1 (Int.le_of_lt hD)
  have j2 := Int.mul_lt_mul_of_pos_left i2 hD
  refine ⟨?_, ?_, ?_⟩
  · have hB : (0 : Int) < 8796093022208 * tU := by decide
    have : (0 : Int) * (8796093022208 * tU) < (i + 1) * (8796093022208 * tU) := by grind
    have := Int.lt_of_mul_lt_mul_right this (Int.le_of_lt hB)
    lia
  · have g : ((i * D - n) * 8796093022208) * tU ≤ (k * D) * tU := by grind
    have := Int.le_of_mul_le_mul_right g hu
    lia
  · have g : ((n - (i + 1) * D) * 8796093022208) * tU ≤ (k * D) * tU := by grind
    have := Int.le_of_mul_le_mul_right g hu
    lia
end Mine
end
section
open PySem PySem.Float64
set_option linter.unusedVariables false
set_option exponentiation.threshold 3000
namespace Mine
/-- the hue's counter: the sixths, times the spread -/
noncomputable def hn (r g b : Int) : Int :=
  if r = mx3 r g b then g - b else if g = mx3 r g b then 2 * (mx3 r g b - mn3 r g b) + b - r else 4 * (mx3 r g b - mn3 r g b) + r - g
theorem abs_1024 {x : Int} (h : 0 ≤ x) (h' : x ≤ 500) : x.natAbs < 1024 := by lia
/-- the hue and the share of a paint that is no grey -/
theorem hsv_near {r g b : Int} (h : PBnd 500 (r, g, b)) (hK : mn3 r g b < mx3 r g b) :
    HsvOk (fl r) (fl g) (fl b) ∧ (∃ z : Int, Nr (hsvF (fl r) (fl g) (fl b)).1 (hn r g b - z * ((mx3 r g b - mn3 r g b) * 6)) ((mx3 r g b - mn3 r g b) * 6) 7 ∧ 0 ≤ hn r g b - z * ((mx3 r g b - mn3 r g b) * 6) ∧ hn r g b - z * ((mx3 r g b - mn3 r g b) * 6) ≤ (mx3 r g b - mn3 r g b) * 6) ∧
      Nr (hsvF (fl r) (fl g) (fl b)).2.1 (mx3 r g b - mn3 r g b) (mx3 r g b) 1 ∧ (hsvF (fl r) (fl g) (fl b)).2.2 = fl (mx3 r g b) := by
  have hu := tU_pos
  unfold PBnd at h
  dsimp only at h
  obtain ⟨o1, o2, o3, o4⟩ := mx_or r g b
  have er : r.natAbs < 1024 := abs_1024 h.1.1 h.1.2
  have eg : g.natAbs < 1024 := abs_1024 h.2.1.1 h.2.1.2
  have eb : b.natAbs < 1024 := abs_1024 h.2.2.1 h.2.2.2
  obtain ⟨hm0, hM5⟩ := bnd_mx (r := r) (g := g) (b := b) h
  have eM : (mx3 r g b).natAbs < 1024 := abs_1024 (Int.le_trans hm0 (mn_le_mx r g b)) hM5
  have em : (mn3 r g b).natAbs < 1024 := abs_1024 hm0 (Int.le_trans (mn_le_mx r g b) hM5)
  have x3 := max3_fl r g b er eg eb
  have n3 := min3_fl r g b er eg eb
  have cr : ((cmp (fl r) (fl (mx3 r g b)) == some .eq) = true) ↔ r = mx3 r g b := eq_fl _ _ er eM
  have cg : ((cmp (fl g) (fl (mx3 r g b)) == some .eq) = true) ↔ g = mx3 r g b := eq_fl _ _ eg eM
  have cm : (cmp (fl (mn3 r g b)) (fl (mx3 r g b)) == some .eq) = false := by
    have := eq_fl (mn3 r g b) (mx3 r g b) em eM
    cases hh : (cmp (fl (mn3 r g b)) (fl (mx3 r g b)) == some .eq)
    · rfl
    · have := this.mp hh; omega
  have hh : hsvF (fl r) (fl g) (fl b) = ((divmod (div (if (cmp (fl r) (fl (mx3 r g b)) == some .eq) = true then sub (div (sub (fl (mx3 r g b)) (fl b)) (sub (fl (mx3 r g b)) (fl (mn3 r g b)))) (div (sub (fl (mx3 r g b)) (fl g)) (sub (fl (mx3 r g b)) (fl (mn3 r g b)))) else if (cmp (fl g) (fl (mx3 r g b)) == some .eq) = true then sub (add 4611686018427387904 (div (sub (fl (mx3 r g b)) (fl r)) (sub (fl (mx3 r g b)) (fl (mn3 r g b))))) (div (sub (fl (mx3 r g b)) (fl b)) (sub (fl (mx3 r g b)) (fl (mn3 r g b)))) else sub (add 4616189618054758400 (div (sub (fl (mx3 r g b)) (fl g)) (sub (fl (mx3 r g b)) (fl (mn3 r g b))))) (div (sub (fl (mx3 r g b)) (fl r)) (sub (fl (mx3 r g b)) (fl (mn3 r g b))))) 4618441417868443648) 4607182418800017408).snd, div (sub (fl (mx3 r g b)) (fl (mn3 r g b))) (fl (mx3 r g b)), fl (mx3 r g b)) := by
    unfold hsvF
    rw [x3, n3, cm]
    rfl
  have ehn : hn r g b = if r = mx3 r g b then g - b else if g = mx3 r g b then 2 * (mx3 r g b - mn3 r g b) + b - r else 4 * (mx3 r g b - mn3 r g b) + r - g := rfl
  have hok : HsvOk (fl r) (fl g) (fl b) ↔ (¬ isZero (fl (mx3 r g b)) = true ∧ ¬ isZero (sub (fl (mx3 r g b)) (fl (mn3 r g b))) = true) := by
    unfold HsvOk
    rw [x3, n3, cm]
    simp
  rw [hok, hh, ehn]
  obtain ⟨fr, vr⟩ := fn_fl r er
  obtain ⟨fg, vg⟩ := fn_fl g eg
  obtain ⟨fb, vb⟩ := fn_fl b eb
  obtain ⟨fM, vM⟩ := fn_fl _ eM
  obtain ⟨fm, vm⟩ := fn_fl _ em
  generalize mx3 r g b = M at *
  generalize mn3 r g b = m at *
  clear hh ehn hok x3 n3 cm
  obtain ⟨fR, vR⟩ := ex_sub (n := (M - m) * 2147483648) fM fm (by grind) (by rw [vM, vm]; grind)
  obtain ⟨f1, v1⟩ := ex_sub (n := (M - r) * 2147483648) fM fr (by omega) (by rw [vM, vr]; grind)
  obtain ⟨f2, v2⟩ := ex_sub (n := (M - g) * 2147483648) fM fg (by omega) (by rw [vM, vg]; grind)
  obtain ⟨f3, v3⟩ := ex_sub (n := (M - b) * 2147483648) fM fb (by lia) (by rw [vM, vb]; grind)
  rw [Int.mul_assoc] at vR v1 v2 v3
  have hw : 0 < 2147483648 * tU := by decide
  have hK' : 0 < M - m := by (clear h hu er eg eb fr vr fg vg fb vb o1 o3 hM5 eM cr cg fM vM o2 o4 hm0 em fm vm fR vR f1 v1 f2 v2 f3 v3 hw; lia)
  have d1 := nr_dive f1 fR _ hw v1 vR hK' (by (clear h hu er eg eb fr vr fg vg fb vb o3 hM5 eM cr cg fM vM o4 hm0 em fm vm hK fR vR f1 v1 f2 v2 f3 v3 hw hK'; lia)) (by (clear h hu er eg eb fr vr fg vg fb vb o3 hM5 eM cr cg fM vM o4 hm0 em fm vm hK fR vR f1 v1 f2 v2 f3 v3 hw hK'; lia))
  have d2 := nr_dive f2 fR _ hw v2 vR hK' (by (clear h hu er eg eb fr vr fg vg fb vb o3 hM5 eM cr cg fM vM o4 hm0 em fm vm hK fR vR f1 v1 f2 v2 f3 v3 hw hK' d1; lia)) (by (clear h hu er eg eb fr vr fg vg fb vb o3 hM5 eM cr cg fM vM o4 hm0 em fm vm hK fR vR f1 v1 f2 v2 f3 v3 hw hK' d1; lia))
  have d3 := nr_dive f3 fR _ hw v3 vR hK' (by (clear h hu er eg eb fr vr fg vg fb vb o3 hM5 eM cr cg fM vM o4 hm0 em fm vm hK fR vR f1 v1 f2 v2 f3 v3 hw hK' d1 d2; lia)) (by lia)
  have dS := nr_dive fR fM _ hw vR vM (by lia) (by lia) (by lia)
  have c2 : Nr 4611686018427387904 (2 * (M - m)) (M - m) 0 := nr_of fn_2.1 hK' (by rw [fn_2.2]; grind)
  have c4 : Nr 4616189618054758400 (4 * (M - m)) (M - m) 0 := nr_of fn_4.1 hK' (by rw [fn_4.2]; grind)
  refine ⟨⟨fun z => ?_, fun z => ?_⟩, ?_, dS, rfl⟩
  · have := (zero_fn fM).mp z
    rw [vM] at this
    have := Int.mul_pos (show 0 < M by lia) hw
    lia
  · have := (zero_fn fR).mp z
    rw [vR] at this
    have := Int.mul_pos hK' hw
    (clear h hu er eg eb fr vr fg vg fb vb o1 o3 hM5 eM cr cg fM vM o2 o4 hm0 em fm vm hK fR vR f1 v1 f2 v2 f3 v3 hw hK' d1 d2 d3 dS c2 c4 z; lia)
  · dsimp only
    generalize div (sub (fl M) (fl r)) (sub (fl M) (fl m)) = x1 at *
    generalize div (sub (fl M) (fl g)) (sub (fl M) (fl m)) = x2 at *
    generalize div (sub (fl M) (fl b)) (sub (fl M) (fl m)) = x3 at *
    have key : Nr (if (cmp (fl r) (fl M) == some .eq) = true then sub x3 x2 else if (cmp (fl g) (fl M) == some .eq) = true then sub (add 4611686018427387904 x1) x3 else sub (add 4616189618054758400 x2) x1) (if r = M then g - b else if g = M then 2 * (M - m) + b - r else 4 * (M - m) + r - g) (M - m) 4 := by
      by_cases h1 : r = M
      · rw [if_pos (cr.mpr h1), if_pos h1]
        have := nr_mono hK' (nr_sub hK' d3 d2 10 (by (clear h hu er eg eb fr vr fg vg fb vb o3 hM5 eM cr cg fM vM o4 hm0 em fm vm hK fR vR f1 v1 f2 v2 f3 v3 hw hK' dS c2 c4 d1 d2 d3 h1; lia)) (by (clear h hu er eg eb fr vr fg vg fb vb o3 hM5 eM cr cg fM vM o4 hm0 em fm vm hK fR vR f1 v1 f2 v2 f3 v3 hw hK' dS c2 c4 d1 d2 d3 h1; lia)) (by decide) (by decide)) (l := 4) (by decide)
        rwa [show M - b - (M - g) = g - b by simp +arith] at this
      · rw [if_neg (fun h => h1 (cr.mp h)), if_neg h1]
        by_cases h2 : g = M
        · rw [if_pos (cg.mpr h2), if_pos h2]
          have := nr_sub hK' (nr_add hK' c2 d1 10 (by (clear h hu er eg eb fr vr fg vg fb vb o3 hM5 eM cr cg fM vM o4 hm0 em fm vm hK fR vR f1 v1 f2 v2 f3 v3 hw hK' dS c2 c4 d1 d2 d3 h1 h2; lia)) (by (clear h hu er eg eb fr vr fg vg fb vb o3 hM5 eM cr cg fM vM o4 hm0 em fm vm hK fR vR f1 v1 f2 v2 f3 v3 hw hK' dS c2 c4 d1 d2 d3 h1 h2; lia)) (by decide) (by decide)) d3 10 (by (clear h hu er eg eb fr vr fg vg fb vb o3 hM5 eM cr cg fM vM o4 hm0 em fm vm hK fR vR f1 v1 f2 v2 f3 v3 hw hK' dS c2 c4 d1 d2 d3 h1 h2; lia)) (by (clear h hu er eg eb fr vr fg vg fb vb o3 hM5 eM cr cg fM vM o4 hm0 em fm vm hK fR vR f1 v1 f2 v2 f3 v3 hw hK' dS c2 c4 d1 d2 d3 h1 h2; lia)) (by decide) (by decide)
          rwa [show 2 * (M - m) + (M - r) - (M - b) = 2 * (M - m) + b - r by simp +arith] at this
        · rw [if_neg (fun h => h2 (cg.mp h)), if_neg h2]
          have := nr_sub hK' (nr_add hK' c4 d2 10 (by (clear h hu er eg eb fr vr fg vg fb vb o3 hM5 eM cr cg fM vM o4 hm0 em fm vm hK fR vR f1 v1 f2 v2 f3 v3 hw hK' dS c2 c4 d1 d2 d3 h1 h2; lia)) (by (clear h hu er eg eb fr vr fg vg fb vb o3 hM5 eM cr cg fM vM o4 hm0 em fm vm hK fR vR f1 v1 f2 v2 f3 v3 hw hK' dS c2 c4 d1 d2 d3 h1 h2; lia)) (by decide) (by decide)) d1 10 (by (clear h hu er eg eb fr vr fg vg fb vb o3 hM5 eM cr cg fM vM o4 hm0 em fm vm hK fR vR f1 v1 f2 v2 f3 v3 hw hK' dS c2 c4 d1 d2 d3 h1 h2; lia)) (by (clear h hu er eg eb fr vr fg vg fb vb o3 hM5 eM cr cg fM vM o4 hm0 em fm vm hK fR vR f1 v1 f2 v2 f3 v3 hw hK' dS c2 c4 d1 d2 d3 h1 h2; lia)) (by decide) (by decide)
          rwa [show 4 * (M - m) + (M - g) - (M - r) = 4 * (M - m) + r - g by simp +arith] at this
    have b1 : -(10 * (M - m)) ≤ (if r = M then g - b else if g = M then 2 * (M - m) + b - r else 4 * (M - m) + r - g) ∧ (if r = M then g - b else if g = M then 2 * (M - m) + b - r else 4 * (M - m) + r - g) ≤ 10 * (M - m) := by
      repeat' split
      all_goals omega
    generalize (if r = M then g - b else if g = M then 2 * (M - m) + b - r else 4 * (M - m) + r - g) = H at *
    exact nr_mod (by (clear h hu er eg eb fr vr fg vg fb vb o1 o3 hM5 eM cr cg fM vM o2 o4 hm0 em fm vm fR vR f1 v1 f2 v2 f3 v3 hw hK' dS c2 c4 d1 d2 d3 key b1; lia)) (nr_divw hK' key fn_6.1 6 fn_6.2 (by decide) (by (clear h hu er eg eb fr vr fg vg fb vb o1 o3 hM5 eM cr cg fM vM o2 o4 hm0 em fm vm hK fR vR f1 v1 f2 v2 f3 v3 hw hK' dS c2 c4 d1 d2 d3 key; lia)) (by (clear h hu er eg eb fr vr fg vg fb vb o1 o3 hM5 eM cr cg fM vM o2 o4 hm0 em fm vm hK fR vR f1 v1 f2 v2 f3 v3 hw hK' dS c2 c4 d1 d2 d3 key; lia)) (by decide) (by decide)) (by lia)
end Mine
end
section
open PySem PySem.Float64
set_option linter.unusedVariables false
set_option exponentiation.threshold 3000
namespace Mine
/-- a part times 4096 -/
theorem nr_up {x : UInt64} {n k : Int} (hx : Nr x n 4096 k) (h0 : 0 ≤ n) (h1 : n ≤ 450) (hk0 : 0 ≤ k) (hk : k ≤ 200) : Nr (mul x 4661225614328463360) n 1 (k * 4096 + 1) := by
  obtain ⟨f, p1, p2⟩ := hx
  have hu := tU_pos
  have hB : (0 : Int) < 8796093022208 * tU := by decide
  have n1 := Int.mul_le_mul_of_nonneg_right h1 (Int.le_of_lt hB)
  have n0 := Int.mul_nonneg h0 (Int.le_of_lt hB)
  have k1 := Int.mul_le_mul_of_nonneg_right hk (Int.le_of_lt hu)
  have e : val x * val 4661225614328463360 = val x * 4096 * (8796093022208 * tU) := by rw [fn_4096.2, Int.mul_assoc]
  have b1 : val x * 4096 < 9007199254740992 * tU := by
    generalize val x = X at *
    grind
  have b2 : -(val x * 4096) < 9007199254740992 * tU := by
    generalize val x = X at *
    grind
  have c1 := Int.mul_lt_mul_of_pos_right b1 hB
  have c2 := Int.mul_lt_mul_of_pos_right b2 hB
  obtain ⟨g, m1, m2⟩ := mul_near f fn_4096.1 (by rw [e]; grind) (by rw [e]; grind)
  rw [e] at m1 m2
  refine ⟨g, ?_⟩
  unfold Pr
  generalize val (mul x 4661225614328463360) = Z at *
  generalize val x = X at *
  have q1 : Z - X * 4096 ≤ tU := by
    refine Int.le_of_mul_le_mul_right (a := 8796093022208 * tU) ?_ hB
    clear c1 c2 n1 n0 k1 p1 p2
    grind
  have q2 : X * 4096 - Z ≤ tU := by
    refine Int.le_of_mul_le_mul_right (a := 8796093022208 * tU) ?_ hB
    clear c1 c2 n1 n0 k1 p1 p2
    grind
  have e3 : (k * 4096 + 1) * 1 * tU = k * 4096 * tU + tU := by grind
  refine ⟨?_, ?_⟩ <;> rw [e3, Int.mul_one] <;> grind
theorem part_of {x : UInt64} {n k : Int} (hx : Nr x n 4096 k) (h0 : 0 ≤ n) (h1 : n ≤ 450) (hk0 : 0 ≤ k) (hk : k ≤ 200) : Part x n := by
  have hu := nr_scale (D' := 2) (n' := 2 * n) (by decide) (by decide) (by simp +arith) (nr_up hx h0 h1 hk0 hk)
  have hh : Nr 4602678819172646912 1 2 0 := nr_of fn_half.1 (by decide) (by rw [fn_half.2]; decide)
  have ha := nr_add (by decide) hu hh 460 (by lia) (by lia) (by decide) (by (clear hx h0 h1 hk0 hu hh; lia))
  refine ⟨fn_nan ha.1, fn_inf ha.1, ?_⟩
  obtain ⟨i0, i1, i2⟩ := nr_int (by decide) ha (by (clear hx h1 hk0 hu hh ha; lia)) (by (clear hx h0 h1 hk0 hu hh ha; lia))
  unfold ci
  lia
/-- what hsv_to_rgb gives -/
noncomputable def out (j M m F : Int) : P3 :=
  if j = 0 then (M, m + F, m) else if j = 1 then (M - F, M, m) else if j = 2 then (m, M, m + F) else if j = 3 then (m, M - F, M) else if j = 4 then (m + F, m, M) else (M, m, M - F)
theorem rgb_near {x y : UInt64} {M m S : Int} (h0 : 0 ≤ m) (hm : m < M) (hM : M ≤ 450) (hx : Nr x S ((M - m) * 6) 9) (hS : 3 * (M - m) ≤ S) (hS' : S ≤ 14 * (M - m)) (hy : Nr y (M - m) M 1) :
    RgbOk x y (fl M) ∧ ∃ i : Int, i * (M - m) ≤ S ∧ S ≤ (i + 1) * (M - m) ∧ ∀ U V W, (U, V, W) = rgbF x y (fl M) →
      Part U (out (i.fmod 6) M m (S - i * (M - m))).1 ∧ Part V (out (i.fmod 6) M m (S - i * (M - m))).2.1 ∧ Part W (out (i.fmod 6) M m (S - i * (M - m))).2.2 := by
  have hu := tU_pos
  have hK : 0 < M - m := by lia
  have hM0 : 0 < M := by lia
  have hKM : M - m ≤ M := by (clear hm hM hx hS hS' hy hu hK hM0; lia)
  have hK4 : M - m ≤ 450 := by (clear hm hx hS hS' hy hu hK hM0 hKM; lia)
  have eK : m = M - (M - m) := by simp +arith
  generalize M - m = K at *
  subst eK
  have c6 : Nr 4618441417868443648 6 1 0 := nr_of fn_6.1 (by decide) (by rw [fn_6.2]; decide)
  have h6 := nr_mul (by lia) (by decide) hx c6 3 6 (by (clear hM hu hM0 hx hy hK hKM hK4 h0 hm c6; lia)) (by (clear hM hu hM0 hx hy hK hKM hK4 h0 hm c6; lia)) (by decide) (by decide) (by decide) (by decide) (by decide) (by decide) (by decide) (by decide) (by decide) (by decide)
  have h6' := nr_scale (D' := K) (n' := S) (by (clear hM hu hM0 hx hS hS' hy hKM hK4 h0 hm c6 h6; lia)) hK (by grind) h6
  obtain ⟨i0, i1, i2⟩ := nr_int hK h6' (by lia) (by omega)
  have hc : (cmp y 0 == some .eq) = false := by
    have v : 0 < val y := by
      obtain ⟨_, p1, p2⟩ := hy
      refine Int.lt_of_mul_lt_mul_right (a := M) ?_ (Int.le_of_lt hM0)
      have a1 := Int.mul_le_mul_of_nonneg_right (show M ≤ 450 by omega) (Int.le_of_lt hu)
      have a2 := Int.mul_le_mul_of_nonneg_right (show 1 ≤ K by assumption) (show 0 ≤ 8796093022208 * tU by decide)
      grind
    rw [cmp_fn hy.1 fn_0.1, fn_0.2, Int.compare_eq_gt.mpr v]; rfl
  have hi : iH x = Flt.toInt truncOf (mul x 4618441417868443648) := rfl
  have i14 : Flt.toInt truncOf (mul x 4618441417868443648) ≤ 14 := by
    have : Flt.toInt truncOf (mul x 4618441417868443648) * K ≤ 14 * K := Int.le_trans i1 hS'
    exact Int.le_of_mul_le_mul_right this hK
  refine ⟨fun _ => ⟨fn_fin h6.1, by rw [hi]; lia⟩, ?_⟩
  refine ⟨iH x, by rw [hi]; exact i1, by rw [hi]; exact i2, ?_⟩
  intro U V W hr
  unfold rgbF at hr
  rw [if_neg (by rw [hc]; simp)] at hr
  rw [hi] at hr ⊢
  generalize Flt.toInt truncOf (mul x 4618441417868443648) = i at *
  obtain ⟨fi, vi⟩ := fn_int i (by lia)
  have ci' : Nr (ofInt i) (i * K) K 0 := nr_of fi hK (by rw [vi]; grind)
  have i2' : S - i * K ≤ K := by rw [Int.add_mul] at i2; lia
  have i1' : 0 ≤ S - i * K := by lia
  have hf := nr_sub hK h6' ci' 10 (by lia) (by lia) (by decide) (by decide)
  generalize S - i * K = F at *
  have cM : Nr (fl M) M 4096 0 := by
    obtain ⟨f, v⟩ := fn_fl M (by omega)
    exact nr_of f (by decide) (by rw [v]; grind)
  have c1 : Nr 4607182418800017408 M M 0 := nr_of fn_1.1 hM0 (by rw [fn_1.2]; grind)
  have c1K : Nr 4607182418800017408 K K 0 := nr_of fn_1.1 hK (by rw [fn_1.2]; grind)
  have byv : ∀ {z : UInt64} {n k : Int}, Nr z n M k → 0 ≤ n → n ≤ M → 0 ≤ k → k ≤ 100 → Part (mul (fl M) z) n := by
    intro z n k hz n0 n1 k0 k1
    have a := nr_mul (by decide) hM0 cM hz 1 1 (by lia) (by lia) (by lia) (by lia) (by decide) (by decide) (by decide) (by decide) (by decide) (by decide) k0 (by lia)
    exact part_of (nr_scale (D' := 4096) (n' := n) (by lia) (by decide) (by grind) a) n0 (by lia) (by lia) (by lia)
  have hp := byv (nr_sub hM0 c1 hy 10 (by lia) (by lia) (by decide) (by decide)) (by omega) (by lia) (by decide) (by decide)
  have yf := nr_mul hM0 hK hy hf 1 1 (by lia) (by lia) (by lia) (by lia) (by decide) (by decide) (by decide) (by decide) (by decide) (by decide) (by decide) (by decide)
  have yf' := nr_scale (D' := M) (n' := F) (Int.mul_pos hM0 hK) hM0 (by grind) yf
  have hq := byv (nr_sub hM0 c1 yf' 10 (by lia) (by lia) (by decide) (by decide)) (by lia) (by lia) (by decide) (by decide)
  have hg := nr_sub hK c1K hf 10 (by lia) (by lia) (by decide) (by decide)
  have yg := nr_mul hM0 hK hy hg 1 1 (by lia) (by lia) (by lia) (by lia) (by decide) (by decide) (by decide) (by decide) (by decide) (by decide) (by decide) (by decide)
  have yg' := nr_scale (D' := M) (n' := K - F) (Int.mul_pos hM0 hK) hM0 (by grind) yg
  have ht := byv (nr_sub hM0 c1 yg' 10 (by (clear hM hu hx hS hS' hy hK hKM hK4 h0 hm c6 h6 h6' hc i0 i1 i2 hi i14 hr fi vi ci' i1' hf cM c1 c1K byv hp yf yf' hq hg yg yg'; lia)) (by (clear hM hu hx hS hS' hy hK hK4 h0 hm c6 h6 h6' hc i0 i1 i2 hi i14 hr fi vi ci' i2' hf cM c1 c1K byv hp yf yf' hq hg yg yg'; lia)) (by decide) (by decide)) (by (clear hM hu hM0 hx hS hS' hy hK hK4 h0 hm c6 h6 h6' hc i0 i1 i2 hi i14 hr fi vi ci' i2' hf cM c1 c1K byv hp yf yf' hq hg yg yg'; lia)) (by (clear hM hu hM0 hx hS hS' hy hK hKM hK4 h0 hm c6 h6 h6' hc i0 i1 i2 hi i14 hr fi vi ci' i1' hf cM c1 c1K byv hp yf yf' hq hg yg yg'; lia)) (by decide) (by decide)
  have hv := part_of cM (by lia) (by omega) (by decide) (by decide)
  rw [show M - (K - F) = M - K + F by simp +arith] at ht
  dsimp only at hr
  unfold out
  generalize i.fmod 6 = j at *
  generalize mul (fl M) (sub 4607182418800017408 y) = P at *
  generalize mul (fl M) (sub 4607182418800017408 (mul y (sub (mul x 4618441417868443648) (ofInt i)))) = Qq at *
  generalize mul (fl M) (sub 4607182418800017408 (mul y (sub 4607182418800017408 (sub (mul x 4618441417868443648) (ofInt i))))) = T at *
  by_cases j0 : j = 0
  · simp only [j0, if_true, Prod.mk.injEq] at hr ⊢
    obtain ⟨rfl, rfl, rfl⟩ := hr
    exact ⟨hv, ht, hp⟩
  by_cases j1 : j = 1
  · simp only [j1, if_true, Prod.mk.injEq] at hr ⊢
    obtain ⟨rfl, rfl, rfl⟩ := hr
    exact ⟨hq, hv, hp⟩
  by_cases j2 : j = 2
  · simp only [j2, if_true, Prod.mk.injEq] at hr ⊢
    obtain ⟨rfl, rfl, rfl⟩ := hr
    exact ⟨hp, hv, ht⟩
  by_cases j3 : j = 3
  · simp only [j3, if_true, Prod.mk.injEq] at hr ⊢
    obtain ⟨rfl, rfl, rfl⟩ := hr
    exact ⟨hp, hq, hv⟩
  by_cases j4 : j = 4
  · simp only [j4, if_true, Prod.mk.injEq] at hr ⊢
    obtain ⟨rfl, rfl, rfl⟩ := hr
    exact ⟨ht, hp, hv⟩
  simp only [j0, j1, j2, j3, j4, if_false, Prod.mk.injEq] at hr ⊢
  obtain ⟨rfl, rfl, rfl⟩ := hr
  exact ⟨hv, hp, hq⟩
end Mine
end
section
open PySem PySem.Float64
set_option linter.unusedVariables false
set_option exponentiation.threshold 3000
namespace Mine
/-- q is the paint at the place S of the wheel -/
def Col (M m S : Int) (q : P3) : Prop := ∃ i : Int, i * (M - m) ≤ S ∧ S ≤ (i + 1) * (M - m) ∧ q = out (i.fmod 6) M m (S - i * (M - m))
theorem fm6 (i : Int) : i.fmod 6 = 0 ∨ i.fmod 6 = 1 ∨ i.fmod 6 = 2 ∨ i.fmod 6 = 3 ∨ i.fmod 6 = 4 ∨ i.fmod 6 = 5 := by
  rw [Int.fmod_eq_emod_of_nonneg _ (by decide)]; lia
theorem fm6_next (i : Int) : (i + 1).fmod 6 = if i.fmod 6 = 5 then 0 else i.fmod 6 + 1 := by
  rw [Int.fmod_eq_emod_of_nonneg _ (by decide), Int.fmod_eq_emod_of_nonneg _ (by decide)]; split <;> lia
theorem fm6_sub (i z : Int) : (i - 6 * z).fmod 6 = i.fmod 6 := by
  rw [Int.fmod_eq_emod_of_nonneg _ (by decide), Int.fmod_eq_emod_of_nonneg _ (by decide)]; lia
theorem rot_of {r g b M m : Int} (hM : mx3 r g b = M) (hm : mn3 r g b = m) : rotP1 (r, g, b) = (M + m - g, M + m - b, M + m - r) := by
  subst hM hm; rfl
theorem out_0 (M m F : Int) : out 0 M m F = (M, m + F, m) := rfl
theorem out_1 (M m F : Int) : out 1 M m F = (M - F, M, m) := rfl
theorem out_2 (M m F : Int) : out 2 M m F = (m, M, m + F) := rfl
theorem out_3 (M m F : Int) : out 3 M m F = (m, M - F, M) := rfl
theorem out_4 (M m F : Int) : out 4 M m F = (m + F, m, M) := rfl
theorem out_5 (M m F : Int) : out 5 M m F = (M, m, M - F) := rfl
theorem out_next {M m F : Int} (i : Int) (hm : m ≤ M) (h0 : 0 ≤ F) (h1 : F ≤ M - m) : rotP1 (out (i.fmod 6) M m F) = out ((i + 1).fmod 6) M m F := by
  have u1 : m ≤ m + F := by lia
  have u2 : m + F ≤ M := by lia
  have u3 : m ≤ M - F := by lia
  have u4 : M - F ≤ M := by lia
  have e1 : M + m - (m + F) = M - F := by simp +arith
  have e2 : M + m - (M - F) = m + F := by simp +arith
  have e3 : M + m - m = M := by simp +arith
  have e4 : M + m - M = m := by simp +arith
  have rM := Int.le_refl M
  have rm := Int.le_refl m
  rw [fm6_next]
  rcases fm6 i with h | h | h | h | h | h <;> rw [h]
  · rw [out_0, rot_of (mx_eq rM u2 hm (.inl rfl)) (mn_eq hm u1 rm (.inr (.inr rfl))), e1, e3, e4]; rfl
  · rw [out_1, rot_of (mx_eq u4 rM hm (.inr (.inl rfl))) (mn_eq u3 hm rm (.inr (.inr rfl))), e2, e3, e4]; rfl
  · rw [out_2, rot_of (mx_eq hm rM u2 (.inr (.inl rfl))) (mn_eq rm hm u1 (.inl rfl)), e1, e3, e4]; rfl
  · rw [out_3, rot_of (mx_eq hm u4 rM (.inr (.inr rfl))) (mn_eq rm u3 hm (.inl rfl)), e2, e3, e4]; rfl
  · rw [out_4, rot_of (mx_eq u2 hm rM (.inr (.inr rfl))) (mn_eq u1 rm hm (.inr (.inl rfl))), e1, e3, e4]; rfl
  · rw [out_5, rot_of (mx_eq rM hm u4 (.inl rfl)) (mn_eq hm rm u3 (.inr (.inl rfl))), e2, e3, e4]; rfl
theorem out_edge {M m : Int} (i : Int) : out (i.fmod 6) M m (M - m) = out ((i + 1).fmod 6) M m 0 := by
  have e1 : m + (M - m) = M := by simp +arith
  have e2 : M - (M - m) = m := by simp +arith
  rw [fm6_next]
  rcases fm6 i with h | h | h | h | h | h <;> rw [h]
  · show out 0 M m (M - m) = out 1 M m 0
    rw [out_0, out_1, e1, Int.sub_zero]
  · show out 1 M m (M - m) = out 2 M m 0
    rw [out_1, out_2, e2, Int.add_zero]
  · show out 2 M m (M - m) = out 3 M m 0
    rw [out_2, out_3, e1, Int.sub_zero]
  · show out 3 M m (M - m) = out 4 M m 0
    rw [out_3, out_4, e2, Int.add_zero]
  · show out 4 M m (M - m) = out 5 M m 0
    rw [out_4, out_5, e1, Int.sub_zero]
  · show out 5 M m (M - m) = out 0 M m 0
    rw [out_5, out_0, e2, Int.add_zero]
theorem col_next {M m S : Int} {q : P3} (hm : m < M) (h : Col M m S q) : Col M m (S + (M - m)) (rotP1 q) := by
  obtain ⟨i, h1, h2, rfl⟩ := h
  have e : (i + 1) * (M - m) = i * (M - m) + (M - m) := by rw [Int.add_mul, Int.one_mul]
  have e2 : (i + 1 + 1) * (M - m) = i * (M - m) + (M - m) + (M - m) := by rw [Int.add_mul, e, Int.one_mul]
  refine ⟨i + 1, by grind, by grind, ?_⟩
  rw [out_next i (by lia) (by lia) (by grind)]
  congr 1
  lia
theorem col_rot {M m : Int} (hm : m < M) : ∀ (n : Nat) {S : Int} {q : P3}, Col M m S q → Col M m (S + n * (M - m)) (rotP n q)
  | 0, S, q, h => by simp only [Int.natCast_zero, Int.zero_mul, Int.add_zero]; exact h
  | n + 1, S, q, h => by
    have := col_rot hm n (col_next hm h)
    have e : S + (M - m) + (n : Int) * (M - m) = S + ((n + 1 : Nat) : Int) * (M - m) := by rw [Int.natCast_succ, Int.add_mul, Int.one_mul]; simp +arith
    rw [← e]
    exact this
theorem col_one {M m S : Int} {q : P3} (hm : m < M) (h : Col M m S q) {i : Int} (h1 : i * (M - m) ≤ S) (h2 : S ≤ (i + 1) * (M - m)) : out (i.fmod 6) M m (S - i * (M - m)) = q := by
  obtain ⟨k, k1, k2, rfl⟩ := h
  have hK : 0 < M - m := by lia
  have a1 : i ≤ k + 1 := Int.le_of_mul_le_mul_right (Int.le_trans h1 k2) hK
  have a2 : k ≤ i + 1 := Int.le_of_mul_le_mul_right (Int.le_trans k1 h2) hK
  have a3 : i = k ∨ i = k + 1 ∨ k = i + 1 := by (clear hm h1 h2 k1 k2 hK; lia)
  rcases a3 with rfl | rfl | rfl
  · rfl
  · have e : (k + 1) * (M - m) = k * (M - m) + (M - m) := by rw [Int.add_mul, Int.one_mul]
    have s : S - k * (M - m) = M - m := by lia
    rw [s, out_edge]
    congr 1
    grind
  · have e : (i + 1) * (M - m) = i * (M - m) + (M - m) := by rw [Int.add_mul, Int.one_mul]
    have s : S - i * (M - m) = M - m := by lia
    rw [s, out_edge]
    congr 1
    omega
/-- a paint stands at its hue's place -/
theorem col_hn (r g b z : Int) (hm : mn3 r g b < mx3 r g b) : Col (mx3 r g b) (mn3 r g b) (hn r g b - z * ((mx3 r g b - mn3 r g b) * 6)) (r, g, b) := by
  obtain ⟨⟨o1, o2, o3⟩, ⟨o4, o5, o6⟩, o7, o8⟩ := mx_or r g b
  have key : ∃ j : Int, j * (mx3 r g b - mn3 r g b) ≤ hn r g b ∧ hn r g b ≤ (j + 1) * (mx3 r g b - mn3 r g b) ∧ (r, g, b) = out (j.fmod 6) (mx3 r g b) (mn3 r g b) (hn r g b - j * (mx3 r g b - mn3 r g b)) := by
    unfold hn
    generalize mx3 r g b = M at *
    generalize mn3 r g b = m at *
    have tri : ∀ {x y z x' y' z' : Int}, x = x' → y = y' → z = z' → (x, y, z) = (x', y', z') := fun a b c => by rw [a, b, c]
    by_cases c1 : r = M
    · rw [if_pos c1]
      subst c1
      by_cases c : b ≤ g
      · have e : b = m := by clear o4 o1 o7 hm; lia
        subst e
        refine ⟨0, by lia, by lia, (out_0 _ _ _).symm ▸ tri rfl ?_ rfl⟩
        simp +arith
      · have e : g = m := by clear o4 o1 o7 hm; grind
        subst e
        refine ⟨-1, by lia, by lia, (out_5 _ _ _).symm ▸ tri rfl rfl ?_⟩
        lia
    · rw [if_neg c1]
      by_cases c2 : g = M
      · rw [if_pos c2]
        subst c2
        by_cases c : r ≤ b
        · have e : r = m := by clear o5 o2 o7 hm; lia
          subst e
          refine ⟨2, by lia, by lia, (out_2 _ _ _).symm ▸ tri rfl rfl ?_⟩
          simp +arith
        · have e : b = m := by clear o5 o2 o7 hm; lia
          subst e
          refine ⟨1, by lia, by lia, (out_1 _ _ _).symm ▸ tri ?_ rfl rfl⟩
          simp +arith
      · rw [if_neg c2]
        have c3 : b = M := (o7.resolve_left c1).resolve_left c2
        subst c3
        by_cases c : g ≤ r
        · have e : g = m := by clear o6 o3 o7 hm; lia
          subst e
          refine ⟨4, by lia, by lia, (out_4 _ _ _).symm ▸ tri ?_ rfl rfl⟩
          simp +arith
        · have e : r = m := by clear o6 o3 o7 hm; lia
          subst e
          refine ⟨3, by lia, by lia, (out_3 _ _ _).symm ▸ tri rfl ?_ rfl⟩
          simp +arith
  obtain ⟨j, h1, h2, h3⟩ := key
  have e : (j - 6 * z) * (mx3 r g b - mn3 r g b) = j * (mx3 r g b - mn3 r g b) - z * ((mx3 r g b - mn3 r g b) * 6) := by grind
  have e2 : (j - 6 * z + 1) * (mx3 r g b - mn3 r g b) = (j + 1) * (mx3 r g b - mn3 r g b) - z * ((mx3 r g b - mn3 r g b) * 6) := by grind
  refine ⟨j - 6 * z, by grind, by grind, ?_⟩
  rw [fm6_sub, h3, e]
  congr 1
  simp +arith
theorem rot_grey (n : Nat) (a : Int) : rotP n (a, a, a) = (a, a, a) := by
  induction n with
  | zero => rfl
  | succ n ih =>
    show rotP n (rotP1 (a, a, a)) = _
    have e : rotP1 (a, a, a) = (a, a, a) := by
      have x := Int.le_refl a
      rw [rot_of (mx_eq x x x (.inl rfl)) (mn_eq x x x (.inl rfl)), Int.add_sub_cancel]
    rw [e, ih]
theorem cmp_00 : (cmp 0 0 == some .eq) = true := by rw [cmp_fn fn_0.1 fn_0.1]; simp
theorem turn_grey (r n : Int) (h0 : 0 ≤ r) (h1 : r ≤ 450) : TurnOk r r r n r r r := by
  have e : mx3 r r r = r := by simp [mx3]
  have e' : mn3 r r r = r := by simp [mn3]
  have er' : r.natAbs < 1024 := by lia
  have x3 : max3 (fl r) (fl r) (fl r) = fl r := by rw [max3_fl r r r er' er' er', e]
  have n3 : min3 (fl r) (fl r) (fl r) = fl r := by rw [min3_fl r r r er' er' er', e']
  have ce : (cmp (min3 (fl r) (fl r) (fl r)) (max3 (fl r) (fl r) (fl r)) == some .eq) = true := by rw [x3, n3, cmp_fl r r er' er']; simp
  refine ⟨fun hh => (by rw [ce] at hh; cases hh), ?_⟩
  intro X Y Z e
  rw [hsvF_grey ce, x3] at e
  simp only [Prod.mk.injEq] at e
  obtain ⟨rfl, rfl, rfl⟩ := e
  refine ⟨fun hh => (by rw [cmp_00] at hh; cases hh), ?_⟩
  intro U V W e
  rw [rgbF_grey cmp_00] at e
  simp only [Prod.mk.injEq] at e
  obtain ⟨rfl, rfl, rfl⟩ := e
  obtain ⟨f, v⟩ := fn_fl r er'
  have p : Part (fl r) r := part_of (k := 0) (nr_of f (by decide) (by rw [v]; grind)) h0 h1 (by decide) (by decide)
  exact ⟨p, p, p⟩
theorem turnFact : TurnFact := by
  rintro ⟨r, g, b⟩ n h hn3 hn8
  have h5 : PBnd 500 (r, g, b) := bnd_mono h (by decide)
  have h1 := h
  unfold PBnd at h1
  dsimp only at h1
  obtain ⟨⟨o1, o2, o3⟩, ⟨o4, o5, o6⟩, o7, o8⟩ := mx_or r g b
  dsimp only
  by_cases hK : mn3 r g b < mx3 r g b
  · obtain ⟨a1, ⟨z, a2, a3, a4⟩, a5, a6⟩ := hsv_near h5 hK
    refine ⟨a1, ?_⟩
    intro X Y Z e
    rw [← e] at a2 a5 a6
    dsimp only at a2 a5 a6
    subst a6
    have hKp : 0 < mx3 r g b - mn3 r g b := by lia
    have hK6 : 0 < (mx3 r g b - mn3 r g b) * 6 := by (clear h hn3 hn8 h5 h1 o1 o2 o3 o4 o5 o6 o7 o8 a1 a3 a4 a5 a2 e hKp; lia)
    obtain ⟨fi, vi⟩ := fn_int (n : Int) (by grind)
    have hu := tU_pos
    have d := nr_dive fi fn_6.1 (8796093022208 * tU) (by decide) vi fn_6.2 (by decide) (by lia) (by simp +arith)
    have d' := nr_scale (D' := (mx3 r g b - mn3 r g b) * 6) (n' := n * (mx3 r g b - mn3 r g b)) (by decide) hK6 (by grind) d
    have nK : (n : Int) * (mx3 r g b - mn3 r g b) ≤ 8 * (mx3 r g b - mn3 r g b) := Int.mul_le_mul_of_nonneg_right (by lia) (by lia)
    have nK3 : 3 * (mx3 r g b - mn3 r g b) ≤ (n : Int) * (mx3 r g b - mn3 r g b) := Int.mul_le_mul_of_nonneg_right (by lia) (by lia)
    have s := nr_add hK6 a2 d' 10 (by (clear h hn3 hn8 h5 h1 o2 o3 o5 o6 o7 o8 hK a1 a3 a5 a2 e hKp hK6 fi vi hu d d' nK3; lia)) (by (clear h hn3 hn8 h5 h1 o2 o3 o5 o6 o7 o8 hK a1 a4 a5 a2 e hKp hK6 fi vi hu d d' nK; lia)) (by decide) (by decide)
    obtain ⟨b1, i, b2, b3, b4⟩ := rgb_near (by lia) hK (by (clear h hn3 hn8 h5 o1 o2 o3 o4 o5 o6 o8 hK a1 a3 a4 a5 a2 e hKp hK6 fi vi hu d d' nK nK3 s; lia)) s (by omega) (by (clear h hn3 hn8 h5 h1 o1 o2 o3 o4 o5 o6 o7 o8 hK a1 a3 a5 a2 e hKp hK6 fi vi hu d d' nK3 s; lia)) a5
    refine ⟨b1, ?_⟩
    have c := col_one hK (col_rot hK n (col_hn r g b z hK)) b2 b3
    rw [c] at b4
    exact b4
  · have e1 : mn3 r g b = mx3 r g b := by lia
    have er : r = mx3 r g b := by (clear h hn3 hn8 h5 h1 o2 o3 o5 o6 o7 o8 e1; lia)
    have eg : g = r := by (clear h hn3 hn8 h5 h1 o3 o6 o7 o8 e1 er; lia)
    have eb : b = r := by (clear h hn3 hn8 h5 h1 o2 o5 o7 o8 e1 er eg; lia)
    rw [eg, eb, rot_grey]
    exact turn_grey r n (by (clear h hn3 hn8 h5 o1 o2 o3 o4 o5 o6 o7 o8 hK e1 er eg eb; lia)) (by (clear h hn3 hn8 h5 o1 o2 o3 o4 o5 o6 o7 o8 hK e1 er eg eb; lia))
end Mine
end
section
open PySem PySem.Float64
set_option linter.unusedVariables false
set_option exponentiation.threshold 3000
namespace Mine
noncomputable def MX (q : P3) : Int := mx3 q.1 q.2.1 q.2.2
noncomputable def MN (q : P3) : Int := mn3 q.1 q.2.1 q.2.2
noncomputable def HN (q : P3) : Int := hn q.1 q.2.1 q.2.2
theorem mxn_rot1 (q : P3) : MX (rotP1 q) = MX q ∧ MN (rotP1 q) = MN q := by
  obtain ⟨r, g, b⟩ := q
  obtain ⟨⟨a1, a2, a3⟩, ⟨b1, b2, b3⟩, c, d⟩ := mx_or r g b
  refine ⟨mx_eq (mir_le b2) (mir_le b3) (mir_le b1) ?_, mn_eq (mir_ge a2) (mir_ge a3) (mir_ge a1) ?_⟩
  · rcases d with d | d | d
    · exact .inr (.inr (mir_M d))
    · exact .inl (mir_M d)
    · exact .inr (.inl (mir_M d))
  · rcases c with d | d | d
    · exact .inr (.inr (mir_m d))
    · exact .inl (mir_m d)
    · exact .inr (.inl (mir_m d))
theorem hn_at {r g b M m : Int} (hM : mx3 r g b = M) (hm : mn3 r g b = m) : hn r g b = if r = M then g - b else if g = M then 2 * (M - m) + b - r else 4 * (M - m) + r - g := by
  subst hM hm; rfl
theorem hn_rot1 (q : P3) : HN (rotP1 q) = HN q + (MX q - MN q) ∨ HN (rotP1 q) = HN q + (MX q - MN q) - 6 * (MX q - MN q) := by
  obtain ⟨e1, e2⟩ := mxn_rot1 q
  obtain ⟨r, g, b⟩ := q
  have h1 := mx_or r g b
  unfold HN MX MN at *
  dsimp only at *
  rw [hn_at e1 e2, hn_at (r := r) (g := g) (b := b) rfl rfl]
  clear e1 e2
  have x1 : (rotP1 (r, g, b)).1 = mx3 r g b + mn3 r g b - g := rfl
  have x2 : (rotP1 (r, g, b)).2.1 = mx3 r g b + mn3 r g b - b := rfl
  have x3 : (rotP1 (r, g, b)).2.2 = mx3 r g b + mn3 r g b - r := rfl
  generalize (rotP1 (r, g, b)).1 = y1 at *
  generalize (rotP1 (r, g, b)).2.1 = y2 at *
  generalize (rotP1 (r, g, b)).2.2 = y3 at *
  generalize mx3 r g b = M at *
  generalize mn3 r g b = m at *
  subst x1 x2 x3
  have i1 : M + m - g = M ↔ g = m := by (clear h1; lia)
  have i2 : M + m - b = M ↔ b = m := by (clear h1 i1; lia)
  simp only [i1, i2]
  clear i1 i2
  obtain ⟨⟨a1, a2, a3⟩, ⟨b1, b2, b3⟩, c, d⟩ := h1
  repeat' split
  all_goals lia
theorem hn_rot : ∀ (n : Nat) (q : P3), (MX (rotP n q) = MX q ∧ MN (rotP n q) = MN q) ∧ ∃ z : Int, HN (rotP n q) = HN q + n * (MX q - MN q) + z * ((MX q - MN q) * 6)
  | 0, q => ⟨⟨rfl, rfl⟩, 0, by show HN q = _; simp⟩
  | n + 1, q => by
    obtain ⟨⟨a1, a2⟩, z, a3⟩ := hn_rot n (rotP1 q)
    obtain ⟨b1, b2⟩ := mxn_rot1 q
    have e : HN (rotP (n + 1) q) = HN (rotP n (rotP1 q)) := rfl
    refine ⟨⟨a1.trans b1, a2.trans b2⟩, ?_⟩
    rw [e, a3, b1, b2, Int.natCast_succ]
    rcases hn_rot1 q with h | h
    · exact ⟨z, by rw [h]; grind⟩
    · exact ⟨z - 1, by rw [h]; grind⟩
section
variable (k r g b : Int)
theorem mx_shift : mx3 (r + k) (g + k) (b + k) = mx3 r g b + k := by
  obtain ⟨⟨a1, a2, a3⟩, -, c, -⟩ := mx_or r g b
  exact mx_eq (Int.add_le_add_right a1 k) (Int.add_le_add_right a2 k) (Int.add_le_add_right a3 k) (c.imp (congrArg (· + k)) (Or.imp (congrArg (· + k)) (congrArg (· + k))))
theorem mn_shift : mn3 (r + k) (g + k) (b + k) = mn3 r g b + k := by
  obtain ⟨-, ⟨a1, a2, a3⟩, -, c⟩ := mx_or r g b
  exact mn_eq (Int.add_le_add_right a1 k) (Int.add_le_add_right a2 k) (Int.add_le_add_right a3 k) (c.imp (congrArg (· + k)) (Or.imp (congrArg (· + k)) (congrArg (· + k))))
theorem hn_shift : hn (r + k) (g + k) (b + k) = hn r g b := by
  unfold hn
  rw [mx_shift, mn_shift]
  generalize mx3 r g b = M
  generalize mn3 r g b = m
  have e (z x y : Int) : z + (x + k) - (y + k) = z + x - y := by grind
  have e' (x y : Int) : x + k - (y + k) = x - y := by grind
  simp only [e, e', Int.add_left_inj]
end
theorem white {a b : P3} (h : pt a = pt b) : (MX a - MN a = MX b - MN b) ∧ HN a = HN b := by
  obtain ⟨r, g, b'⟩ := a
  obtain ⟨r2, g2, b2⟩ := b
  simp only [pt, Prod.mk.injEq] at h
  obtain ⟨h1, h2⟩ := h
  have e1 : r2 = r + (b2 - b') := by grind
  have e2 : g2 = g + (b2 - b') := by grind
  have e3 : b2 = b' + (b2 - b') := by grind
  generalize b2 - b' = k at *
  subst e1 e2 e3
  exact ⟨by show _ = mx3 _ _ _ - mn3 _ _ _; rw [mx_shift, mn_shift]; show mx3 r g b' - mn3 r g b' = _; grind, (hn_shift k r g b').symm⟩
/-- two neighbours, as whole numbers tell -/
theorem next_hn {c e : P3} {lf : Nat} (h : pt e = rotn lf (pt c)) : (MX e - MN e = MX c - MN c) ∧ ∃ z : Int, HN e = HN c + lf * (MX c - MN c) + z * ((MX c - MN c) * 6) := by
  rw [← pt_rot] at h
  obtain ⟨w1, w2⟩ := white h
  obtain ⟨⟨a1, a2⟩, z, a3⟩ := hn_rot lf c
  exact ⟨by rw [w1, a1, a2], z, by rw [w2, a3]⟩
theorem hls_ok {q : P3} (h : PBnd 384 q) : HlsOk (fl q.1) (fl q.2.1) (fl q.2.2) := by
  obtain ⟨r, g, b⟩ := q
  unfold PBnd at h
  dsimp only at *
  have hu := tU_pos
  have er : r.natAbs < 1024 := abs_1024 h.1.1 (Int.le_trans h.1.2 (by decide))
  have eg : g.natAbs < 1024 := abs_1024 h.2.1.1 (Int.le_trans h.2.1.2 (by decide))
  have eb : b.natAbs < 1024 := abs_1024 h.2.2.1 (Int.le_trans h.2.2.2 (by decide))
  have hle := mn_le_mx r g b
  obtain ⟨hm0, hM5⟩ := bnd_mx (r := r) (g := g) (b := b) h
  have eM : (mx3 r g b).natAbs < 1024 := abs_1024 (Int.le_trans hm0 hle) (Int.le_trans hM5 (by decide))
  have em : (mn3 r g b).natAbs < 1024 := abs_1024 hm0 (Int.le_trans hle (Int.le_trans hM5 (by decide)))
  clear h
  unfold HlsOk
  rw [max3_fl r g b er eg eb, min3_fl r g b er eg eb]
  clear er eg eb
  intro hne
  have ne : ¬ mn3 r g b = mx3 r g b := fun hh => by
    have := (eq_fl (mn3 r g b) (mx3 r g b) em eM).mpr hh
    rw [this] at hne; cases hne
  have hlt : mn3 r g b < mx3 r g b := Int.lt_iff_le_and_ne.mpr ⟨hle, ne⟩
  clear ne hle hne
  obtain ⟨fM, vM⟩ := fn_fl _ eM
  obtain ⟨fm, vm⟩ := fn_fl _ em
  generalize mx3 r g b = M at *
  generalize mn3 r g b = m at *
  obtain ⟨fS, vS⟩ := ex_add (n := (M + m) * 2147483648) fM fm (by omega) (by rw [vM, vm]; grind)
  obtain ⟨fR, vR⟩ := ex_sub (n := (M - m) * 2147483648) fM fm (by grind) (by rw [vM, vm]; grind)
  obtain ⟨fH, vH⟩ := ex_div (n := (M + m) * 1073741824) fS fn_2.1 (by rw [fn_2.2]; decide) (by omega) (by rw [vS, fn_2.2]; grind)
  have hw : 0 < 2147483648 * tU := by decide
  refine ⟨?_, fun z => ?_, fun z => ?_⟩
  · rw [cmp_fn fH fn_half.1, vH, fn_half.2, compare_mul _ _ _ hu]
    have : (M + m) * 1073741824 < 4398046511104 := by lia
    rw [Int.compare_eq_lt.mpr this]; rfl
  · have := (zero_fn fS).mp z
    rw [vS, Int.mul_assoc] at this
    have := Int.mul_pos (show 0 < M + m by lia) hw
    omega
  · have := (zero_fn fR).mp z
    rw [vR, Int.mul_assoc] at this
    have := Int.mul_pos (show 0 < M - m by lia) hw
    omega
theorem abs_decode {x : UInt64} {a : Bool} {m : Nat} {e : Int} (h : decode x = .fin a m e) : decode (Float64.abs x) = .fin false m e := by
  have hnan : isNaN x = false := by unfold isNaN; rw [h]
  have hN : (Float64.abs x).toNat = x.toNat % 2 ^ 63 := by
    unfold Float64.abs
    rw [if_neg (by simp [hnan]), pack_toNat false (Nat.mod_lt _ (by decide))]
    simp
  have h1 : ((Float64.abs x).toNat / 2 ^ 63 == 1) = false := by
    rw [hN, Nat.div_eq_of_lt (Nat.mod_lt _ (by decide))]; rfl
  have h2 : (Float64.abs x).toNat / 2 ^ 52 % 2048 = x.toNat / 2 ^ 52 % 2048 := by omega
  have h3 : (Float64.abs x).toNat % 2 ^ 52 = x.toNat % 2 ^ 52 := by (clear h hnan h1 h2; lia)
  unfold decode at h ⊢
  simp only [h2, h3, h1] at h ⊢
  split at h
  · split at h <;> cases h
  · rename_i h4
    rw [if_neg h4]
    split at h
    · rename_i h5
      rw [if_pos h5]
      cases h
      rfl
    · rename_i h5
      rw [if_neg h5]
      cases h
      rfl
theorem fn_abs {x : UInt64} (hx : Fn x) : Fn (Float64.abs x) ∧ val (Float64.abs x) = (val x).natAbs := by
  obtain ⟨a, m, e, dx⟩ := hx
  have d := abs_decode dx
  refine ⟨⟨_, _, _, d⟩, ?_⟩
  rw [val_natAbs dx, val_eq d]
  rfl
theorem fn_mil : Fn 4517329193108106637 ∧ 100 * tU < val 4517329193108106637 := ⟨fn_of (by decide +kernel), by unfold tU; decide +kernel⟩
theorem off_ok {h1 h2 : UInt64} {a b D z : Int} {lf : Nat} (hl : lf < 6) (hD : 0 < D) (hD' : D ≤ 4000) (n1 : Nr h1 a (D * 6) 7) (n2 : Nr h2 b (D * 6) 7) (a0 : 0 ≤ a) (a1 : a ≤ D * 6) (b0 : 0 ≤ b) (b1 : b ≤ D * 6) (hz : b - a = lf * D + z * (D * 6)) : offOk h1 h2 (lf : Int) = true := by
  have hu := tU_pos
  obtain ⟨fi, vi⟩ := fn_int (lf : Int) (by omega)
  have hD6 : 0 < D * 6 := by lia
  have d := nr_dive fi fn_6.1 (8796093022208 * tU) (by decide) vi fn_6.2 (by decide) (by lia) (by simp +arith)
  have d' := nr_scale (D' := D * 6) (n' := lf * D) (by decide) hD6 (by grind) d
  have lD : (lf : Int) * D ≤ 5 * D := Int.mul_le_mul_of_nonneg_right (by lia) (by lia)
  have lD0 : 0 ≤ (lf : Int) * D := Int.mul_nonneg (by simp +arith) (by lia)
  have s := nr_sub hD6 (nr_sub hD6 n2 n1 10 (by (clear hl hD' n1 n2 a1 b0 hz hu fi vi hD6 d d' lD lD0; lia)) (by (clear hl hD' n1 n2 a0 b1 hz hu fi vi hD6 d d' lD lD0; lia)) (by decide) (by decide)) d' 10 (by (clear hl hD' n1 n2 a1 b0 hz hu fi vi hD6 d d' lD; lia)) (by (clear hl hD' n1 n2 a0 b1 hz hu fi vi hD6 d d' lD0; lia)) (by decide) (by decide)
  have hh : Nr 4602678819172646912 (D * 3) (D * 6) 0 := nr_of fn_half.1 hD6 (by rw [fn_half.2]; grind)
  have t := nr_add hD6 s hh 10 (by (clear hl hD' n1 n2 a1 b0 hz hu fi vi hD6 d d' lD s hh; lia)) (by (clear hl hD' n1 n2 a0 b1 hz hu fi vi hD6 d d' lD0 s hh; lia)) (by decide) (by decide)
  obtain ⟨y, m, m0, m1⟩ := nr_mod hD6 t (by (clear hl hD n1 n2 a0 a1 b0 b1 hz hu fi vi hD6 d d' lD lD0 s hh t; lia))
  have key : b - a - lf * D + D * 3 - y * (D * 6) = D * 3 := by
    rw [hz] at m0 m1 ⊢
    have e : (lf : Int) * D + z * (D * 6) - lf * D + D * 3 - y * (D * 6) = (z - y) * (D * 6) + D * 3 := by grind
    rw [e] at m0 m1 ⊢
    have h3 : (z - y) * (D * 6) < 1 * (D * 6) := by (clear hl hD' n1 n2 a0 a1 b0 b1 hz hu fi vi hD6 d d' lD lD0 s hh t m m0 e; lia)
    have h4 : -1 * (D * 6) < (z - y) * (D * 6) := by (clear hl hD' n1 n2 a0 a1 b0 b1 hz hu fi vi hD6 d d' lD lD0 s hh t m m1 e h3; lia)
    have h5 := Int.lt_of_mul_lt_mul_right h3 (by (clear hl hD' n1 n2 a0 a1 b0 b1 hz hu fi vi hD6 d d' lD lD0 s hh t m m0 m1 e h3 h4; lia))
    have h6 := Int.lt_of_mul_lt_mul_right h4 (by (clear hl hD' n1 n2 a0 a1 b0 b1 hz hu fi vi hD6 d d' lD lD0 s hh t m m0 m1 e h3 h4 h5; lia))
    have : z - y = 0 := by lia
    rw [this]; simp +arith
  rw [key] at m
  have o := nr_sub hD6 m hh 10 (by (clear hl hD' n1 n2 a0 a1 b0 b1 hz hu fi vi hD6 d d' lD lD0 s hh t m m0 m1 key; lia)) (by (clear hl hD' n1 n2 a0 a1 b0 b1 hz hu fi vi hD6 d d' lD lD0 s hh t m m0 m1 key; lia)) (by decide) (by decide)
  unfold offOk
  obtain ⟨fo, p1, p2⟩ := o
  generalize sub (divmod _ _).snd _ = X at *
  obtain ⟨fA, vA⟩ := fn_abs fo
  rw [cmp_fn fA fn_mil.1, vA]
  have q1 : val X ≤ 50 * tU := by
    refine Int.le_of_mul_le_mul_right (a := D * 6) ?_ hD6
    grind
  have q2 : -val X ≤ 50 * tU := by
    refine Int.le_of_mul_le_mul_right (a := D * 6) ?_ hD6
    grind
  have := fn_mil.2
  rw [Int.compare_eq_lt.mpr (by (clear hl hD hD' n1 n2 a0 a1 b0 b1 hz hu fi vi hD6 d d' lD lD0 s hh t m m0 m1 key fo p1 p2 fA vA; lia))]; rfl
theorem apartFact : ApartFact := by
  intro c e lf hl hc he h
  obtain ⟨k1, z, k2⟩ := next_hn h
  refine ⟨⟨hls_ok hc, hls_ok he⟩, k1.symm, ?_⟩
  have hc5 : PBnd 500 c := bnd_mono hc (by decide)
  have he5 : PBnd 500 e := bnd_mono he (by decide)
  obtain ⟨r, g, b⟩ := c
  obtain ⟨r2, g2, b2⟩ := e
  have bc := hc
  unfold PBnd at bc
  unfold MX MN HN at *
  dsimp only at *
  have o := mx_or r g b
  by_cases hK : mn3 r g b < mx3 r g b
  · right
    have hK2 : mn3 r2 g2 b2 < mx3 r2 g2 b2 := by lia
    obtain ⟨-, ⟨z1, a2, a3, a4⟩, -, -⟩ := hsv_near hc5 hK
    obtain ⟨-, ⟨z2, c2, c3, c4⟩, -, -⟩ := hsv_near he5 hK2
    rw [k1] at c2 c3 c4
    exact off_ok (z := z - z2 + z1) hl (by (clear hl hc hc5 he he5 h k1 k2 bc o hK2 a2 a3 a4 c2 c3 c4; lia)) (by omega) a2 c2 a3 a4 c3 c4 (by rw [k2]; grind)
  · left
    omega
end Mine
end
section
open PySem PySem.Spec PySem.Calls PySem.W PyProof.Rows PySem.Flt
set_option maxRecDepth 100000
set_option maxHeartbeats 8000000
namespace Mine
noncomputable def K2 (P : Params) : Frag := (23, tabOf #[]) :: (98, tabOf #[]) :: hd.heap_1 P
theorem K2_in {w : World} {h : Heap} (X : (K2 w.params).In h) : (hd.heap_1 w.params).In (hid h) := by
  intro a o e
  have n23 : a ≠ 23 := by
    rintro rfl
    have z : List.lookup 23 (hd.heap_1 w.params) = none := by kernel_rfl
    rw [z] at e; cases e
  have n98 : a ≠ 98 := by
    rintro rfl
    have z : List.lookup 98 (hd.heap_1 w.params) = none := by kernel_rfl
    rw [z] at e; cases e
  refine hid_get (X a o ?_) n23 n98
  unfold K2
  rw [List.lookup_cons, List.lookup_cons, beq_eq_false_iff_ne.mpr n23, beq_eq_false_iff_ne.mpr n98]
  exact e
theorem K2_23 {w : World} {h : Heap} (X : (K2 w.params).In h) : h.get? 23 = some (tabOf #[]) := X 23 _ rfl
theorem K2_98 {w : World} {h : Heap} (X : (K2 w.params).In h) : h.get? 98 = some (tabOf #[]) := X 98 _ rfl
theorem hid_list {w : World} {h : Heap} {l : Addr} {vs : Array Value} (X : (K2 w.params).In h) (hl : h.IsList l vs) : (hid h).IsList l vs := by
  obtain ⟨o, ho, r⟩ := hl
  refine ⟨o, hid_get ho ?_ ?_, r⟩
  · rintro rfl; rw [K2_23 X] at ho; cases ho; cases r.1
  · rintro rfl; rw [K2_98 X] at ho; cases ho; cases r.1
/-- the call came back with True, and the heap, the generators and the rest are as they may be -/
def EndOk (s₁ : Shared) (r : Result) (s' : Shared) : Prop := r = .ok (.ret (.bool true)) ∧ OldK s₁.heap s'.heap ∧ s'.os = s₁.os ∧ AllBare s'.gens
theorem old_all {w : World} {h h' : Heap} {L : Addr} {m : Str → Option Value} {led : List (Addr × Obj)} {pa pb : Array Value} (KX : (K2 w.params).In h) (F : Fr (hid h) L h' m) (N : News (hid h) L h' led) (ma : (98, tabOf pa) ∈ led) (mb : (23, tabOf pb) ∈ led) : OldK h h' := by
  have X1 := K2_in KX
  have n23 : (27 : Addr) ≠ 23 := by decide
  have n98 : (102 : Addr) ≠ 98 := by decide
  have c27 : h.get? 27 = some addCode := of_hideAll _ (X1 27 addCode (addCode_at w))
  have c102 : h.get? 102 = some strCode := of_hideAll _ (X1 102 strCode (strCode_at w))
  have t23 := (isCode_of (c := 27) (P := 23) (ps := #[]) c27 addCode_tab (K2_23 KX) triples_nil n23).2.isCodeTable
  have t98 := (isCode_of (c := 102) (P := 98) (ps := #[]) c102 strCode_tab (K2_98 KX) triples_nil n98).2.isCodeTable
  refine ⟨fun b o e => ?_, fun b o e => ?_⟩
  · by_cases h1 : b = 23
    · subst h1
      rw [K2_23 KX] at e; cases e
      exact .inr (.inl ⟨t23, rfl, #[], pb, rfl, by rw [Array.empty_append]; exact (N _ mb).1⟩)
    · by_cases h2 : b = 98
      · subst h2
        rw [K2_98 KX] at e; cases e
        exact .inr (.inl ⟨t98, rfl, #[], pa, rfl, by rw [Array.empty_append]; exact (N _ ma).1⟩)
      · exact .inl (F.keep b o (hid_get e h1 h2))
  · by_cases h1 : b = 23
    · subst h1; exact ⟨_, (N _ mb).1⟩
    · by_cases h2 : b = 98
      · subst h2; exact ⟨_, (N _ ma).1⟩
      · exact ⟨o, F.keep b o (hid_get e h1 h2)⟩
/-- the view of the program: the law alone -/
noncomputable def vq : Program := { PySem.Challenge.pw_wo0025_01 with main := { PySem.Challenge.pw_wo0025_01.main with body := PySem.Challenge.pw_wo0025_01.main.body.drop 17 } }
noncomputable def lq : List Str := [Str.ofString "_wall", Str.ofString "add_callers", Str.ofString "rgb_to_hls", Str.ofString "rgb_to_hsv", Str.ofString "hsv_to_rgb", Str.ofString "EMPTYSTRING", Str.ofString "_Accumulator", Str.ofString "_law_turned", Str.ofString "_law_round", Str.ofString "_law_point", Str.ofString "_law_moved", Str.ofString "_law_wished", Str.ofString "_law_apart"]
noncomputable def asq : List Addr := 23 :: 98 :: [2, 3, 15, 17, 18, 20, 21, 22, 24, 25, 27, 28, 29, 31, 32, 34, 35, 36, 38, 39, 41, 42, 43, 45, 46, 48, 49, 50, 53, 58, 59, 60, 62, 63, 65, 66, 67, 69, 70, 72, 73, 74, 75, 77, 78, 80, 81, 82, 83, 85, 86, 88, 89, 90, 92, 93, 95, 96, 97, 99, 100, 102, 103, 104, 105, 107, 108, 110, 111, 112, 114, 115, 117, 118, 119, 120, 122, 123, 125, 126, 127, 128, 129, 130, 131, 134, 137, 138, 139, 142, 143, 144, 146, 147, 149, 150, 151, 153, 154, 156, 157, 158, 161, 162, 163, 166, 167, 168, 171, 172]
theorem asq_ok : ∀ P, asq = (K2 P).map (·.1) := fun _ => by kernel_rfl
theorem left_ok : LeftO PySem.Challenge.rw_wo0025_01.row.prog vq lq (fun s => xlAt vq [] s && recOk PySem.Challenge.rw_wo0025_01.row.records s) (Hook.obs (kHook K2 asq asq_ok)) (Hook.val (kHook K2 asq asq_ok)) 1966 := by
  intro w
  kernel_rfl
theorem hd3 : PySem.Challenge.rw_wo0025_01.Holds := by
  k_with_none
  w_on
  refine hd ?_
  refine holds_open (q := vq) (loose := lq) (Xt := fun s => xlAt vq [] s && recOk (RowW.records PySem.Challenge.rw_wo0025_01.row.toRowW) s) (XP := XL vq []) (Yf := Hook.obs (kHook K2 asq asq_ok)) (Ya := Hook.val (kHook K2 asq asq_ok)) (YP := Hook.says (kHook K2 asq asq_ok)) (N := 1966) left_ok (Hook.of (kHook K2 asq asq_ok)) (Hook.keeps (kHook K2 asq asq_ok)) (fun s e => xl_of s (Bool.and_eq_true_iff.mp e).1) XL.keeps (by rfl) (by rfl) (by rfl) (fun s e => recFacts_of (Bool.and_eq_true_iff.mp e).2) (by rfl) (row_said said) (by decide +kernel) ⟨rfl, rfl, rfl, rfl, rfl, by decide +kernel⟩ ?hw ?hc
  case hw => w_witness2
  k_fill
  intro w s₀ s₁ mg mb G Y fa o pm cd doc dV kV ho hd' hcd hD hmg hg args vals as hpre hlay hrd hwl hlo
  have KX := kIn_of Y
  have X := (Ground.X G).1
  have V := (Ground.X G).2
  refine Ground.open G ?_
  intro T B D TE TW
  try (refine guard_noD D (by decide +kernel) ?_; clear D)
  obtain ⟨_, _, M⟩ := bmod_of_top T
  have TA := at_of_top T
  try (obtain ⟨_, _, he, B0⟩ := based_of_top T rfl hmg ho hd'; have he' : cd = _ := he; subst he'; clear he)
  clear hmg
  wrow_args hpre hlay hrd hwl hlo
  first | refine callC_kw (enter_call ?_) | refine enter_call ?_ | refine callC_kw (enter_callW ?_) | refine enter_callW ?_ | w_how
  w_top on
  refine codeAny_mono (R := EndOk s₁) ?_ ?hend
  case hend =>
    rintro r s' ⟨rfl, hK, hos, hbare⟩
    refine ⟨.inl ⟨.bool true, .bool true, [], rfl, raisesW_false ?_, .bool true, ?_, unshared_nil⟩, hK, hos, hbare⟩
    · wrow_none_raised
    · wrow_post
  have K0 := below_caller (Top.heap T)
  w_call any ho hd' hcd hD T F0
  clear hd' TA
  k_drop
  (rename News _ _ _ _ => N0); (rename CellsAre _ _ _ => C0); (rename Heap.IsList _ _ _ => hL); (rename IntsAre _ _ => hI)
  have F1 := hid_fr F0
  have N1 := hid_tabs F0 N0 (K2_23 KX) (K2_98 KX)
  have T1 := hid_top (K2_23 KX) (K2_98 KX) T
  have X1 := K2_in KX
  have L1 := hid_list KX hL
  clear N0 F0
  with_unfolding_all refine law_all (s := _) hid_below ?F X1 N1 T1 ?hE turnFact apartFact ?hd L1 hI (by assumption) ?hret
  case F => k_dflt exact F1
  case hE => passes_own
  case hd => cases C0 with | cons hd0 _ => k_dflt exact hd0
  case hret =>
    intro h' g' tk m' led' pa pb bb ma mb F' N'
    exact ⟨rfl, old_all KX F' N' ma mb, rfl, bb (.of_eq hg)⟩
end Mine
end
theorem PySem.Challenge.cw_wo0025_01_holds : PySem.Challenge.rw_wo0025_01.Holds := by
  exact Mine.hd3
