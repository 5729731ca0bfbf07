import PyProof.Rows.All
import Wide.All
import OpenK.AllK
import Wide.FinOn
import Lean
import PySem.Challenge.RW_pg0259_01
set_option Elab.async false

section
open PySem PySem.W PyProof.Rows
namespace Mine
set_option maxRecDepth 100000 in
set_option maxHeartbeats 8000000 in
open_top hd for PySem.Challenge.rw_pg0259_01
end Mine
end

-- L1
section
open PySem PySem.W PyProof.Rows PySem.Calls PySem.Spec PySem.Flt
namespace Mine
section
variable {prog : Program} {w : World} {A : Around} {E : Value → Shared → Prop} {s : Shared} {Q : Value → Shared → Prop}
def fmax3 (x y z : UInt64) : UInt64 :=
  let p := if (Float64.cmp x y == some .lt) = true then y else x
  if (Float64.cmp p z == some .lt) = true then z else p
def fmin3 (x y z : UInt64) : UInt64 :=
  let p := if (Float64.cmp y x == some .lt) = true then y else x
  if (Float64.cmp z p == some .lt) = true then z else p
theorem max3_num {a b c : Value} (hh : A.handled = none) (ha : NumV a) (hb : NumV b) (hc : NumV c)
    (h : ∀ h' tk, (∀ d o, s.heap.get? d = some o → h'.get? d = some o) →
      Q (if ltV (if ltV a b then b else a) c then c else (if ltV a b then b else a)) { s with heap := h', toks := tk }) :
    wpAny (model prog w) A (call (.builtin "max") [a, b, c]) Q E s := by
  have hT : (s.heap.push { cls := .type "tuple", data := .seq #[a, b, c] }).IsTuple s.heap.objs.size #[a, b, c] := ⟨_, Heap.get?_push_size _ rfl, rfl, 0, rfl⟩
  refine call_max_three (wpAny_pyIter_tuple hT ?_)
  have hsz : (s.heap.push { cls := .type "tuple", data := .seq #[a, b, c] }).objs.size = s.heap.objs.size + 1 := Heap.size_push ..
  refine ⟨_, [_, s.heap.objs.size], [_], _, _, _, _, rfl, Walks.tuple (A := A.in1) hh _ s.heap.objs.size (by rw [hsz]; exact Nat.ne_of_lt (Nat.lt_succ_self _)) #[a, b, c],
    ⟨⟨_, Heap.get?_push_size _ rfl, rfl, rfl⟩, hT.push _⟩, fun d hd => ?_, by simp, cmpOf_gt #[a, b, c] (by simp [ha, hb, hc]), fun v h' tk hP hk => ?_⟩
  · show d < ((s.heap.push _).push _).objs.size
    rw [Heap.size_push, hsz]
    rcases List.mem_cons.mp hd with rfl | hd
    · rw [hsz]; exact Nat.lt_succ_self _
    · rcases List.mem_cons.mp hd with rfl | hd
      · exact Nat.lt_succ_of_lt (Nat.lt_succ_self _)
      · cases hd
  · have hold : ∀ d o, s.heap.get? d = some o → h'.get? d = some o := fun d o e => by
      refine hk d o (fun hm => ?_) (Heap.get?_push_of_some _ (Heap.get?_push_of_some _ e))
      rcases List.mem_cons.mp hm with e1 | hm
      · have := Heap.lt_size e; rw [e1, hsz] at this; exact Nat.lt_irrefl _ (Nat.lt_of_succ_lt this)
      · cases hm
    have := h h' tk hold
    have hv : v = (if ltV (if ltV a b then b else a) c then c else (if ltV a b then b else a)) := by
      cases h1 : ltV a b <;> cases h2 : ltV a c <;> cases h3 : ltV b c <;> simp [argBest, h1, h2, h3] at hP <;> simp only [h1, h2, h3, if_true, if_false, Bool.false_eq_true] <;> exact hP.symm
    rw [hv]; exact this
theorem min3_num {a b c : Value} (hh : A.handled = none) (ha : NumV a) (hb : NumV b) (hc : NumV c)
    (h : ∀ h' tk, (∀ d o, s.heap.get? d = some o → h'.get? d = some o) →
      Q (if ltV c (if ltV b a then b else a) then c else (if ltV b a then b else a)) { s with heap := h', toks := tk }) :
    wpAny (model prog w) A (call (.builtin "min") [a, b, c]) Q E s := by
  have hT : (s.heap.push { cls := .type "tuple", data := .seq #[a, b, c] }).IsTuple s.heap.objs.size #[a, b, c] := ⟨_, Heap.get?_push_size _ rfl, rfl, 0, rfl⟩
  refine call_min_three (wpAny_pyIter_tuple hT ?_)
  have hsz : (s.heap.push { cls := .type "tuple", data := .seq #[a, b, c] }).objs.size = s.heap.objs.size + 1 := Heap.size_push ..
  refine ⟨_, [_, s.heap.objs.size], [_], _, _, _, _, rfl, Walks.tuple (A := A.in1) hh _ s.heap.objs.size (by rw [hsz]; exact Nat.ne_of_lt (Nat.lt_succ_self _)) #[a, b, c],
    ⟨⟨_, Heap.get?_push_size _ rfl, rfl, rfl⟩, hT.push _⟩, fun d hd => ?_, by simp, cmpOf_lt #[a, b, c] (by simp [ha, hb, hc]), fun v h' tk hP hk => ?_⟩
  · show d < ((s.heap.push _).push _).objs.size
    rw [Heap.size_push, hsz]
    rcases List.mem_cons.mp hd with rfl | hd
    · rw [hsz]; exact Nat.lt_succ_self _
    · rcases List.mem_cons.mp hd with rfl | hd
      · exact Nat.lt_succ_of_lt (Nat.lt_succ_self _)
      · cases hd
  · have hold : ∀ d o, s.heap.get? d = some o → h'.get? d = some o := fun d o e => by
      refine hk d o (fun hm => ?_) (Heap.get?_push_of_some _ (Heap.get?_push_of_some _ e))
      rcases List.mem_cons.mp hm with e1 | hm
      · have := Heap.lt_size e; rw [e1, hsz] at this; exact Nat.lt_irrefl _ (Nat.lt_of_succ_lt this)
      · cases hm
    have := h h' tk hold
    have hv : v = (if ltV c (if ltV b a then b else a) then c else (if ltV b a then b else a)) := by
      cases h1 : ltV b a <;> cases h2 : ltV c a <;> cases h3 : ltV c b <;> simp [argBest, h1, h2, h3] at hP <;> simp only [h1, h2, h3, if_true, if_false, Bool.false_eq_true] <;> exact hP.symm
    rw [hv]; exact this
variable {h₀ : Heap} {L : Addr} {m : Str → Option Value} {news : List (Addr × Obj)}
theorem max3_f {x y z : UInt64} {t u v : Tok} (hh : A.handled = none) (F : Fr h₀ L s.heap m) (N : News h₀ L s.heap news)
    (h : ∀ h' tk k, Fr h₀ L h' m → News h₀ L h' news → Q (.float (fmax3 x y z) k) { s with heap := h', toks := tk }) :
    wpAny (model prog w) A (call (.builtin "max") [.float x t, .float y u, .float z v]) Q E s := by
  refine max3_num hh (.float x t) (.float y u) (.float z v) fun h' tk kp => ?_
  have key := fun k => h h' tk k (F.grownK kp) (N.grown kp)
  unfold fmax3 at key
  cases h1 : ltV (.float x t) (.float y u)
  all_goals (have g1 := h1; simp only [ltV] at g1; simp only [g1, if_true, if_false, Bool.false_eq_true] at key ⊢)
  · cases h2 : ltV (.float x t) (.float z v) <;> (have g2 := h2; simp only [ltV] at g2; simp only [g2, if_true, if_false, Bool.false_eq_true] at key ⊢; exact key _)
  · cases h2 : ltV (.float y u) (.float z v) <;> (have g2 := h2; simp only [ltV] at g2; simp only [g2, if_true, if_false, Bool.false_eq_true] at key ⊢; exact key _)
theorem min3_f {x y z : UInt64} {t u v : Tok} (hh : A.handled = none) (F : Fr h₀ L s.heap m) (N : News h₀ L s.heap news)
    (h : ∀ h' tk k, Fr h₀ L h' m → News h₀ L h' news → Q (.float (fmin3 x y z) k) { s with heap := h', toks := tk }) :
    wpAny (model prog w) A (call (.builtin "min") [.float x t, .float y u, .float z v]) Q E s := by
  refine min3_num hh (.float x t) (.float y u) (.float z v) fun h' tk kp => ?_
  have key := fun k => h h' tk k (F.grownK kp) (N.grown kp)
  unfold fmin3 at key
  cases h1 : ltV (.float y u) (.float x t)
  all_goals (have g1 := h1; simp only [ltV] at g1; simp only [g1, if_true, if_false, Bool.false_eq_true] at key ⊢)
  · cases h2 : ltV (.float z v) (.float x t) <;> (have g2 := h2; simp only [ltV] at g2; simp only [g2, if_true, if_false, Bool.false_eq_true] at key ⊢; exact key _)
  · cases h2 : ltV (.float z v) (.float y u) <;> (have g2 := h2; simp only [ltV] at g2; simp only [g2, if_true, if_false, Bool.false_eq_true] at key ⊢; exact key _)
end
end Mine
end

-- L2
section
open PySem PySem.W PyProof.Rows PySem.Calls PySem.Spec
namespace Mine
local macro_rules | `(tactic| walk_at "call builtin:max") => `(tactic| (k_here; (with_reducible show wpAny _ _ (call _ [Value.float _ _, Value.float _ _, Value.float _ _]) _ _ _); (with_unfolding_all refine' Mine.max3_f ?k1 ?k2 ?k3 ?_; (case k1 => rfl); (case k2 => k_asm); (case k3 => k_asm)); intro h' tk' k' F' N'; (try k_sweep)))
local macro_rules | `(tactic| walk_at "call builtin:min") => `(tactic| (k_here; (with_reducible show wpAny _ _ (call _ [Value.float _ _, Value.float _ _, Value.float _ _]) _ _ _); (with_unfolding_all refine' Mine.min3_f ?k1 ?k2 ?k3 ?_; (case k1 => rfl); (case k2 => k_asm); (case k3 => k_asm)); intro h' tk' k' F' N'; (try k_sweep)))
abbrev Prog : Program := PySem.W.RowW.prog (PySem.W.OpenRow.toRowW (PySem.W.OpenLaw.row PySem.Challenge.rw_pg0259_01))
abbrev TopIs (s00 : Shared) (mg mb : Str → Option Value) (h : Heap) : Prop := Top hd.view_39 (looseW hd.view_39 [Str.ofString "Whitespace"]) (ExcName.means s00.heap) mg mb h
abbrev tup3 (x y z : Value) : Obj := { cls := .type "tuple", data := .seq #[x, y, z] }

/-- what hsv_to_rgb gives -/
def hsvI (h : UInt64) : Int := Flt.toInt Float64.truncOf (Float64.mul h 4618441417868443648)
def hsvOk (h : UInt64) : Bool := Float64.isFinite (Float64.mul h 4618441417868443648) && !Float64.isNaN (Float64.mul h 4618441417868443648) && !Float64.isInf (Float64.mul h 4618441417868443648) && decide ((hsvI h).natAbs < 2 ^ 53)
def hsvF (h s v : UInt64) : UInt64 × UInt64 × UInt64 :=
  if (Float64.cmp s 0 == some Ordering.eq) = true then (v, v, v) else
  let i := hsvI h
  let f := Float64.sub (Float64.mul h 4618441417868443648) (Float64.ofInt i)
  let p := Float64.mul v (Float64.sub 4607182418800017408 s)
  let q := Float64.mul v (Float64.sub 4607182418800017408 (Float64.mul s f))
  let t := Float64.mul v (Float64.sub 4607182418800017408 (Float64.mul s (Float64.sub 4607182418800017408 f)))
  if i.fmod 6 = 0 then (v, t, p)
  else if i.fmod 6 = 1 then (q, v, p)
  else if i.fmod 6 = 2 then (p, v, t)
  else if i.fmod 6 = 3 then (p, q, v)
  else if i.fmod 6 = 4 then (t, p, v)
  else (v, p, q)
def hlsOk (r g b : UInt64) : Bool :=
  let M := fmax3 r g b
  let m := fmin3 r g b
  !(Float64.cmp m M == some Ordering.eq) && !Float64.isZero (Float64.sub M m) && !Float64.isZero (Float64.add M m) && !Float64.isZero (Float64.sub (Float64.sub 4611686018427387904 M) m)
def hlsH (r g b : UInt64) : UInt64 :=
  let M := fmax3 r g b
  let d := Float64.sub M (fmin3 r g b)
  let rc := Float64.div (Float64.sub M r) d
  let gc := Float64.div (Float64.sub M g) d
  let bc := Float64.div (Float64.sub M b) d
  let h := if (Float64.cmp r M == some Ordering.eq) = true then Float64.sub bc gc
    else if (Float64.cmp g M == some Ordering.eq) = true then Float64.sub (Float64.add 4611686018427387904 rc) bc
    else Float64.sub (Float64.add 4616189618054758400 gc) rc
  (Float64.divmod (Float64.div h 4618441417868443648) 4607182418800017408).snd

set_option maxRecDepth 100000 in
set_option maxHeartbeats 8000000 in
theorem hsv_c (w : World) (s00 : Shared) (mg mb : Str → Option Value) (hh sat val : UInt64) (hok : hsvOk hh = true) :
  ∀ (dp un : Nat) (gd : Option (List Code)) (cn : Str) (cs : Scope) (a : Addr) (ccd : Value) (cl : List (Str × Addr)) (outer : List Env) (A₀ : Around) (base h₀ : Heap) (L : Addr) (m : Str → Option Value) (news : List (Addr × Obj)) (s : Shared) (Q E : Value → Shared → Prop) (t1 t2 t3 : Tok),
    Below A₀ base outer h₀ → Fr h₀ L s.heap m → (hd.heap_39 w.params).In h₀ → News h₀ L s.heap news → TopIs s00 mg mb h₀ → cs.kind = .function →
    dp + 1 < recursionLimit → un + 8 < cLine →
    (∀ (t : Addr) (k1 k2 k3 : Tok) (R G B : UInt64) (h' : Heap) (tk' : Nat), hsvF hh sat val = (R, G, B) → Fr h₀ L h' m → News h₀ L h' ((t, tup3 (.float R k1) (.float G k2) (.float B k3)) :: news) → (∀ p ∈ news, p.1 < t) → Q (.ref t) { s with heap := h', toks := tk' }) →
      wpAny (model Prog w) (ktrTop dp un gd cn cs L a ccd cl outer) (call (.ref 101) [.float hh t1, .float sat t2, .float val t3]) Q E s := by
  unfold Prog TopIs
  k_fill
  have hk1 : Float64.isNaN (Float64.mul hh 4618441417868443648) = false := by
    unfold hsvOk at hok; simp only [Bool.and_eq_true, Bool.not_eq_true'] at hok; exact hok.1.1.2
  have hk2 : Float64.isInf (Float64.mul hh 4618441417868443648) = false := by
    unfold hsvOk at hok; simp only [Bool.and_eq_true, Bool.not_eq_true'] at hok; exact hok.1.2
  have hk3 : (hsvI hh).natAbs < 2 ^ 53 := by
    unfold hsvOk at hok; simp only [Bool.and_eq_true, decide_eq_true_eq] at hok; exact hok.2
  have hk4 : ¬ (2 ^ 1024 - 2 ^ 970 ≤ (Flt.toInt Float64.truncOf (Float64.mul hh 4618441417868443648)).natAbs) := by
    intro h
    have := Nat.lt_of_le_of_lt h hk3
    exact absurd this (by decide)
  clear hk3 hok
  w_strict (
    intro dp un gd cn cs a ccd cl outer A₀ base h₀ L m news s Q E t1 t2 t3 hB hF hX hN hT hcs hdp hun hret
    refine wpAny_call ?_
    k_dflt cell_enter
    k_steps

    all_goals first
      | (exfalso; (first | (exact hk4 (by assumption)) | (rename Float64.isNaN _ = true => hbad; rw [hk1] at hbad; cases hbad) | (rename Float64.isInf _ = true => hbad; rw [hk2] at hbad; cases hbad)); done)
      | (refine hret _ _ _ _ _ _ _ _ _ ?e (by assumption) (by assumption) (by assumption); (case e => (unfold hsvF; unfold hsvI; repeat (first | rw [if_pos (by assumption)] | rw [if_neg (by assumption)] | rw [if_neg (by rw [Bool.not_eq_true]; assumption)])); done))
      | (exfalso; have h1 := Int.fmod_nonneg_of_pos (Flt.toInt Float64.truncOf (Float64.mul hh 4618441417868443648)) (show (0 : Int) < 6 by decide); have h2 := Int.fmod_lt_of_pos (Flt.toInt Float64.truncOf (Float64.mul hh 4618441417868443648)) (show (0 : Int) < 6 by decide); omega)
      )
set_option maxRecDepth 100000 in
set_option maxHeartbeats 8000000 in
theorem hls_c (w : World) (s00 : Shared) (mg mb : Str → Option Value) (r g b : UInt64) (hok : hlsOk r g b = true) :
  ∀ (dp un : Nat) (gd : Option (List Code)) (cn : Str) (cs : Scope) (a : Addr) (ccd : Value) (cl : List (Str × Addr)) (outer : List Env) (A₀ : Around) (base h₀ : Heap) (L : Addr) (m : Str → Option Value) (news : List (Addr × Obj)) (s : Shared) (Q E : Value → Shared → Prop) (t1 t2 t3 : Tok),
    Below A₀ base outer h₀ → Fr h₀ L s.heap m → (hd.heap_39 w.params).In h₀ → News h₀ L s.heap news → TopIs s00 mg mb h₀ → cs.kind = .function →
    dp + 1 < recursionLimit → un + 8 < cLine →
    (∀ (t : Addr) (k1 k2 k3 : Tok) (x y z : UInt64) (h' : Heap) (tk' : Nat), x = hlsH r g b → Fr h₀ L h' m → News h₀ L h' ((t, tup3 (.float x k1) (.float y k2) (.float z k3)) :: news) → (∀ p ∈ news, p.1 < t) → Q (.ref t) { s with heap := h', toks := tk' }) →
      wpAny (model Prog w) (ktrTop dp un gd cn cs L a ccd cl outer) (call (.ref 94) [.float r t1, .float g t2, .float b t3]) Q E s := by
  unfold Prog TopIs
  k_fill
  have hk1 : (Float64.cmp (fmin3 r g b) (fmax3 r g b) == some Ordering.eq) = false := by
    unfold hlsOk at hok; simp only [Bool.and_eq_true, Bool.not_eq_true'] at hok; exact hok.1.1.1
  have hk2 : Float64.isZero (Float64.sub (fmax3 r g b) (fmin3 r g b)) = false := by
    unfold hlsOk at hok; simp only [Bool.and_eq_true, Bool.not_eq_true'] at hok; exact hok.1.1.2
  have hk3 : Float64.isZero (Float64.add (fmax3 r g b) (fmin3 r g b)) = false := by
    unfold hlsOk at hok; simp only [Bool.and_eq_true, Bool.not_eq_true'] at hok; exact hok.1.2
  have hk4 : Float64.isZero (Float64.sub (Float64.sub 4611686018427387904 (fmax3 r g b)) (fmin3 r g b)) = false := by
    unfold hlsOk at hok; simp only [Bool.and_eq_true, Bool.not_eq_true'] at hok; exact hok.2
  clear hok
  w_strict (
    intro dp un gd cn cs a ccd cl outer A₀ base h₀ L m news s Q E t1 t2 t3 hB hF hX hN hT hcs hdp hun hret
    refine wpAny_call ?_
    k_dflt cell_enter
    k_steps
    all_goals first
      | (exfalso; (first | (rename (Float64.cmp _ _ == _) = true => hbad; rw [hk1] at hbad; cases hbad; done) | (rename Float64.isZero _ = true => hbad; first | (rw [hk2] at hbad; cases hbad; done) | (rw [hk3] at hbad; cases hbad; done) | (rw [hk4] at hbad; cases hbad; done))))
      | (refine hret _ _ _ _ _ _ _ _ _ ?e (by assumption) (by assumption) (by assumption); (case e => (unfold hlsH; dsimp only; repeat (first | rw [if_pos (by assumption)] | rw [if_neg (by assumption)] | rw [if_neg (by rw [Bool.not_eq_true]; assumption)])); done)))
end Mine
end

-- L3
section
open PySem PySem.W PyProof.Rows PySem.Calls PySem.Spec
namespace Mine
def wordT (i : Nat) : Str := match i with
  | 0 => Str.ofString "ABCd" | 1 => Str.ofString "ABCD" | 2 => Str.ofString "aBCD" | 3 => Str.ofString "abCD"
  | 4 => Str.ofString "abcD" | 5 => Str.ofString "abcd" | 6 => Str.ofString "Abcd" | _ => Str.ofString "ABcd"
def wordF (k : Int) : Str := wordT k.toNat
def kFl (k : Nat) : UInt64 := Float64.ofFrac false k 8
def satF (a : Nat) : UInt64 := Float64.ofFrac false (1 + a) 4
/-- one hue at one saturation and value: the two colour functions go through and tell the hue -/
def turnOk (k a b : Nat) : Bool :=
  let q := hsvF (kFl k) (satF a) (satF b)
  let y := Float64.mul (Float64.ofInt 8) (hlsH q.1 q.2.1 q.2.2)
  hlsOk q.1 q.2.1 q.2.2 && !Float64.isNaN y && !Float64.isInf y && decide (Flt.toInt Float64.nearestOf y = (k : Int))
def okK (k : Nat) : Bool := hsvOk (kFl k) && (List.range 4).all fun a => (List.range 4).all fun b => turnOk k a b
set_option maxRecDepth 100000 in
theorem okK0 : okK 0 = true := by decide +kernel
set_option maxRecDepth 100000 in
theorem okK1 : okK 1 = true := by decide +kernel
set_option maxRecDepth 100000 in
theorem okK2 : okK 2 = true := by decide +kernel
set_option maxRecDepth 100000 in
theorem okK3 : okK 3 = true := by decide +kernel
set_option maxRecDepth 100000 in
theorem okK4 : okK 4 = true := by decide +kernel
set_option maxRecDepth 100000 in
theorem okK5 : okK 5 = true := by decide +kernel
set_option maxRecDepth 100000 in
theorem okK6 : okK 6 = true := by decide +kernel
set_option maxRecDepth 100000 in
theorem okK7 : okK 7 = true := by decide +kernel
theorem all_ok : ((List.range 8).all fun k => hsvOk (kFl k) && (List.range 4).all fun a => (List.range 4).all fun b => turnOk k a b) = true := by
  rw [List.all_eq_true]
  intro k hk
  rw [List.mem_range] at hk
  show okK k = true
  have h : k = 0 ∨ k = 1 ∨ k = 2 ∨ k = 3 ∨ k = 4 ∨ k = 5 ∨ k = 6 ∨ k = 7 := by omega
  rcases h with rfl | rfl | rfl | rfl | rfl | rfl | rfl | rfl
  · exact okK0
  · exact okK1
  · exact okK2
  · exact okK3
  · exact okK4
  · exact okK5
  · exact okK6
  · exact okK7
theorem hsv_ok {k : Int} (h0 : 0 ≤ k) (h8 : k < 8) : hsvOk (Float64.ofFrac false k.toNat 8) = true := by
  have h := all_ok
  rw [List.all_eq_true] at h
  have := h k.toNat (by rw [List.mem_range]; omega)
  rw [Bool.and_eq_true] at this
  exact this.1
theorem turn_ok {k n : Int} (h0 : 0 ≤ k) (h8 : k < 8) {R G B : UInt64}
    (e : hsvF (Float64.ofFrac false k.toNat 8) (Float64.ofFrac false (1 + (n.fdiv 2).fmod 4).toNat 4) (Float64.ofFrac false (1 + (n.fdiv 8).fmod 4).toNat 4) = (R, G, B)) :
    hlsOk R G B = true ∧ Float64.isNaN (Float64.mul (Float64.ofInt 8) (hlsH R G B)) = false ∧ Float64.isInf (Float64.mul (Float64.ofInt 8) (hlsH R G B)) = false ∧ Flt.toInt Float64.nearestOf (Float64.mul (Float64.ofInt 8) (hlsH R G B)) = k := by
  have h := all_ok
  rw [List.all_eq_true] at h
  have h1 := h k.toNat (by rw [List.mem_range]; omega)
  rw [Bool.and_eq_true, List.all_eq_true] at h1
  have a0 := Int.fmod_nonneg_of_pos (n.fdiv 2) (show (0 : Int) < 4 by decide)
  have a1 := Int.fmod_lt_of_pos (n.fdiv 2) (show (0 : Int) < 4 by decide)
  have b0 := Int.fmod_nonneg_of_pos (n.fdiv 8) (show (0 : Int) < 4 by decide)
  have b1 := Int.fmod_lt_of_pos (n.fdiv 8) (show (0 : Int) < 4 by decide)
  have h2 := h1.2 ((n.fdiv 2).fmod 4).toNat (by rw [List.mem_range]; omega)
  rw [List.all_eq_true] at h2
  have h3 := h2 ((n.fdiv 8).fmod 4).toNat (by rw [List.mem_range]; omega)
  have ea : (1 + (n.fdiv 2).fmod 4).toNat = 1 + ((n.fdiv 2).fmod 4).toNat := by omega
  have eb : (1 + (n.fdiv 8).fmod 4).toNat = 1 + ((n.fdiv 8).fmod 4).toNat := by omega
  rw [ea, eb] at e
  unfold turnOk at h3
  have e' : hsvF (kFl k.toNat) (satF ((n.fdiv 2).fmod 4).toNat) (satF ((n.fdiv 8).fmod 4).toNat) = (R, G, B) := e
  rw [e'] at h3
  simp only [Bool.and_eq_true, Bool.not_eq_true', decide_eq_true_eq] at h3
  refine ⟨h3.1.1.1, h3.1.1.2, h3.1.2, ?_⟩
  rw [h3.2]; omega
end Mine
end

-- L4
section
open PySem PySem.W PyProof.Rows PySem.Calls PySem.Spec
namespace Mine
theorem ints_get : ∀ {vs : List Value} {ns : List Int}, IntsAre vs ns → ∀ {k : Nat}, k < ns.length → ∃ t, vs[k]? = some (.int (ns.getD k 0) t) := by
  intro vs ns hi k hk
  have hk' : k < vs.length := by rw [hi.length]; exact hk
  obtain ⟨n, t, e, hn⟩ := IntsAre.at hi k vs[k] (by rw [List.getElem?_eq_getElem hk'])
  refine ⟨t, ?_⟩
  rw [List.getElem?_eq_getElem hk', e]
  rw [List.getD_eq_getElem?_getD, hn]
  rfl
section
variable {prog : Program} {w : World} {A : Around} {E : Value → Shared → Prop} {s : Shared} {Q : Value → Shared → Prop} {h₀ : Heap} {L l : Addr} {m : Str → Option Value} {news : List (Addr × Obj)} {vs : List Value} {ns : List Int} {c : Nat}
theorem item_made {value slice : PySem.Expr} {k : Int} {u : Tok} (N : News h₀ L s.heap news) (hm : (l, W.listOf vs.toArray c) ∈ news) (hi : IntsAre vs ns) (h0 : 0 ≤ k) (hk : k.toNat < ns.length) (hl : k < 2 ^ 63)
    (h : ∀ t, Q (.int (ns.getD k.toNat 0) t) s)
    (hs : subscripted slice false (.ref l) (.int k u) = operate [.ref l, .int k u] (getItem (.ref l) (.int k u)) := by with_unfolding_all rfl) :
    wpAny (model prog w) A (subscriptTail value slice (.ref l) (.int k u)) Q E s := by
  obtain ⟨t, ht⟩ := ints_get hi hk
  have hL : s.heap.IsList l vs.toArray := ⟨_, (N _ hm).1, rfl, c, rfl⟩
  exact tail_any hL.typeIs slot_list_getitem.lookup (wpAny_getItem_list hL h0 hl (by simpa using ht) (h t)) hs
theorem strs_get : ∀ {vs : List Value} {ss : List Str}, StrsAre vs ss → ∀ {k : Nat}, k < ss.length → ∃ t, vs[k]? = some (.str (ss.getD k Str.empty) t) := by
  intro vs ss hi k hk
  obtain ⟨t, e⟩ := StrsAre.get hi k ss[k] (List.getElem?_eq_getElem hk)
  refine ⟨t, ?_⟩
  rw [e, List.getD_eq_getElem?_getD, List.getElem?_eq_getElem hk]
  rfl
theorem text_made {value slice : PySem.Expr} {k : Int} {u : Tok} {ss : List Str} {x : Str} (N : News h₀ L s.heap news) (hm : (l, W.listOf vs.toArray c) ∈ news) (hi : StrsAre vs ss) (h0 : 0 ≤ k) (hk : k.toNat < ss.length) (hl : k < 2 ^ 63)
    (hx : ss.getD k.toNat Str.empty = x) (h : ∀ t, Q (.str x t) s)
    (hs : subscripted slice false (.ref l) (.int k u) = operate [.ref l, .int k u] (getItem (.ref l) (.int k u)) := by with_unfolding_all rfl) :
    wpAny (model prog w) A (subscriptTail value slice (.ref l) (.int k u)) Q E s := by
  obtain ⟨t, ht⟩ := strs_get hi hk
  rw [hx] at ht
  have hL : s.heap.IsList l vs.toArray := ⟨_, (N _ hm).1, rfl, c, rfl⟩
  exact tail_any hL.typeIs slot_list_getitem.lookup (wpAny_getItem_list hL h0 hl (by simpa using ht) (h t)) hs
theorem len_carried {D : Addr} {ys : List Value} {xs : List Int} (hl : s.heap.IsList D ys.toArray) (hc : CarriedAll ys (xs.map PyData.int)) (hx : xs.length ≤ 1000)
    (h : ∀ t k, Q (.int (xs.length : Int) t) { s with toks := k }) : wpAny (model prog w) A (call (.builtin "len") [.ref D]) Q E s := by
  have e : ys.toArray.size = xs.length := by
    rw [List.size_toArray, hc.length_eq, List.length_map]
  exact len_list hl (by rw [e]; omega) (by rw [e]; exact h _ _)
theorem div_small {x : Int} {d : Int} {t u : Tok} (hA : A.handled = none) (hd : 0 < d) (h0 : 0 ≤ x) (h1 : x < 2 ^ 60)
    (h : ∀ k, Q (.float (Float64.ofFrac false x.toNat d.toNat) k) { s with toks := s.toks + 1 }) : wpAny (model prog w) A (binaryOp .Div (.int x t) (.int d u)) Q E s := by
  refine Flt.div_ii_fits hA ?_ (fun e => absurd e (by omega)) (fun _ _ => ?_)
  · have e : x.natAbs < 2 ^ 60 := by omega
    exact Nat.lt_of_lt_of_le e (Nat.pow_le_pow_right (by decide) (by decide))
  · have e1 : decide (x < 0) = false := decide_eq_false (by omega)
    have e2 : decide (d < 0) = false := decide_eq_false (by omega)
    have e3 : x.natAbs = x.toNat := by omega
    have e4 : d.natAbs = d.toNat := by omega
    rw [e1, e2, e3, e4]
    exact h _
theorem round_fl {x : UInt64} {t : Tok} (hA : A.handled = none) (hn : Float64.isNaN x = false) (hi : Float64.isInf x = false)
    (h : ∀ k, Q (.int (Flt.toInt Float64.nearestOf x) k) { s with toks := s.toks + 1 }) : wpAny (model prog w) A (call (.builtin "round") [.float x t]) Q E s :=
  Flt.call_round_float hA (fun e => by rw [hn] at e; cases e) (fun e => by rw [hi] at e; cases e) (fun _ => h _)
end
end Mine
end

-- L5
section
open PySem PySem.W PyProof.Rows PySem.Calls PySem.Spec
namespace Mine
structure IsP (p : Int) : Prop where
abbrev getP {p : Int} (_ : IsP p) : Int := p
def wordCh (p k : Int) : Str := if (p - k + 2).fmod 8 < 4 then Txt.item (Str.ofString "ABCD") k else Txt.item (Str.ofString "abcd") k
theorem wordCh_up {p k : Int} (h : (p - k + 2).fmod 8 < 4) : wordCh p k = Txt.item (Str.ofString "ABCD") k := if_pos h
theorem wordCh_lo {p k : Int} (h : ¬ (p - k + 2).fmod 8 < 4) : wordCh p k = Txt.item (Str.ofString "abcd") k := if_neg h
theorem word_eq {p : Int} (h0 : 0 ≤ p) (h8 : p < 8) : Txt.join (Str.ofString "") ((rangeKs 0 4).map (wordCh p)) = wordF p := by
  have h8 : p = 0 ∨ p = 1 ∨ p = 2 ∨ p = 3 ∨ p = 4 ∨ p = 5 ∨ p = 6 ∨ p = 7 := by omega
  rcases h8 with h8 | h8 | h8 | h8 | h8 | h8 | h8 | h8 <;> subst h8 <;> decide +kernel
theorem wordCh_len {p k : Int} (h0 : 0 ≤ p) (h8 : p < 8) (hk : k ∈ rangeKs 0 4) : (wordCh p k).length ≤ 10 := by
  have k0 := (mem_rangeKs hk).1
  have k1 := (mem_rangeKs hk).2
  have h8 : p = 0 ∨ p = 1 ∨ p = 2 ∨ p = 3 ∨ p = 4 ∨ p = 5 ∨ p = 6 ∨ p = 7 := by omega
  have h9 : k = 0 ∨ k = 1 ∨ k = 2 ∨ k = 3 := by omega
  rcases h8 with h8 | h8 | h8 | h8 | h8 | h8 | h8 | h8 <;> subst h8 <;> (rcases h9 with h9 | h9 | h9 | h9 <;> subst h9 <;> decide +kernel)
theorem ite_dec {p : Prop} [Decidable p] {a b : Prop} (h1 : p → a) (h2 : ¬ p → b) : if decide p = true then a else b := by
  by_cases h : p
  · rw [if_pos (decide_eq_true h)]; exact h1 h
  · rw [if_neg (by rw [decide_eq_true_eq]; exact h)]; exact h2 h
local macro_rules | `(tactic| walk_at "ite") => `(tactic| ((with_reducible show (if decide (Int.fmod _ 8 < 4) = true then _ else _ : Prop)); (with_reducible refine Mine.ite_dec ?_ ?_) <;> intro hc))
local macro_rules | `(tactic| walk_at "CompSrc") => `(tactic| (k_here; (rename Mine.IsP _ => hpp); k_dflt (refine LCg.CompSrc.range (by rfl) (by k_asm) (by k_asm) (by assumption) (by decide) (by first | exact rangeSize_nat _ _ | rfl) (by exact Nat.le_of_ble_eq_true rfl) ?_; intro g'; (refine' kct_range (Mine.wordCh (Mine.getP hpp)) (fun k' t' I' oI' C' oC' D' m' ys' h' tk' E' hlo' hhi' hC' hx' F' N' off' ne' => ?_) ?_); (all_goals (try (simp only [LCg.Off3, and_true] at off'))); (all_goals (try ((show KPfMark → _); intro hMark'))); kcf_last)))
local macro_rules | `(tactic| walk_at "CompEnd") => `(tactic| (refine LCg.CompEnd.intro (by assumption) (by assumption) _ ?cA ?cO ?cS (kct_el ?kce rfl (by with_unfolding_all rfl)); (case kce => first | exact Mine.wordCh_up (by assumption) | exact Mine.wordCh_lo (by assumption)); (case cA => kcf_all); (case cO => first | assumption | (simp only [LCg.Off3, and_true]; done) | (simp only [LCg.Off3, and_true]; assumption)); (case cS => first | lcg_src | assumption)))
local macro_rules | `(tactic| walk_at "call builtin:str.join") => `(tactic| (k_here; k_dflt ((show wpAny _ _ (call (Value.builtin "str.join") [Value.str _ _, Value.ref _]) _ _ _); (with_reducible rename CarriedAll _ (List.map _ _) => ktC); (with_reducible rename (0 : Int) ≤ _ => hp0'); (with_reducible rename _ < (8 : Int) => hp8'); (refine KT.join_B 10 ?j1 ktC ?j2 ?j3 ?j4 ?_); (case j1 => first | assumption | is_list | exact News.isList (by k_asm) (by k_mem)); (case j2 => exact (fun ktA ktM => Mine.wordCh_len hp0' hp8' ktM)); (case j3 => decide); (case j4 => decide)); intro _ _))
local macro_rules | `(tactic| walk_at "subscriptTail Constant str Name str int") => `(tactic| (k_here; (refine KXi.item (n := 4) (by with_unfolding_all rfl) (by omega) (by omega) (by decide) ?_); intro kxiE))
set_option maxRecDepth 100000 in
set_option maxHeartbeats 8000000 in
theorem word_c (w : World) (s00 : Shared) (mg mb : Str → Option Value) (p : Int) (hp0 : 0 ≤ p) (hp8 : p < 8) :
  ∀ (dp un : Nat) (gd : Option (List Code)) (cn : Str) (cs : Scope) (a : Addr) (ccd : Value) (cl : List (Str × Addr)) (outer : List Env) (A₀ : Around) (base h₀ : Heap) (L : Addr) (m : Str → Option Value) (news : List (Addr × Obj)) (s : Shared) (Q E : Value → Shared → Prop) (t1 : Tok),
    Below A₀ base outer h₀ → Fr h₀ L s.heap m → (hd.heap_39 w.params).In h₀ → News h₀ L s.heap news → TopIs s00 mg mb h₀ → cs.kind = .function →
    dp + 1 < recursionLimit → un + 8 < cLine →
    (∀ (t : Tok) (h' : Heap) (tk' : Nat), Fr h₀ L h' m → News h₀ L h' news → Q (.str (wordF p) t) { s with heap := h', toks := tk' }) →
      wpAny (model Prog w) (ktrTop dp un gd cn cs L a ccd cl outer) (call (.ref 120) [.int p t1]) Q E s := by
  unfold Prog TopIs
  w_on
  k_fill
  w_strict (
    intro dp un gd cn cs a ccd cl outer A₀ base h₀ L m news s Q E t1 hB hF hX hN hT hcs hdp hun hret
    have hpp : IsP p := IsP.mk
    refine wpAny_call ?_
    k_dflt ((refine' code_defC ?k1 ?k2 ?k3 ?k4 ?k5 ?kA ?kF ?kK ?k6 ?k7 ?k8 ?k9 ?kB ?kD ?_ ?c2 ?c3 ?c4; (case kA => exact rfl); (case kF => exact rfl); (case kK => assumption); (case k1 => k_asm); (case k2 => k_asm); (case k3 => k_asm); (case k4 => k_asm); (case k5 => k_asm); (case k6 => k_is); (case k7 => k_is); (case k8 => ktr_room); (case k9 => exact BindsTo.of_eq rfl); (case kB => exact rfl); (case kD => decide +kernel); (case c2 => exact rfl); (case c3 => exact rfl); (case c4 => exact rfl); k_whole; intro g' L' h' tk' cells' FG' F' N' Y' B' X' T' l1; k_cells Y'; (try simp only [List.cons_append, List.nil_append] at N'); (try dsimp only); (try k_lift B'); (try k_fold)))
    (repeat' (first | (k_unfold; (try dsimp only)) | (k_end; wrow_close) | walk1 | (dsimp only; walk1) | (leave1; walk_say "STEP leave1"; try dsimp only) | fail "no step"))
    refine' cb_retS (Q := Q) (s := s) hret ?e1 ?e2 ?e3
    case e1 => exact word_eq (by assumption) (by assumption)
    case e2 => k_asm
    case e3 => first | k_asm | (refine' cb_drop ?cbN ?cbS; (case cbN => assumption); (case cbS => kcj_all)))
end Mine
end

-- L6
section
open PySem PySem.W PyProof.Rows PySem.Calls PySem.Spec
namespace Mine
/-- the distance of two places on the wheel -/
def farF (j k : Int) : Int := min (k - j) (8 - k + j)
def par (NS : List Int) (i : Nat) : Int := (NS.getD i 0).fmod 2
/-- the runs of kind c that place k adds with the places below n -/
def rowOf (NS : List Int) (c : Int) (k n : Nat) : List Int :=
  ((List.range n).filter fun j => par NS j == par NS k && par NS k == c).map fun (j : Nat) => farF (j : Int) (k : Int)
def runsTo (NS : List Int) (c : Int) (n : Nat) : List Int := (List.range n).flatMap fun k => rowOf NS c k k
theorem rowOf_succ (NS : List Int) (c : Int) (k n : Nat) : rowOf NS c k (n + 1) = rowOf NS c k n ++ (if par NS n = par NS k ∧ par NS k = c then [farF n k] else []) := by
  unfold rowOf
  rw [List.range_succ, List.filter_append, List.map_append]
  congr 1
  by_cases h : par NS n = par NS k ∧ par NS k = c
  · rw [if_pos h]; simp [h.1, h.2]
  · rw [if_neg h]
    have : (par NS n == par NS k && par NS k == c) = false := by
      rw [Bool.and_eq_false_iff]
      by_cases h1 : par NS n = par NS k
      · right; rw [beq_eq_false_iff_ne]; exact fun e => h ⟨h1, e⟩
      · left; rw [beq_eq_false_iff_ne]; exact h1
    simp [this]
theorem runsTo_succ (NS : List Int) (c : Int) (n : Nat) : runsTo NS c (n + 1) = runsTo NS c n ++ rowOf NS c n n := by
  unfold runsTo
  rw [List.range_succ, List.flatMap_append, List.flatMap_cons, List.flatMap_nil, List.append_nil]
theorem rowOf_len (NS : List Int) (c : Int) (k n : Nat) : (rowOf NS c k n).length ≤ n := by
  unfold rowOf
  rw [List.length_map]
  exact Nat.le_trans (List.length_filter_le _ _) (by rw [List.length_range]; exact Nat.le_refl _)
theorem runsTo_len (NS : List Int) (c : Int) : ∀ n, n ≤ 8 → (runsTo NS c n).length ≤ 8 * n := by
  intro n
  induction n with
  | zero => intro _; simp [runsTo]
  | succ n ih =>
    intro h
    rw [runsTo_succ, List.length_append]
    have := ih (by omega)
    have := rowOf_len NS c n n
    omega

abbrev RS := List Value × List Int × Nat × List Value × List Int × Nat
abbrev rsLed (R A B Wd D : Addr) (ow od : Obj) (c : RS) : List (Addr × Obj) :=
  [(R, W.listOf #[.ref A, .ref B] 0), (B, W.listOf c.2.2.2.1.toArray c.2.2.2.2.2), (A, W.listOf c.1.toArray c.2.2.1), (Wd, ow), (D, od)]
abbrev rsFacts (c : RS) : Prop := IntsAre c.1 c.2.1 ∧ IntsAre c.2.2.2.1 c.2.2.2.2.1
abbrev rsP (NS : List Int) (pre : List Int) (c : RS) : Prop := c.2.1 = runsTo NS 0 pre.length ∧ c.2.2.2.2.1 = runsTo NS 1 pre.length
abbrev rsQ (NS N0 N1 : List Int) (k : Nat) (pre : List Int) (c : RS) : Prop := c.2.1 = N0 ++ rowOf NS 0 k pre.length ∧ c.2.2.2.2.1 = N1 ++ rowOf NS 1 k pre.length
section
variable {prog : Program} {w : World} {A : Around} {E : Value → Shared → Prop} {s : Shared} {env : Env} {h₀ : Heap} {x : Str} {body : List Stmt} {Q : Flow → Shared → Prop}
theorem loop2 {r R P P1 Wd D : Addr} {ow od : Obj} {t₀ u₀ v₀ : Tok} {m₀ : Str → Option Value} {rest : List (Addr × Obj)} {NS : List Int} (uhlen : NS.length = 8)
    (hh : A.handled = none) (hr : IsRange s.heap r 0 8 1 t₀ u₀ v₀) (F : Fr h₀ env.locals s.heap m₀)
    (N : News h₀ env.locals s.heap ((R, W.listOf #[.ref P, .ref P1] 0) :: (P1, W.listOf #[] 0) :: (P, W.listOf #[] 0) :: (Wd, ow) :: (D, od) :: rest))
    (turn : ∀ (vs0 : List Value) (ns0 : List Int) (c0 : Nat) (vs1 : List Value) (ns1 : List Int) (c1 : Nat) (pre : List Int) (k : Int) t (u : Str → Option Value) h tk own, k = (pre.length : Int) → pre.length < 8 → OwnOff own [R, P1, P, Wd, D] →
      IntsAre vs0 ns0 → IntsAre vs1 ns1 → ns0 = runsTo NS 0 pre.length → ns1 = runsTo NS 1 pre.length → vs0.length ≤ 64 → vs1.length ≤ 64 →
      Fr h₀ env.locals h (fun y => if y = x then some (.int k t) else (if [Str.ofString "j", Str.ofString "far"].contains y then u y else m₀ y)) →
      News h₀ env.locals h ((R, W.listOf #[.ref P, .ref P1] 0) :: (P1, W.listOf vs1.toArray c1) :: (P, W.listOf vs0.toArray c0) :: (Wd, ow) :: (D, od) :: own) →
      wpAny (model prog w) A (execs body env) (InvPostN h₀ env.locals (KstS (rsLed R P P1 Wd D ow od) (fun _ => []) rsFacts x [Str.ofString "j", Str.ofString "far"] m₀ (rsP NS) (pre ++ [k])) own [R, P1, P, Wd, D] { s with heap := h, toks := tk } Q) E { s with heap := h, toks := tk })
    (done : ∀ (vs0 : List Value) (ns0 : List Int) (c0 : Nat) (vs1 : List Value) (ns1 : List Int) (c1 : Nat) (u : Str → Option Value) h tk,
      IntsAre vs0 ns0 → IntsAre vs1 ns1 → ns0 = runsTo NS 0 8 → ns1 = runsTo NS 1 8 → vs0.length ≤ 64 → vs1.length ≤ 64 →
      Fr h₀ env.locals h (fun y => if y = x then u y else (if [Str.ofString "j", Str.ofString "far"].contains y then u y else m₀ y)) →
      News h₀ env.locals h [(R, W.listOf #[.ref P, .ref P1] 0), (P1, W.listOf vs1.toArray c1), (P, W.listOf vs0.toArray c0), (Wd, ow), (D, od)] → Q .next { s with heap := h, toks := tk }) :
    wpAny (model prog w) A (pyIter (.ref r)) (fun it s₂ => LoopAtV prog w A h₀ env x body Q E it s₂) E s := by
  refine kst_range (n := 8) (rsLed R P P1 Wd D ow od) (fun _ => []) rsFacts [Str.ofString "j", Str.ofString "far"] (rsP NS) ([], [], 0, [], [], 0) hh hr (by decide) rfl F
    (fun p hp => N p ?_) ⟨.nil, .nil⟩ (fun p hp => nomatch hp) ⟨rfl, rfl⟩ ?_ ?_
  · simp only [List.mem_cons, List.not_mem_nil, or_false] at hp ⊢
    rcases hp with rfl | rfl | rfl | rfl | rfl <;> simp
  · rintro ⟨vs0, ns0, c0, vs1, ns1, c1⟩ pre k t u h tk own hk hl off ⟨f0, f1⟩ ⟨p0, p1⟩ F' N'
    have b0 := runsTo_len NS 0 pre.length (by omega)
    have b1 := runsTo_len NS 1 pre.length (by omega)
    rw [← p0, ← f0.length] at b0
    rw [← p1, ← f1.length] at b1
    dsimp only at b0 b1
    exact turn vs0 ns0 c0 vs1 ns1 c1 pre k t u h tk own (by omega) hl off f0 f1 p0 p1 (by omega) (by omega) F' N'
  · rintro ⟨vs0, ns0, c0, vs1, ns1, c1⟩ u h tk ⟨f0, f1⟩ ⟨p0, p1⟩ F' N'
    have p0' : ns0 = runsTo NS 0 8 := p0
    have p1' : ns1 = runsTo NS 1 8 := p1
    have b0 := runsTo_len NS 0 8 (by omega)
    have b1 := runsTo_len NS 1 8 (by omega)
    rw [← p0', ← f0.length] at b0
    rw [← p1', ← f1.length] at b1
    dsimp only at b0 b1
    exact done vs0 ns0 c0 vs1 ns1 c1 u h tk f0 f1 p0' p1' (by omega) (by omega) F' N'
theorem loop2in {r R P P1 Wd D : Addr} {ow od : Obj} {t₀ u₀ v₀ : Tok} {m₀ : Str → Option Value} {rest : List (Addr × Obj)} {va vb : List Value} {N0 N1 : List Int} {ca cb : Nat} {NS : List Int} (uhlen : NS.length = 8) {k : Int} (hk : 0 ≤ k) (hk8 : k < 8)
    (hh : A.handled = none) (hr : IsRange s.heap r 0 k 1 t₀ u₀ v₀) (F : Fr h₀ env.locals s.heap m₀)
    (N : News h₀ env.locals s.heap ((R, W.listOf #[.ref P, .ref P1] 0) :: (P1, W.listOf vb.toArray cb) :: (P, W.listOf va.toArray ca) :: (Wd, ow) :: (D, od) :: rest)) (hva : IntsAre va N0) (hvb : IntsAre vb N1)
    (turn : ∀ (vs0 : List Value) (ns0 : List Int) (c0 : Nat) (vs1 : List Value) (ns1 : List Int) (c1 : Nat) (pre : List Int) (j : Int) t (u : Str → Option Value) h tk own, j = (pre.length : Int) → j < k → OwnOff own (R :: P1 :: P :: Wd :: D :: rest.map (·.1)) →
      IntsAre vs0 ns0 → IntsAre vs1 ns1 → ns0 = N0 ++ rowOf NS 0 k.toNat pre.length → ns1 = N1 ++ rowOf NS 1 k.toNat pre.length → vs0.length ≤ va.length + 8 → vs1.length ≤ vb.length + 8 →
      Fr h₀ env.locals h (fun y => if y = x then some (.int j t) else (if [Str.ofString "far"].contains y then u y else m₀ y)) →
      News h₀ env.locals h ((R, W.listOf #[.ref P, .ref P1] 0) :: (P1, W.listOf vs1.toArray c1) :: (P, W.listOf vs0.toArray c0) :: (Wd, ow) :: (D, od) :: (rest ++ own)) →
      wpAny (model prog w) A (execs body env) (InvPostN h₀ env.locals (KstS (fun c => rsLed R P P1 Wd D ow od c ++ rest) (fun _ => []) rsFacts x [Str.ofString "far"] m₀ (rsQ NS N0 N1 k.toNat) (pre ++ [j])) own (R :: P1 :: P :: Wd :: D :: rest.map (·.1)) { s with heap := h, toks := tk } Q) E { s with heap := h, toks := tk })
    (done : ∀ (vs0 : List Value) (ns0 : List Int) (c0 : Nat) (vs1 : List Value) (ns1 : List Int) (c1 : Nat) (u : Str → Option Value) h tk,
      IntsAre vs0 ns0 → IntsAre vs1 ns1 → ns0 = N0 ++ rowOf NS 0 k.toNat k.toNat → ns1 = N1 ++ rowOf NS 1 k.toNat k.toNat →
      Fr h₀ env.locals h (fun y => if y = x then u y else (if [Str.ofString "far"].contains y then u y else m₀ y)) →
      News h₀ env.locals h ((R, W.listOf #[.ref P, .ref P1] 0) :: (P1, W.listOf vs1.toArray c1) :: (P, W.listOf vs0.toArray c0) :: (Wd, ow) :: (D, od) :: rest) → Q .next { s with heap := h, toks := tk }) :
    wpAny (model prog w) A (pyIter (.ref r)) (fun it s₂ => LoopAtV prog w A h₀ env x body Q E it s₂) E s := by
  refine kst_range (n := k.toNat) (fun c => rsLed R P P1 Wd D ow od c ++ rest) (fun _ => []) rsFacts [Str.ofString "far"] (rsQ NS N0 N1 k.toNat) (va, N0, ca, vb, N1, cb) hh hr (small_one (by decide) (by decide) (by omega) (by omega)) (by rw [rangeSize_nat]; omega) F
    (fun p hp => N p ?_) ⟨hva, hvb⟩ (fun p hp => nomatch hp) ⟨?_, ?_⟩ ?_ ?_
  · exact hp
  · simp [rowOf]
  · simp [rowOf]
  · rintro ⟨vs0, ns0, c0, vs1, ns1, c1⟩ pre j t u h tk own hj hl off ⟨f0, f1⟩ ⟨p0, p1⟩ F' N'
    have off' : OwnOff own (R :: P1 :: P :: Wd :: D :: rest.map (·.1)) := by simpa using off
    have b0 := rowOf_len NS 0 k.toNat pre.length
    have b1 := rowOf_len NS 1 k.toNat pre.length
    have e0 := f0.length
    have e1 := f1.length
    have g0 := hva.length
    have g1 := hvb.length
    have p0' : ns0 = N0 ++ rowOf NS 0 k.toNat pre.length := p0
    have p1' : ns1 = N1 ++ rowOf NS 1 k.toNat pre.length := p1
    have l0 := congrArg List.length p0'
    have l1 := congrArg List.length p1'
    rw [List.length_append] at l0 l1
    dsimp only at e0 e1
    have z := turn vs0 ns0 c0 vs1 ns1 c1 pre j t u h tk own (by omega) (by omega) off' f0 f1 p0 p1 (by omega) (by omega) F' N'
    simpa using z
  · rintro ⟨vs0, ns0, c0, vs1, ns1, c1⟩ u h tk ⟨f0, f1⟩ ⟨p0, p1⟩ F' N'
    exact done vs0 ns0 c0 vs1 ns1 c1 u h tk f0 f1 (by simpa [rangeKs_length] using p0) (by simpa [rangeKs_length] using p1) F' N'
end
theorem q_keep {NS N0 n0 : List Int} {c : Int} {k n : Nat} (h : par NS n ≠ par NS k ∨ par NS k ≠ c) (e : n0 = N0 ++ rowOf NS c k n) : n0 = N0 ++ rowOf NS c k (n + 1) := by
  rw [rowOf_succ, if_neg (by rintro ⟨a, b⟩; rcases h with h | h; exact h a; exact h b), List.append_nil]
  exact e
theorem q_more {NS N0 n0 : List Int} {c : Int} {k n : Nat} (h1 : par NS n = par NS k) (h2 : par NS k = c) (e : n0 = N0 ++ rowOf NS c k n) : n0 ++ [farF n k] = N0 ++ rowOf NS c k (n + 1) := by
  rw [rowOf_succ, if_pos ⟨h1, h2⟩, ← List.append_assoc, ← e]
theorem ints_snoc {vs : List Value} {ns : List Int} {x : Int} {t : Tok} (h : IntsAre vs ns) : IntsAre (vs ++ [.int x t]) (ns ++ [x]) := IntsAre.append h (.cons x t .nil)
theorem q_end0 {NS N0 N1 n0 n1 pre : List Int} {j k : Int} {v0 v1 : List Value} {d0 d1 : Nat} (hj : j = (pre.length : Int)) (hk : 0 ≤ k) (hc : (NS.getD j.toNat 0).fmod 2 = (NS.getD k.toNat 0).fmod 2) (h0 : (NS.getD k.toNat 0).fmod 2 = 0)
    (p0 : n0 = N0 ++ rowOf NS 0 k.toNat pre.length) (p1 : n1 = N1 ++ rowOf NS 1 k.toNat pre.length) : rsQ NS N0 N1 k.toNat (pre ++ [j]) (v0, n0 ++ [farF j k], d0, v1, n1, d1) := by
  have e : j.toNat = pre.length := by omega
  have e2 : ((k.toNat : Nat) : Int) = k := by omega
  rw [e] at hc
  dsimp only [rsQ]
  rw [List.length_append, List.length_cons, List.length_nil]
  refine ⟨?_, q_keep (.inr (by unfold par; rw [h0]; decide)) p1⟩
  have := q_more (NS := NS) (k := k.toNat) (n := pre.length) (c := 0) hc h0 p0
  rw [e2, ← hj] at this
  exact this
theorem q_end1 {NS N0 N1 n0 n1 pre : List Int} {j k : Int} {v0 v1 : List Value} {d0 d1 : Nat} (hj : j = (pre.length : Int)) (hk : 0 ≤ k) (hc : (NS.getD j.toNat 0).fmod 2 = (NS.getD k.toNat 0).fmod 2) (h0 : (NS.getD k.toNat 0).fmod 2 = 1)
    (p0 : n0 = N0 ++ rowOf NS 0 k.toNat pre.length) (p1 : n1 = N1 ++ rowOf NS 1 k.toNat pre.length) : rsQ NS N0 N1 k.toNat (pre ++ [j]) (v0, n0, d0, v1, n1 ++ [farF j k], d1) := by
  have e : j.toNat = pre.length := by omega
  have e2 : ((k.toNat : Nat) : Int) = k := by omega
  rw [e] at hc
  dsimp only [rsQ]
  rw [List.length_append, List.length_cons, List.length_nil]
  refine ⟨q_keep (.inr (by unfold par; rw [h0]; decide)) p0, ?_⟩
  have := q_more (NS := NS) (k := k.toNat) (n := pre.length) (c := 1) hc h0 p1
  rw [e2, ← hj] at this
  exact this
theorem q_endN {NS N0 N1 n0 n1 pre : List Int} {j k : Int} {v0 v1 : List Value} {d0 d1 : Nat} (hj : j = (pre.length : Int)) (hc : ¬ (NS.getD j.toNat 0).fmod 2 = (NS.getD k.toNat 0).fmod 2)
    (p0 : n0 = N0 ++ rowOf NS 0 k.toNat pre.length) (p1 : n1 = N1 ++ rowOf NS 1 k.toNat pre.length) : rsQ NS N0 N1 k.toNat (pre ++ [j]) (v0, n0, d0, v1, n1, d1) := by
  have e : j.toNat = pre.length := by omega
  rw [e] at hc
  dsimp only [rsQ]
  rw [List.length_append, List.length_cons, List.length_nil]
  exact ⟨q_keep (.inl hc) p0, q_keep (.inl hc) p1⟩
theorem rs_end {NS n0 n1 pre : List Int} {k : Int} {v0 v1 : List Value} {d0 d1 : Nat} {N0 N1 : List Int} (hk : k = (pre.length : Int)) (e0 : N0 = runsTo NS 0 pre.length) (e1 : N1 = runsTo NS 1 pre.length)
    (p0 : n0 = N0 ++ rowOf NS 0 k.toNat k.toNat) (p1 : n1 = N1 ++ rowOf NS 1 k.toNat k.toNat) : rsP NS (pre ++ [k]) (v0, n0, d0, v1, n1, d1) := by
  have e : k.toNat = pre.length := by omega
  dsimp only [rsP]
  rw [List.length_append, List.length_cons, List.length_nil, runsTo_succ, runsTo_succ, p0, p1, e0, e1, e]
  exact ⟨rfl, rfl⟩
theorem far_ite {j k : Int} : farF j k = if 8 - k + j < k - j then 8 - k + j else k - j := by
  unfold farF
  split <;> omega
theorem word_at {k : Int} (h0 : 0 ≤ k) (h8 : k < 8) {ss : List Str} (hs : ss = (rangeKs 0 ((8 : Int) - 0).toNat).map wordF) : ss.getD k.toNat Str.empty = wordF k := by
  subst hs
  have h8 : k = 0 ∨ k = 1 ∨ k = 2 ∨ k = 3 ∨ k = 4 ∨ k = 5 ∨ k = 6 ∨ k = 7 := by omega
  rcases h8 with h8 | h8 | h8 | h8 | h8 | h8 | h8 | h8 <;> subst h8 <;> rfl
section
variable {prog : Program} {w : World} {A : Around} {E : Value → Shared → Prop} {s : Shared} {Q : Value → Shared → Prop} {h₀ : Heap} {L l : Addr} {news : List (Addr × Obj)} {vs : List Value} {c : Nat}
theorem word_item {value slice : PySem.Expr} {k : Int} {u : Tok} {ss : List Str} (N : News h₀ L s.heap news) (hm : (l, W.listOf vs.toArray c) ∈ news) (hi : StrsAre vs ss) (hs : ss = (rangeKs 0 ((8 : Int) - 0).toNat).map wordF) (h0 : 0 ≤ k) (h8 : k < 8)
    (h : ∀ t, Q (.str (wordF k) t) s)
    (hs' : subscripted slice false (.ref l) (.int k u) = operate [.ref l, .int k u] (getItem (.ref l) (.int k u)) := by with_unfolding_all rfl) :
    wpAny (model prog w) A (subscriptTail value slice (.ref l) (.int k u)) Q E s :=
  text_made N hm hi h0 (by rw [hs, List.length_map, rangeKs_length]; omega) (by omega) (word_at h0 h8 hs) h hs'
end
end Mine
end

-- L7
section
open PySem PySem.W PyProof.Rows PySem.Calls PySem.Spec
namespace Mine
def TxtEnd (h₀ : Heap) (L : Addr) (J : (Str → Option Value) → List (Addr × Obj) → Prop) (own : List (Addr × Obj)) (s₁ s₂ : Shared) : Prop :=
  ∃ h' tk m' news' nx, s₂ = { s₁ with heap := h', toks := tk } ∧ Fr h₀ L h' m' ∧ News h₀ L h' news' ∧ (∀ p ∈ nx, p ∈ news') ∧ (∀ p ∈ own, p ∈ news') ∧ (∀ p ∈ nx, ∀ q ∈ own, p.1 ≠ q.1) ∧ J m' nx
def TxtPost (h₀ : Heap) (L : Addr) (J : (Str → Option Value) → List (Addr × Obj) → Prop) (own : List (Addr × Obj)) (s₁ : Shared) (Q : Flow → Shared → Prop) (f : Flow) (s₂ : Shared) : Prop :=
  match f with
  | .ret v => Q (.ret v) s₂
  | .brk => Q .next s₂
  | _ => TxtEnd h₀ L J own s₁ s₂
section
variable {prog : Program} {w : World} {A : Around} {E : Value → Shared → Prop} {s : Shared} {env : Env} {h₀ : Heap} {x : Str} {body : List Stmt} {Q : Flow → Shared → Prop}
theorem textCore {xt : Str} {m₀ : Str → Option Value} {led₀ : List (Addr × Obj)} {o : Obj} {St : Nat → Heap → Prop} (J : List Int → (Str → Option Value) → List (Addr × Obj) → Prop)
    (hh : A.handled = none) (F : Fr h₀ env.locals s.heap m₀) (N : News h₀ env.locals s.heap led₀) (hj : J [] m₀ led₀)
    (turn : ∀ (pre post : List Int) (n : Nat) t (m₁ : Str → Option Value) nx h tk own, KStt.codes xt = pre ++ (n : Int) :: post → (∀ p ∈ nx, ∀ q ∈ own, p.1 ≠ q.1) → J pre m₁ nx →
      Fr h₀ env.locals h (fun y => if y = x then some (.str ⟨#[n]⟩ t) else m₁ y) → News h₀ env.locals h (nx ++ own) →
      wpAny (model prog w) A (execs body env) (TxtPost h₀ env.locals (J (pre ++ [(n : Int)])) own { s with heap := h, toks := tk } Q) E { s with heap := h, toks := tk })
    (done : ∀ m₁ nx h tk, J (KStt.codes xt) m₁ nx → Fr h₀ env.locals h m₁ → News h₀ env.locals h nx → Q .next { s with heap := h, toks := tk })
    (W : Walks prog w A s.heap.objs.size [s.heap.objs.size] [s.heap.objs.size] xt.cps.size (SignAt xt) St) (hex : ∀ i h, St i h → ∃ oI, h.get? s.heap.objs.size = some oI) (hst : St 0 (s.heap.push o)) :
    LoopAtV prog w A h₀ env x body Q E (.ref s.heap.objs.size) { s with heap := s.heap.push o } := by
  have hI₀ : h₀.get? s.heap.objs.size = none := next_is_new F
  refine ⟨_, _, _, _, _, _, m₀, led₀, fun i m nx => (∀ p ∈ nx, p.1 ≠ s.heap.objs.size) ∧ J ((KStt.codes xt).take i) m nx, rfl, W, ?_, ?_, ?_, hst, F.push _, (fun p hp => ⟨Heap.get?_push_of_some _ (N p hp).1, (N p hp).2⟩), ⟨?_, by simpa using hj⟩, ?_, ?_⟩
  · intro hm
    exact absurd F.ns.lt ((List.mem_singleton.mp hm) ▸ Nat.lt_irrefl _)
  · intro b' hb
    rw [List.mem_singleton.mp hb]
    exact next_is_new F
  · intro p hp hI
    exact absurd (Heap.lt_size (N p hp).1) ((List.mem_singleton.mp hI) ▸ Nat.lt_irrefl _)
  · intro p hp hI
    exact absurd (Heap.lt_size (N p hp).1) (hI ▸ Nat.lt_irrefl _)
  · rintro i v m₁ nx s₁ own ⟨hh', tk', rfl⟩ hin ⟨n, u, hn, rfl⟩ ⟨hoff, hJ⟩ _ hown hat hall hst' F₁ N₁
    have hn' := KStt.code_at hn
    have hs : (KStt.codes xt).take (i + 1) = (KStt.codes xt).take i ++ [(n : Int)] := by simp [List.take_add_one, hn']
    have e : KStt.codes xt = (KStt.codes xt).take i ++ (n : Int) :: (KStt.codes xt).drop (i + 1) := by
      have ht := List.take_append_drop (i + 1) (KStt.codes xt)
      rw [hs, List.append_assoc] at ht
      exact ht.symm
    have sep : ∀ p ∈ nx, ∀ q ∈ own, p.1 ≠ q.1 := fun p hp q hq e => hoff p hp (e.trans (List.mem_singleton.mp (hown q hq)))
    have N₂ : News h₀ env.locals hh' (nx ++ own) := fun p hp => N₁ p ((List.mem_append.mp hp).elim (fun h => List.mem_append.mpr (.inr h)) fun h => List.mem_append.mpr (.inl h))
    refine wpAny_mono (turn _ _ n u m₁ nx hh' tk' own e sep hJ F₁ N₂) (fun f s₂ p => ?_) fun _ _ e => e
    have fin : TxtEnd h₀ env.locals (J ((KStt.codes xt).take i ++ [(n : Int)])) own { s with heap := hh', toks := tk' } s₂ → LoopStepU h₀ env.locals [s.heap.objs.size] own (fun m nx => (∀ p ∈ nx, p.1 ≠ s.heap.objs.size) ∧ J ((KStt.codes xt).take (i + 1)) m nx) { s with heap := hh', toks := tk' } .next s₂ := by
      rintro ⟨h', tk, m', news', nx', e, F', N', hn, ho, ha, hm⟩
      have far : ∀ p ∈ nx', p.1 ≠ s.heap.objs.size := by
        intro p hp e
        obtain ⟨oI, hoI⟩ := hex _ _ hst'
        exact ha p hp _ (hall _ (.head _) hI₀ _ hoI) e
      rw [← hs] at hm
      exact ⟨rfl, h', tk, m', nx', e, F', fun p hp => N' p ((List.mem_append.mp hp).elim (ho p) (hn p)), fun p hp hq => far p hp (List.mem_singleton.mp hq), far, hm⟩
    cases f with
    | ret v => exact .ret p
    | brk => exact .brk p
    | next => exact .next (fin p)
    | cont => exact .cont (fin p)
  · rintro h' tk m' news' F' N' _ ⟨_, hJ⟩
    have hl : xt.cps.size = (KStt.codes xt).length := (KStt.codes_length xt).symm
    rw [hl, List.take_length] at hJ
    exact done m' news' h' tk hJ F' N'
theorem textLoop {xt : Str} {tx : Tok} {m₀ : Str → Option Value} {led₀ : List (Addr × Obj)} (J : List Int → (Str → Option Value) → List (Addr × Obj) → Prop)
    (hh : A.handled = none) (F : Fr h₀ env.locals s.heap m₀) (N : News h₀ env.locals s.heap led₀) (hj : J [] m₀ led₀)
    (turn : ∀ (pre post : List Int) (n : Nat) t (m₁ : Str → Option Value) nx h tk own, KStt.codes xt = pre ++ (n : Int) :: post → (∀ p ∈ nx, ∀ q ∈ own, p.1 ≠ q.1) → J pre m₁ nx →
      Fr h₀ env.locals h (fun y => if y = x then some (.str ⟨#[n]⟩ t) else m₁ y) → News h₀ env.locals h (nx ++ own) →
      wpAny (model prog w) A (execs body env) (TxtPost h₀ env.locals (J (pre ++ [(n : Int)])) own { s with heap := h, toks := tk } Q) E { s with heap := h, toks := tk })
    (done : ∀ m₁ nx h tk, J (KStt.codes xt) m₁ nx → Fr h₀ env.locals h m₁ → News h₀ env.locals h nx → Q .next { s with heap := h, toks := tk }) :
    wpAny (model prog w) A (pyIter (.str xt tx)) (fun it s₂ => LoopAtV prog w A h₀ env x body Q E it s₂) E s := by
  cases hc : xt.cps.all (· < 128)
  · exact wpAny_pyIter_wide hc (textCore J hh F N hj turn done (Walks.strWide hh _ xt tx) (fun i h z => let ⟨q, hq, _⟩ := z; ⟨q, hq⟩) ⟨_, Heap.get?_push_size _ rfl, rfl, rfl⟩)
  · exact wpAny_pyIter_ascii hc (textCore J hh F N hj turn done (Walks.strAscii hh _ xt tx) (fun i h z => let ⟨q, hq, _⟩ := z; ⟨q, hq⟩) ⟨_, Heap.get?_push_size _ rfl, rfl, rfl⟩)
end
end Mine
end

-- L8
section
open PySem PySem.W PyProof.Rows PySem.Calls PySem.Spec
namespace Mine
structure Small (ns : List Int) : Prop where
  lo : ∀ n ∈ ns, 0 ≤ n
  hi : ∀ n ∈ ns, n ≤ 9
  len : ns.length ≤ 100
/-- one run: so many blanks and a tab -/
def runT (k : Int) : Str := Txt.mul (Str.ofString " ") k ++ Str.ofString "\t"
def leadT (ns : List Int) : Str := Txt.join (Str.ofString "") (ns.map runT) ++ Str.ofString "x"
theorem codes_append (x y : Str) : KStt.codes (x ++ y) = KStt.codes x ++ KStt.codes y := by
  unfold KStt.codes
  rw [PySem.Str.cps_append, Array.toList_append, List.map_append]
theorem codes_mul {k : Int} : KStt.codes (Txt.mul (Str.ofString " ") k) = List.replicate k.toNat 32 := by
  have e : Str.ofString " " = (⟨#[32]⟩ : Str) := by decide +kernel
  unfold KStt.codes
  rw [e, mul_one_list, List.map_replicate]
  rfl
theorem codes_runT (k : Int) : KStt.codes (runT k) = List.replicate k.toNat 32 ++ [9] := by
  unfold runT
  rw [codes_append, codes_mul]
  congr 1
theorem codes_join : ∀ l : List Str, KStt.codes (Txt.join (Str.ofString "") l) = l.flatMap KStt.codes := by
  have key : ∀ l : List Str, KStt.codes (Str.join (Str.ofString "") l) = l.flatMap KStt.codes := by
    intro l
    induction l with
    | nil => rfl
    | cons x r ih =>
      cases r with
      | nil => simp [Str.join, join_one]
      | cons y r =>
        rw [join_cons_cons, codes_append, codes_append, ih]
        have : KStt.codes (Str.ofString "") = [] := by decide +kernel
        rw [this, List.append_nil]
        rfl
  intro l
  rw [← key l]
  show KStt.codes (Builtin.Str.glued (Str.ofString "") l) = _
  rw [StrLaws.glued_eq_join]
theorem codes_lead (ns : List Int) : KStt.codes (leadT ns) = (ns.flatMap fun k => List.replicate k.toNat 32 ++ [9]) ++ [120] := by
  unfold leadT
  rw [codes_append, codes_join, List.flatMap_map]
  congr 1
  congr 1
  funext k
  exact codes_runT k
/-- what tabnanny's scan keeps: how many runs of each length, the blanks since the last tab -/
def bump (cs : List Int) (b : Nat) : List Int :=
  let cs' := if cs.length ≤ b then cs ++ List.replicate (b - cs.length + 1) 0 else cs
  cs'.set b (cs'.getD b 0 + 1)
def wsF : List Int → List Int → Nat → List Int × Nat
  | [], cs, b => (cs, b)
  | c :: r, cs, b => if c = 32 then wsF r cs (b + 1) else if c = 9 then wsF r (bump cs b) 0 else (cs, b)
def cntF (ns : List Int) : List Int := ns.foldl (fun cs k => bump cs k.toNat) []
theorem wsF_blanks (n : Nat) (r : List Int) : ∀ (cs : List Int) (b : Nat), wsF (List.replicate n 32 ++ r) cs b = wsF r cs (b + n) := by
  induction n with
  | zero => intro cs b; rfl
  | succ n ih =>
    intro cs b
    rw [List.replicate_succ, List.cons_append, wsF, if_pos rfl, ih]
    congr 1
    omega
theorem wsF_runs (ns : List Int) : ∀ cs, wsF ((ns.flatMap fun k => List.replicate k.toNat 32 ++ [9]) ++ [120]) cs 0 = (ns.foldl (fun cs k => bump cs k.toNat) cs, 0) := by
  induction ns with
  | nil => intro cs; rfl
  | cons k r ih =>
    intro cs
    rw [List.flatMap_cons, List.append_assoc, List.append_assoc, wsF_blanks, List.cons_append, List.nil_append, wsF, if_neg (by decide), if_pos rfl, Nat.zero_add, ih]
    rfl
theorem wsF_lead (ns : List Int) : wsF (KStt.codes (leadT ns)) [] 0 = (cntF ns, 0) := by
  rw [codes_lead, wsF_runs]
  rfl
theorem mul_len {k : Int} (h0 : 0 ≤ k) (h9 : k ≤ 9) : (Txt.mul (Str.ofString " ") k).length ≤ 9 := by
  rw [← KStt.codes_length, codes_mul, List.length_replicate]
  omega
theorem runT_len {k : Int} (h0 : 0 ≤ k) (h9 : k ≤ 9) : (runT k).length ≤ 10 := by
  rw [← KStt.codes_length, codes_runT, List.length_append, List.length_replicate, List.length_cons, List.length_nil]
  omega
theorem lead_len {ns : List Int} (h : Small ns) : (leadT ns).length ≤ 1001 := by
  rw [← KStt.codes_length, codes_lead, List.length_append]
  have key : ∀ l : List Int, (∀ n ∈ l, n ≤ 9) → (l.flatMap fun k => List.replicate k.toNat (32 : Int) ++ [9]).length ≤ 10 * l.length := by
    intro l
    induction l with
    | nil => intro _; simp
    | cons k r ih =>
      intro hl
      have h1 := hl k (.head _)
      have h2 := ih fun n hn => hl n (.tail _ hn)
      rw [List.flatMap_cons, List.length_append, List.length_append, List.length_replicate, List.length_cons, List.length_cons, List.length_nil]
      omega
  have := key ns h.hi
  have := h.len
  simp only [List.length_cons, List.length_nil]
  omega
theorem join_len {ns : List Int} (h : Small ns) : (Txt.join (Str.ofString "") (ns.map runT)).length ≤ 1000 := by
  have := lead_len h
  unfold leadT at this
  rw [PySem.Str.length_append] at this
  have e : (Str.ofString "x").length = 1 := by decide +kernel
  omega
end Mine
end

-- L9
section
open PySem PySem.W PyProof.Rows PySem.Calls PySem.Spec
namespace Mine
/-- the frame of Whitespace.__init__ in its loop -/
def wsM (m₀ : Str → Option Value) (a : Addr) (b n nt : Int) (t1 t2 t3 : Tok) : Str → Option Value := fun y =>
  if y = Str.ofString "nt" then some (.int nt t3) else if y = Str.ofString "n" then some (.int n t2) else if y = Str.ofString "b" then some (.int b t1) else if y = Str.ofString "count" then some (.ref a) else m₀ y
def WsJ (m₀ : Str → Option Value) (rest : List (Addr × Obj)) (pre : List Int) (m : Str → Option Value) (nx : List (Addr × Obj)) : Prop :=
  ∃ (cs : List Int) (b : Nat) (vs : List Value) (a : Addr) (k : Nat) (n nt : Int) (t1 t2 t3 : Tok), nx = (a, W.listOf vs.toArray k) :: rest ∧ IntsAre vs cs ∧ (∀ p ∈ rest, p.1 < a) ∧
    (∀ post, wsF (pre ++ post) [] 0 = wsF post cs b) ∧ b ≤ pre.length ∧ cs.length ≤ pre.length ∧ (∀ y, y ≠ Str.ofString "ch" → m y = wsM m₀ a b n nt t1 t2 t3 y)
theorem bump_ext {cs : List Int} {b : Nat} (h : cs.length ≤ b) :
    (cs ++ (List.replicate ((b : Int) - (cs.length : Int) + 1).toNat [(0 : Int)]).flatten).set (b : Int).toNat ((cs ++ (List.replicate ((b : Int) - (cs.length : Int) + 1).toNat [(0 : Int)]).flatten).getD (b : Int).toNat 0 + 1) = bump cs b := by
  have e1 : ((b : Int) - (cs.length : Int) + 1).toNat = b - cs.length + 1 := by omega
  have e2 : (b : Int).toNat = b := by omega
  have e3 : ∀ n, (List.replicate n [(0 : Int)]).flatten = List.replicate n 0 := by
    intro n
    induction n with
    | zero => rfl
    | succ n ih => rw [List.replicate_succ, List.flatten_cons, ih]; rfl
  rw [e1, e2, e3]
  unfold bump
  dsimp only
  rw [if_pos h]
theorem bump_in {cs : List Int} {b : Nat} (h : b < cs.length) : cs.set (b : Int).toNat (cs.getD (b : Int).toNat 0 + 1) = bump cs b := by
  have e2 : (b : Int).toNat = b := by omega
  rw [e2]
  unfold bump
  dsimp only
  rw [if_neg (by omega)]
theorem sign_ne {c d : Nat} {x : Str} (hx : x = ⟨#[d]⟩) (h : ¬ c = d) : ((⟨#[c]⟩ : Str) == x) = false := by
  subst hx
  rw [beq_eq_false_iff_ne]
  intro e
  apply h
  have := congrArg (fun z : Str => z.cps[0]?) e
  simpa using this
theorem ite_not {p : Prop} [Decidable p] {a b : Prop} (h : ¬ p) (hb : b) : if p then a else b := by rw [if_neg h]; exact hb
theorem drop2 {h₀ h : Heap} {L : Addr} {p q : Addr × Obj} {r : List (Addr × Obj)} (N : News h₀ L h (p :: q :: r)) : News h₀ L h (p :: r) := fun z hz => N z (by
  rcases List.mem_cons.mp hz with rfl | hz
  · exact .head _
  · exact .tail _ (.tail _ hz))
structure Keep (P : Prop) : Prop where
  out : P
theorem bump_len (cs : List Int) (b : Nat) : (bump cs b).length = max cs.length (b + 1) := by
  unfold bump
  dsimp only
  split <;> simp <;> omega
theorem w_blank {pre cs : List Int} {b : Nat} (hw : ∀ post, wsF (pre ++ post) [] 0 = wsF post cs b) : ∀ post, wsF (pre ++ [32] ++ post) [] 0 = wsF post cs (b + 1) := by
  intro post
  rw [List.append_assoc, hw]
  rfl
theorem w_tab {pre cs : List Int} {b : Nat} (hw : ∀ post, wsF (pre ++ post) [] 0 = wsF post cs b) : ∀ post, wsF (pre ++ [9] ++ post) [] 0 = wsF post (bump cs b) 0 := by
  intro post
  rw [List.append_assoc, hw]
  rfl
theorem w_stop {pre post cs : List Int} {b : Nat} {c : Int} (hw : ∀ post, wsF (pre ++ post) [] 0 = wsF post cs b) (h1 : c ≠ 32) (h2 : c ≠ 9) : wsF (pre ++ c :: post) [] 0 = (cs, b) := by
  rw [hw, wsF, if_neg h1, if_neg h2]
section
variable {prog : Program} {w : World} {A : Around} {E : Value → Shared → Prop} {s : Shared} {env : Env} {h₀ : Heap} {body : List Stmt} {Q : Flow → Shared → Prop}
theorem wsLoop {xt : Str} {tx : Tok} {m₀ : Str → Option Value} {a₀ : Addr} {rest : List (Addr × Obj)} {u1 u2 u3 : Tok}
    (hh : A.handled = none) (F : Fr h₀ env.locals s.heap m₀) (N : News h₀ env.locals s.heap ((a₀, W.listOf #[] 0) :: rest))
    (hlt : ∀ p ∈ rest, p.1 < a₀) (hc : m₀ (Str.ofString "count") = some (.ref a₀)) (hb : m₀ (Str.ofString "b") = some (.int 0 u1)) (hn : m₀ (Str.ofString "n") = some (.int 0 u2)) (hnt : m₀ (Str.ofString "nt") = some (.int 0 u3))
    (key : ∀ (cs : List Int) (b : Nat) (vs : List Value) (a : Addr) (k : Nat) (n nt : Int) (t1 t2 t3 : Tok) (u : Str → Option Value) h tk, wsF (KStt.codes xt) [] 0 = (cs, b) → IntsAre vs cs → (∀ p ∈ rest, p.1 < a) → cs.length ≤ xt.length →
      Fr h₀ env.locals h (fun y => if y = Str.ofString "ch" then u y else wsM m₀ a b n nt t1 t2 t3 y) → News h₀ env.locals h ((a, W.listOf vs.toArray k) :: rest) → Q .next { s with heap := h, toks := tk })
    (turn : ∀ (pre post : List Int) (c : Nat) t (cs : List Int) (b : Nat) (vs : List Value) (a : Addr) (k : Nat) (n nt : Int) (t1 t2 t3 : Tok) h tk own, KStt.codes xt = pre ++ (c : Int) :: post → IntsAre vs cs → (∀ p ∈ rest, p.1 < a) → (∀ post, wsF (pre ++ post) [] 0 = wsF post cs b) →
      b ≤ pre.length → cs.length ≤ pre.length → pre.length < xt.length → (∀ q ∈ own, q.1 ≠ a) → (∀ p ∈ rest, ∀ q ∈ own, p.1 ≠ q.1) →
      Fr h₀ env.locals h (fun y => if y = Str.ofString "ch" then some (.str ⟨#[c]⟩ t) else wsM m₀ a b n nt t1 t2 t3 y) → News h₀ env.locals h ((a, W.listOf vs.toArray k) :: (rest ++ own)) →
      (c ≠ 32 → c ≠ 9 → ∀ h' tk', Fr h₀ env.locals h' (fun y => if y = Str.ofString "ch" then some (.str ⟨#[c]⟩ t) else wsM m₀ a b n nt t1 t2 t3 y) → News h₀ env.locals h' ((a, W.listOf vs.toArray k) :: (rest ++ own)) → Q .next { s with heap := h', toks := tk' }) →
      wpAny (model prog w) A (execs body env) (TxtPost h₀ env.locals (WsJ m₀ rest (pre ++ [(c : Int)])) own { s with heap := h, toks := tk } Q) E { s with heap := h, toks := tk }) :
    wpAny (model prog w) A (pyIter (.str xt tx)) (fun it s₂ => LoopAtV prog w A h₀ env (Str.ofString "ch") body Q E it s₂) E s := by
  refine textLoop (WsJ m₀ rest) hh F N ⟨[], 0, [], a₀, 0, 0, 0, u1, u2, u3, rfl, .nil, hlt, fun _ => rfl, Nat.le_refl _, Nat.le_refl _, ?_⟩ ?_ ?_
  · intro y _
    unfold wsM
    split
    · rename_i e; rw [e, hnt]
    · split
      · rename_i e; rw [e, hn]
      · split
        · rename_i e; rw [e, hb]; rfl
        · split
          · rename_i e; rw [e, hc]
          · rfl
  · rintro pre post c t m₁ nx h tk own e sep ⟨cs, b, vs, a, k, n, nt, t1, t2, t3, rfl, hi, hla, hw, hb', hl, hm⟩ F₁ N₁
    have em : (fun y => if y = Str.ofString "ch" then some (Value.str ⟨#[c]⟩ t) else m₁ y) = fun y => if y = Str.ofString "ch" then some (Value.str ⟨#[c]⟩ t) else wsM m₀ a b n nt t1 t2 t3 y := by
      funext y
      by_cases hy : y = Str.ofString "ch"
      · rw [if_pos hy, if_pos hy]
      · rw [if_neg hy, if_neg hy]; exact hm y hy
    rw [em] at F₁
    refine turn pre post c t cs b vs a k n nt t1 t2 t3 h tk own e hi hla hw hb' hl ?_ (fun q hq => (sep _ (.head _) q hq).symm) (fun p hp q hq => sep p (.tail _ hp) q hq) F₁ N₁ ?_
    rotate_left
    · intro h32 h9 h' tk' F2 N2
      refine key cs b vs a k n nt t1 t2 t3 (fun _ => some (Value.str ⟨#[c]⟩ t)) h' tk' ?_ hi hla ?_ F2 (fun p hp => N2 p ?_)
      · rw [e]; exact w_stop hw (by omega) (by omega)
      · have := congrArg List.length e
        rw [KStt.codes_length, List.length_append, List.length_cons] at this
        omega
      · rcases List.mem_cons.mp hp with rfl | hp
        · exact .head _
        · exact .tail _ (List.mem_append.mpr (.inl hp))
    have := congrArg List.length e
    rw [KStt.codes_length, List.length_append, List.length_cons] at this
    omega
  · rintro m₁ nx h tk ⟨cs, b, vs, a, k, n, nt, t1, t2, t3, rfl, hi, hla, hw, hb', hl, hm⟩ F₁ N₁
    have em : m₁ = fun y => if y = Str.ofString "ch" then m₁ y else wsM m₀ a b n nt t1 t2 t3 y := by
      funext y
      by_cases hy : y = Str.ofString "ch"
      · rw [if_pos hy]
      · rw [if_neg hy]; exact hm y hy
    rw [em] at F₁
    have hw' := hw []
    rw [List.append_nil] at hw'
    rw [KStt.codes_length] at hl
    exact key cs b vs a k n nt t1 t2 t3 m₁ h tk hw' hi hla hl F₁ N₁
/-- a turn's end -/
theorem ws_end {pre : List Int} {c : Int} {m₀ m' : Str → Option Value} {rest own news' : List (Addr × Obj)} {L : Addr} {h' : Heap} {tk : Nat} {cs : List Int} {b : Nat} {vs : List Value} {a : Addr} {k : Nat} {n nt : Int} {t1 t2 t3 : Tok} {s₁ : Shared}
    (F : Fr h₀ L h' m') (N : News h₀ L h' news') (hn : ∀ p ∈ (a, W.listOf vs.toArray k) :: rest, p ∈ news') (ho : ∀ p ∈ own, p ∈ news') (ha : ∀ q ∈ own, q.1 ≠ a) (hr : ∀ p ∈ rest, ∀ q ∈ own, p.1 ≠ q.1)
    (hi : IntsAre vs cs) (hla : ∀ p ∈ rest, p.1 < a) (hw : ∀ post, wsF (pre ++ [c] ++ post) [] 0 = wsF post cs b) (hb : b ≤ pre.length + 1) (hl : cs.length ≤ pre.length + 1)
    (m1 : m' (Str.ofString "nt") = some (.int nt t3)) (m2 : m' (Str.ofString "n") = some (.int n t2)) (m3 : m' (Str.ofString "b") = some (.int (b : Int) t1)) (m4 : m' (Str.ofString "count") = some (.ref a))
    (m5 : ∀ y, y ≠ Str.ofString "ch" → y ≠ Str.ofString "nt" → y ≠ Str.ofString "n" → y ≠ Str.ofString "b" → y ≠ Str.ofString "count" → m' y = m₀ y) :
    TxtEnd h₀ L (WsJ m₀ rest (pre ++ [c])) own s₁ { s₁ with heap := h', toks := tk } :=
  ⟨h', tk, m', news', (a, W.listOf vs.toArray k) :: rest, rfl, F, N, hn, ho, fun p hp q hq => by
    rcases List.mem_cons.mp hp with rfl | hp
    · exact (ha q hq).symm
    · exact hr p hp q hq, cs, b, vs, a, k, n, nt, t1, t2, t3, rfl, hi, hla, hw, by simpa using hb, by simpa using hl, fun y hy => by
      unfold wsM
      by_cases e1 : y = Str.ofString "nt"
      · rw [if_pos e1, e1, m1]
      · rw [if_neg e1]
        by_cases e2 : y = Str.ofString "n"
        · rw [if_pos e2, e2, m2]
        · rw [if_neg e2]
          by_cases e3 : y = Str.ofString "b"
          · rw [if_pos e3, e3, m3]
          · rw [if_neg e3]
            by_cases e4 : y = Str.ofString "count"
            · rw [if_pos e4, e4, m4]
            · rw [if_neg e4]
              exact m5 y hy e1 e2 e3 e4⟩
end
end Mine
end

-- L10k
section
open PySem PySem.W PyProof.Rows PySem.Calls PySem.Spec
namespace Mine
abbrev tup2 (x y : Value) : Obj := { cls := .type "tuple", data := .seq #[x, y] }
abbrev tupOf (vs : List Value) : Obj := { cls := .type "tuple", data := .seq vs.toArray }
abbrev wsDict (w : World) (tn : Addr) (k1 k2 k3 k4 k5 : Tok) (r v2 v3 v5 : Value) : List DictEntry :=
  [⟨PyData.keyHash w.params (Str.ofString "raw"), .str (Str.ofString "raw") k1, r⟩, ⟨PyData.keyHash w.params (Str.ofString "n"), .str (Str.ofString "n") k2, v2⟩, ⟨PyData.keyHash w.params (Str.ofString "nt"), .str (Str.ofString "nt") k3, v3⟩,
   ⟨PyData.keyHash w.params (Str.ofString "norm"), .str (Str.ofString "norm") k4, .ref tn⟩, ⟨PyData.keyHash w.params (Str.ofString "is_simple"), .str (Str.ofString "is_simple") k5, v5⟩]
theorem drop_ws {h₀ h : Heap} {L : Addr} {p1 p2 p3 p4 p5 p6 : Addr × Obj} {r : List (Addr × Obj)} (N : News h₀ L h (p1 :: p2 :: p3 :: p4 :: p5 :: p6 :: r)) : News h₀ L h (p1 :: p2 :: p4 :: p5 :: r) := fun z hz => N z (by
  simp only [List.mem_cons] at hz ⊢
  rcases hz with h | h | h | h | h <;> simp [h])
local macro_rules | `(tactic| walk_at $s:str) => `(tactic| k_extra $s)
set_option maxRecDepth 100000 in
set_option maxHeartbeats 8000000 in
theorem lead_c (w : World) (s00 : Shared) (mg mb : Str → Option Value) (ns : List Int) (hsm : Small ns) :
  ∀ (dp un : Nat) (gd : Option (List Code)) (cn : Str) (cs : Scope) (a : Addr) (ccd : Value) (cl : List (Str × Addr)) (outer : List Env) (A₀ : Around) (base h₀ : Heap) (L : Addr) (m : Str → Option Value) (news : List (Addr × Obj)) (s : Shared) (Q E : Value → Shared → Prop) (l : Addr) (vs : List Value) (c : Nat),
    Below A₀ base outer h₀ → Fr h₀ L s.heap m → (hd.heap_39 w.params).In h₀ → News h₀ L s.heap news → TopIs s00 mg mb h₀ → cs.kind = .function →
    dp + 3 < recursionLimit → un + 24 < cLine → (l, W.listOf vs.toArray c) ∈ news → IntsAre vs ns →
    (∀ (x dx tn tc : Addr) (vs' : List Value) (k1 k2 k3 k4 k5 t : Tok) (r v2 v3 v5 : Value) (h' : Heap) (tk' : Nat), IntsAre vs' (cntF ns) → Fr h₀ L h' m →
      News h₀ L h' ((tn, tup2 (.ref tc) (.int 0 t)) :: (tc, tupOf vs') :: (x, instObj 83 dx) :: (dx, W.dictOf (wsDict w tn k1 k2 k3 k4 k5 r v2 v3 v5) 5) :: news) → Q (.ref x) { s with heap := h', toks := tk' }) →
      wpAny (model Prog w) (ktrTop dp un gd cn cs L a ccd cl outer) (call (.ref 125) [.ref l]) Q E s := by
  unfold Prog TopIs
  w_on
  k_with_none
  k_with "CompSrc" => ((k_here; (rename IntsAre _ _ => hIA); (rename Mine.Small _ => hSm); (rename _ ∈ _ => hIn); k_dflt ((refine LCg.CompSrc.ledger (by rfl) (by k_asm) (by k_asm) hIn (by rw [List.size_toArray, hIA.length, PySem.sizeLine_eq]; have := hSm.len; omega) ?_; intro g'; (refine kct_list Mine.runT hIA (fun k' t' I' oI' C' oC' D' m' ys' h' tk' E' hk' hC' hx' F' N' off' ne' => ?_) ?_); (all_goals (try (simp only [LCg.Off3, and_true] at off'))); (all_goals (try ((show KPfMark → _); intro hMark'))); (all_goals (try (have hlo8 := Mine.Small.lo hSm _ hk'; have hhi8 := Mine.Small.hi hSm _ hk'))); kcf_last))))
  k_with "CompEnd" => ((refine LCg.CompEnd.intro (by assumption) (by assumption) _ (by kcf_all) (by first | assumption | (simp only [LCg.Off3, and_true]; done) | (simp only [LCg.Off3, and_true]; assumption)) (by first | lcg_src | assumption) (kct_el (by rfl) rfl (by with_unfolding_all rfl))))
  k_with "binaryOp Mult str int" => ((k_here; (refine KXi.mul (n := 1) (by with_unfolding_all rfl) (by decide) (by omega) (by omega) ?_); intro _ _ kxiZ kxiN; clear kxiZ kxiN))
  k_with "binaryOp Add str str" => ((k_here; (refine PyProof.Rows.add_str (hsz := (by first | (have := Mine.mul_len (by assumption) (by assumption); rw [PySem.sizeLine_eq]; have e9 : (Str.ofString "\t").length = 1 := (by decide +kernel); omega) | ((rename Mine.Small _ => hSm); have := Mine.join_len hSm; rw [PySem.sizeLine_eq]; have e9 : (Str.ofString "x").length = 1 := (by decide +kernel); omega))) ?_); intro _ _))
  k_with "call builtin:str.join" => ((k_here; k_dflt ((show wpAny _ _ (call (Value.builtin "str.join") [Value.str _ _, Value.ref _]) _ _ _); (with_reducible rename CarriedAll _ (List.map _ _) => ktC); (rename Mine.Small _ => hSm); (refine KT.join_B 10 (by first | assumption | is_list | exact News.isList (by k_asm) (by k_mem)) ktC (by exact (fun ktA ktM => Mine.runT_len (Mine.Small.lo hSm _ ktM) (Mine.Small.hi hSm _ ktM))) (by (have := Mine.Small.len hSm; omega)) (by decide) ?_)); intro _ _))
  k_with "call ref" => ((k_here; (with_reducible show wpAny _ _ (call (Value.ref 83) _) _ _ _); k_dflt ((refine call_cls (by k_asm) (by k_asm) (by k_asm) (by k_is) (by k_is) (by k_is) ?_; k_whole; intro x' d' h' F' N' l1 l2; (try k_lt l1); (try k_lt2 l2); (try k_sweep)); (refine code_def (by k_asm) (by k_asm) (by k_asm) (by k_asm) (by k_asm) (by exact rfl) (by exact rfl) (by exact rfl) (by k_is) (by k_is) (by ktr_room) (by exact BindsTo.of_eq rfl) (by exact locs rfl) ?_ (by exact rfl) (by exact rfl) (by exact rfl) (by decide); k_whole; intro g' L' h' FG' F' N' B' X' T'; (try dsimp only); (try k_lift B'); (try k_fold)))))
  k_with "newTuple" => ((k_here; k_dflt (refine kup_newTuple (by k_asm) (by k_asm) ?_ (by exact Nat.le_of_ble_eq_true rfl)); intro D' h' F' N' l1; (try k_lt l1); (try k_sweep)))
  k_with "call type:tuple" => ((k_here; (with_reducible show wpAny _ _ (call (Value.type _) [Value.ref _]) _ _ _); k_dflt ((rename List.length (Mine.cntF _) ≤ 1001 => hl9); (rename IntsAre _ (Mine.cntF _) => hi9); (refine kde_tupleOf (by k_asm) (by k_asm) (by exact News.isList (by k_asm) (by k_memK)) (by (rw [List.size_toArray, hi9.length]; omega)) (by rfl) ?_; k_whole)); intro D' h' F' N' l1; (try k_lt l1); (try k_sweep)))
  k_with "call builtin:len" => ((k_here; (refine kst_len (by k_asm) (by k_memK) (by exact IntsAre.length (by assumption)) (by omega) ?_)))
  k_with "TxtPost" => (((fail_if_success (rename Mine.Keep _ => hst)); dsimp only [Mine.TxtPost]))
  k_with "ite" => (((with_reducible show (if (PySem.Str.mk #[_] == _) = true then _ else _ : Prop)); (refine Mine.ite_not (by (rename (PySem.Str.mk #[_] == PySem.Str.ofString "\t") = false => hz); (rename (PySem.Str.mk #[_] == PySem.Str.ofString " ") = false => hz2); first | (rw [hz]; decide) | (rw [hz2]; decide)) ?_)))
  k_fill
  w_strict (
    have hlead := Mine.lead_len hsm
    intro dp un gd cn cs a ccd cl outer A₀ base h₀ L m news s Q E l vs c hB hF hX hN hT hcs hdp hun hin hia hret
    refine wpAny_call ?_
    k_dflt cell_enter
    (repeat' (first | (k_unfold; (try dsimp only)) | (k_end; wrow_close) | walk1 | (dsimp only; walk1) | (leave1; walk_say "STEP leave1"; try dsimp only) | fail "no step"))
    (rename Fr _ _ _ _ => lF')
    (rename News _ _ _ _ => lN')
    replace lN' := Mine.drop2 lN'
    (with_unfolding_all refine' Mine.wsLoop (by rfl) lF' lN' ?lt (by rfl) (by rfl) (by rfl) (by rfl) ?key ?turn)
    case lt =>
      (rename _ ∧ _ ∧ _ ∧ _ ∧ AllLt _ _ => l1z)
      intro p hp
      simp only [List.mem_cons] at hp
      rcases hp with rfl | rfl | rfl | hp
      · exact l1z.2.1
      · exact l1z.2.2.1
      · exact l1z.2.2.2.1
      · exact kst_ltOf l1z.2.2.2.2 p hp
    case key =>
      intro cs b vs a k n nt t1 t2 t3 u h tk hw hi hla hl F' N'
      have hw2 := hw.symm.trans (Mine.wsF_lead ns)
      obtain ⟨rfl, rfl⟩ := Prod.mk.inj hw2
      clear hw hw2 lF' lN'
      unfold Mine.wsM at F'
      have hl2 : (Mine.cntF ns).length ≤ 1001 := Nat.le_trans hl hlead
      have hi0 := hi
      (k_lt hla)
      (repeat' (first | (k_unfold; (try dsimp only)) | (k_end; wrow_close) | walk1 | (dsimp only; walk1) | (leave1; walk_say "STEP leave1"; try dsimp only) | fail "no step"))
      (rename News _ _ _ _ => kN9)
      with_unfolding_all exact hret _ _ _ _ _ _ _ _ _ _ _ _ _ _ _ _ _ hi (by k_asm) (Mine.drop_ws kN9)
    case turn =>
      intro pre post c t cs b vs a k n nt t1 t2 t3 h tk own hc hi hla hw hb hl hp ho hr F' N' hstop
      clear lF' lN'
      unfold Mine.wsM at F'
      have hxt := hlead
      have hxl : pre.length < (Mine.leadT ns).length := hp
      have hla0 := hla
      (k_lt hla)
      by_cases h32 : c = 32
      · subst h32
        clear hstop
        (repeat' (first | (k_unfold; (try dsimp only)) | (k_end; wrow_close) | walk1 | (dsimp only; walk1) | (leave1; walk_say "STEP leave1"; try dsimp only) | fail "no step"))
        refine Mine.ws_end (b := b + 1) (by assumption) (by assumption) (by first | kst_in | kst_inAny) (by first | (intro p hp; kst_mem) | kst_anyIn) ho hr hi hla0 (Mine.w_blank hw) (by omega) (by omega) (by with_unfolding_all rfl) (by with_unfolding_all rfl) (by with_unfolding_all rfl) (by with_unfolding_all rfl) (by intro y e0 e1 e2 e3 e4; simp only [if_neg e0, if_neg e1, if_neg e2, if_neg e3, if_neg e4])
      · by_cases h9 : c = 9
        · subst h9
          clear hstop
          have kM := kstMark
          have hoff : OwnOff own [a] := (by intro p hp b hb; (have e := List.mem_singleton.mp hb); subst e; exact ho p hp)
          (repeat' (first | (k_unfold; (try dsimp only)) | (k_end; wrow_close) | walk1 | (dsimp only; walk1) | (leave1; walk_say "STEP leave1"; try dsimp only) | fail "no step"))
          · have hge : cs.length ≤ b := by omega
            (rename _ ∧ _ ∧ _ ∧ AllLt _ (_ ++ _) => l1z)
            have hlt := kst_ltOf l1z.2.2.2
            refine Mine.ws_end (b := 0) (cs := Mine.bump cs b) (by assumption) (by assumption) (by first | kst_in | kst_inAny) (by first | (intro p hp; kst_mem) | kst_anyIn) (fun q hq => Nat.ne_of_lt (hlt q (List.mem_append.mpr (.inr hq)))) hr (by rw [← Mine.bump_ext hge]; assumption) (fun p hp => hlt p (List.mem_append.mpr (.inl hp))) (Mine.w_tab hw) (by omega) (by rw [Mine.bump_len]; omega) (by with_unfolding_all rfl) (by with_unfolding_all rfl) (by with_unfolding_all rfl) (by with_unfolding_all rfl) (by intro y e0 e1 e2 e3 e4; simp only [if_neg e0, if_neg e1, if_neg e2, if_neg e3, if_neg e4])
          · have hge : b < cs.length := by omega
            refine Mine.ws_end (b := 0) (cs := Mine.bump cs b) (by assumption) (by assumption) (by first | kst_in | kst_inAny) (by first | (intro p hp; kst_mem) | kst_anyIn) ho hr (by rw [← Mine.bump_in hge]; assumption) hla0 (Mine.w_tab hw) (by omega) (by rw [Mine.bump_len]; omega) (by with_unfolding_all rfl) (by with_unfolding_all rfl) (by with_unfolding_all rfl) (by with_unfolding_all rfl) (by intro y e0 e1 e2 e3 e4; simp only [if_neg e0, if_neg e1, if_neg e2, if_neg e3, if_neg e4])
        · replace hstop := Mine.Keep.mk (hstop (by omega) (by omega))
          have hn1 : ((⟨#[c]⟩ : Str) == Str.ofString " ") = false := Mine.sign_ne (by decide +kernel) h32
          have hn2 : ((⟨#[c]⟩ : Str) == Str.ofString "\t") = false := Mine.sign_ne (by decide +kernel) h9
          (repeat' (first | (k_unfold; (try dsimp only)) | (k_end; wrow_close) | walk1 | (dsimp only; walk1) | (leave1; walk_say "STEP leave1"; try dsimp only) | fail "no step"))
          with_unfolding_all exact hstop.out _ _ (by k_asm) (by k_asm))
end Mine
end

-- L11
section
open PySem PySem.W PyProof.Rows PySem.Calls PySem.Spec
namespace Mine
theorem ints_reads (h : Heap) : ∀ {vs : List Value} {ns : List Int}, IntsAre vs ns → ∃ as, ReadsAll h vs (ns.map PyData.int) as
  | _, _, .nil => ⟨_, .nil⟩
  | _, _, .cons n t r => let ⟨_, z⟩ := ints_reads h r; ⟨_, .cons (.int n t) z⟩
theorem shaped_norm (ns : List Int) : SeqAt.shaped (.tuple [.tuple (ns.map PyData.int), .int 0]) = true := by
  simp [SeqAt.shaped, PyData.canLay0, PyData.canLayAll0, PyData.depth, PyData.depthAll, ke_canLayAll0, ke_depthAll]
theorem eqv_norm (ns ms : List Int) : PyData.eqv (.tuple [.tuple (ns.map PyData.int), .int 0]) (.tuple [.tuple (ms.map PyData.int), .int 0]) = decide (ns = ms) := by
  simp [PyData.eqv, PyData.eqvAll, ked_eqvAll]
section
variable {prog : Program} {w : World} {A : Around} {E : Value → Shared → Prop} {s : Shared} {Q : Value → Shared → Prop} {h₀ : Heap} {L : Addr} {news : List (Addr × Obj)}
theorem norm_eq {tn1 tc1 tn2 tc2 : Addr} {t1 t2 : Tok} {vs1 vs2 : List Value} {ns ms : List Int} (N : News h₀ L s.heap news) (m1 : (tn1, tup2 (.ref tc1) (.int 0 t1)) ∈ news) (m2 : (tc1, tupOf vs1) ∈ news)
    (m3 : (tn2, tup2 (.ref tc2) (.int 0 t2)) ∈ news) (m4 : (tc2, tupOf vs2) ∈ news) (hi : IntsAre vs1 ns) (hj : IntsAre vs2 ms) (hu : A.units + 64 < cLine) (h : Q (.bool (decide (ns = ms))) s) :
    wpAny (model prog w) A (compareOp .Eq (.ref tn1) (.ref tn2)) Q E s := by
  obtain ⟨as, r1⟩ := ints_reads s.heap hi
  obtain ⟨bs, r2⟩ := ints_reads s.heap hj
  refine eq_dataH (reads_tuple_at (News.get N m1) rfl rfl (.cons (reads_tuple_at (News.get N m2) rfl rfl r1) (.cons (.int _ _) .nil)))
    (reads_tuple_at (News.get N m3) rfl rfl (.cons (reads_tuple_at (News.get N m4) rfl rfl r2) (.cons (.int _ _) .nil))) (shaped_norm ns) (shaped_norm ms) hu ?_
  rw [eqv_norm]
  exact h
end
end Mine
end

-- L12
section
open PySem PySem.W PyProof.Rows PySem.Calls PySem.Spec
namespace Mine
/-! the plain law: eight places, a kind each -/
def odd (NS : List Int) : List Int := NS.filter fun a => a.fmod 2 != 0
def moreL : List Int := [1, 2, 3, 1, 2, 3, 4]
def lackOf (NS : List Int) : Int := 4 - ((odd NS).length : Int)
def fullOf (NS : List Int) : List Int := runsTo NS 1 8 ++ (List.replicate (lackOf NS).toNat moreL).flatten
def restOf (NS : List Int) : List Int := runsTo NS 0 8 ++ (List.replicate (-lackOf NS).toNat moreL).flatten
def midOf (f : List Int) : List Int := (f.drop 1).take (f.length - 1 - 1)
def movedOf (f : List Int) : List Int := [f.getD 0 0 + 1] ++ midOf f ++ [f.getD (f.length - 1) 0 - 1]
theorem midOf_len (f : List Int) : (midOf f).length ≤ f.length := by
  unfold midOf
  simp only [List.length_take, List.length_drop]
  omega
def smallB (ns : List Int) : Bool := ns.all fun n => decide (0 ≤ n) && decide (n ≤ 9)
theorem small_of {ns : List Int} (h : smallB ns = true) (hl : ns.length ≤ 100) : Small ns := by
  unfold smallB at h
  rw [List.all_eq_true] at h
  refine ⟨fun n hn => ?_, fun n hn => ?_, hl⟩
  · have := h n hn
    rw [Bool.and_eq_true, decide_eq_true_eq, decide_eq_true_eq] at this
    exact this.1
  · have := h n hn
    rw [Bool.and_eq_true, decide_eq_true_eq, decide_eq_true_eq] at this
    exact this.2
def lawB (NS : List Int) : Bool :=
  let f := fullOf NS
  let m := movedOf f
  let r := restOf NS
  ((decide (cntF (runsTo NS 1 8) = cntF (runsTo NS 0 8)) == (lackOf NS == 0))
    && (decide (cntF m = cntF f) == (f.getD (f.length - 1) 0 == f.getD 0 0 + 1))
    && decide (cntF f = cntF r)
    && smallB (runsTo NS 0 8) && smallB (runsTo NS 1 8) && smallB f && smallB m && smallB r
    && decide (2 ≤ f.length) && decide (f.length ≤ 90) && decide (r.length ≤ 90))
def bitsOf (m : Nat) : List Int := (List.range 8).map fun i => ((m / 2 ^ i % 2 : Nat) : Int)
def lawC (c : Nat) : Bool := (List.range 32).all fun m => lawB (bitsOf (32 * c + m))
set_option maxRecDepth 100000 in
theorem lawC0 : lawC 0 = true := by decide +kernel
set_option maxRecDepth 100000 in
theorem lawC1 : lawC 1 = true := by decide +kernel
set_option maxRecDepth 100000 in
theorem lawC2 : lawC 2 = true := by decide +kernel
set_option maxRecDepth 100000 in
theorem lawC3 : lawC 3 = true := by decide +kernel
set_option maxRecDepth 100000 in
theorem lawC4 : lawC 4 = true := by decide +kernel
set_option maxRecDepth 100000 in
theorem lawC5 : lawC 5 = true := by decide +kernel
set_option maxRecDepth 100000 in
theorem lawC6 : lawC 6 = true := by decide +kernel
set_option maxRecDepth 100000 in
theorem lawC7 : lawC 7 = true := by decide +kernel
theorem all_law : ((List.range 256).all fun m => lawB (bitsOf m)) = true := by
  rw [List.all_eq_true]
  intro m hm
  rw [List.mem_range] at hm
  have hc : lawC (m / 32) = true := by
    have h : m / 32 = 0 ∨ m / 32 = 1 ∨ m / 32 = 2 ∨ m / 32 = 3 ∨ m / 32 = 4 ∨ m / 32 = 5 ∨ m / 32 = 6 ∨ m / 32 = 7 := by omega
    rcases h with h | h | h | h | h | h | h | h <;> rw [h]
    · exact lawC0
    · exact lawC1
    · exact lawC2
    · exact lawC3
    · exact lawC4
    · exact lawC5
    · exact lawC6
    · exact lawC7
  unfold lawC at hc
  rw [List.all_eq_true] at hc
  have h2 := hc (m % 32) (by rw [List.mem_range]; omega)
  rw [show 32 * (m / 32) + m % 32 = m by omega] at h2
  exact h2
def parL (NS : List Int) : List Int := NS.map fun a => a.fmod 2
theorem par_par (NS : List Int) (i : Nat) : par (parL NS) i = par NS i := by
  unfold par parL
  by_cases h : i < NS.length
  · rw [List.getD_eq_getElem?_getD, List.getD_eq_getElem?_getD, List.getElem?_map, List.getElem?_eq_getElem h]
    simp
  · rw [List.getD_eq_getElem?_getD, List.getD_eq_getElem?_getD, List.getElem?_map, List.getElem?_eq_none (by omega)]
    simp
theorem rowOf_par (NS : List Int) (c : Int) (k n : Nat) : rowOf (parL NS) c k n = rowOf NS c k n := by
  unfold rowOf
  simp only [par_par]
theorem runsTo_par (NS : List Int) (c : Int) (n : Nat) : runsTo (parL NS) c n = runsTo NS c n := by
  unfold runsTo
  simp only [rowOf_par]
theorem odd_par (NS : List Int) : (odd (parL NS)).length = (odd NS).length := by
  unfold odd parL
  rw [List.filter_map, List.length_map]
  congr 2
  funext a
  simp
theorem lawB_par (NS : List Int) : lawB (parL NS) = lawB NS := by
  unfold lawB fullOf restOf lackOf
  simp only [runsTo_par, odd_par]
theorem bit_of (a : Int) : a.fmod 2 = 0 ∨ a.fmod 2 = 1 := by
  have h1 := Int.fmod_nonneg_of_pos a (show (0 : Int) < 2 by decide)
  have h2 := Int.fmod_lt_of_pos a (show (0 : Int) < 2 by decide)
  omega
set_option maxRecDepth 100000 in
theorem bits_all (b0 b1 b2 b3 b4 b5 b6 b7 : Int) (h0 : b0 = 0 ∨ b0 = 1) (h1 : b1 = 0 ∨ b1 = 1) (h2 : b2 = 0 ∨ b2 = 1) (h3 : b3 = 0 ∨ b3 = 1) (h4 : b4 = 0 ∨ b4 = 1) (h5 : b5 = 0 ∨ b5 = 1) (h6 : b6 = 0 ∨ b6 = 1) (h7 : b7 = 0 ∨ b7 = 1) :
    ∃ m, m < 256 ∧ bitsOf m = [b0, b1, b2, b3, b4, b5, b6, b7] := by
  refine ⟨(b0 + 2 * b1 + 4 * b2 + 8 * b3 + 16 * b4 + 32 * b5 + 64 * b6 + 128 * b7).toNat, by omega, ?_⟩
  rcases h0 with rfl | rfl <;> rcases h1 with rfl | rfl <;> rcases h2 with rfl | rfl <;> rcases h3 with rfl | rfl <;> rcases h4 with rfl | rfl <;> rcases h5 with rfl | rfl <;> rcases h6 with rfl | rfl <;> rcases h7 with rfl | rfl <;> rfl
theorem law_all {NS : List Int} (h : NS.length = 8) : lawB NS = true := by
  rw [← lawB_par]
  match NS, h with
  | [a0, a1, a2, a3, a4, a5, a6, a7], _ =>
    obtain ⟨m, hm, e⟩ := bits_all _ _ _ _ _ _ _ _ (bit_of a0) (bit_of a1) (bit_of a2) (bit_of a3) (bit_of a4) (bit_of a5) (bit_of a6) (bit_of a7)
    have hall := all_law
    rw [List.all_eq_true] at hall
    have := hall m (by rw [List.mem_range]; exact hm)
    rw [e] at this
    exact this
end Mine
namespace Mine
section
variable {NS : List Int} (h : NS.length = 8)
include h
theorem law1 : (decide (cntF (runsTo NS 1 8) = cntF (runsTo NS 0 8)) != ((4 : Int) - ((NS.filter fun a => a.fmod 2 != 0).length : Int) == 0)) = false := by
  have z := law_all h
  unfold lawB at z
  simp only [Bool.and_eq_true] at z
  have z1 := z.1.1.1.1.1.1.1.1.1.1
  rw [beq_iff_eq] at z1
  rw [z1]
  exact bne_self_eq_false _
theorem law2 : (decide (cntF (movedOf (fullOf NS)) = cntF (fullOf NS)) != ((fullOf NS).getD ((fullOf NS).length - 1) 0 == (fullOf NS).getD 0 0 + 1)) = false := by
  have z := law_all h
  unfold lawB at z
  simp only [Bool.and_eq_true] at z
  have z1 := z.1.1.1.1.1.1.1.1.1.2
  rw [beq_iff_eq] at z1
  rw [z1]
  exact bne_self_eq_false _
theorem law3 : cntF (fullOf NS) = cntF (restOf NS) := by
  have z := law_all h
  unfold lawB at z
  simp only [Bool.and_eq_true] at z
  exact of_decide_eq_true z.1.1.1.1.1.1.1.1.2
theorem full_len : 2 ≤ (fullOf NS).length ∧ (fullOf NS).length ≤ 90 := by
  have z := law_all h
  unfold lawB at z
  simp only [Bool.and_eq_true] at z
  exact ⟨of_decide_eq_true z.1.1.2, of_decide_eq_true z.1.2⟩
theorem rest_len : (restOf NS).length ≤ 90 := by
  have z := law_all h
  unfold lawB at z
  simp only [Bool.and_eq_true] at z
  exact of_decide_eq_true z.2
theorem small0 : Small (runsTo NS 0 8) := by
  have z := law_all h
  unfold lawB at z
  simp only [Bool.and_eq_true] at z
  exact small_of z.1.1.1.1.1.1.1.2 (Nat.le_trans (runsTo_len NS 0 8 (by omega)) (by omega))
theorem small1 : Small (runsTo NS 1 8) := by
  have z := law_all h
  unfold lawB at z
  simp only [Bool.and_eq_true] at z
  exact small_of z.1.1.1.1.1.1.2 (Nat.le_trans (runsTo_len NS 1 8 (by omega)) (by omega))
theorem smallF : Small (fullOf NS) := by
  have z := law_all h
  unfold lawB at z
  simp only [Bool.and_eq_true] at z
  exact small_of z.1.1.1.1.1.2 (Nat.le_trans (full_len h).2 (by omega))
theorem smallM : Small (movedOf (fullOf NS)) := by
  have z := law_all h
  unfold lawB at z
  simp only [Bool.and_eq_true] at z
  refine small_of z.1.1.1.1.2 ?_
  have := (full_len h).2
  have := midOf_len (fullOf NS)
  unfold movedOf
  simp only [List.length_append, List.length_cons, List.length_nil]
  omega
theorem smallR : Small (restOf NS) := by
  have z := law_all h
  unfold lawB at z
  simp only [Bool.and_eq_true] at z
  exact small_of z.1.1.1.2 (Nat.le_trans (rest_len h) (by omega))
theorem cnt_le : (NS.filter fun a => a.fmod 2 != 0).length ≤ 8 := h ▸ List.length_filter_le _ _
end
end Mine
namespace Mine
theorem to_full {vs : List Value} {NS : List Int} (h : IntsAre vs (runsTo NS 1 8 ++ (List.replicate ((4 : Int) - ((NS.filter fun a => a.fmod 2 != 0).length : Int)).toNat [1, 2, 3, 1, 2, 3, 4]).flatten)) : IntsAre vs (fullOf NS) := h
theorem to_mid {vs : List Value} {f : List Int} (h : IntsAre vs (List.take (f.length - (- -1 : Int).toNat - (1 : Int).toNat) (List.drop (1 : Int).toNat f))) : IntsAre vs (midOf f) := h
theorem to_moved {vs : List Value} {f : List Int} (h : IntsAre vs ([f.getD (0 : Int).toNat 0 + 1] ++ midOf f ++ [f.getD (f.length - 1) 0 - 1])) : IntsAre vs (movedOf f) := h
theorem add1_size {NS : List Int} (h : NS.length = 8) (x : Int) : [x].length + (midOf (fullOf NS)).length ≤ sizeLine := by
  have h1 := (full_len h).2
  have h2 := midOf_len (fullOf NS)
  rw [PySem.sizeLine_eq, List.length_cons, List.length_nil]
  omega
theorem add2_size {NS : List Int} (h : NS.length = 8) (x y : Int) : ([x] ++ midOf (fullOf NS)).length + [y].length ≤ sizeLine := by
  have h1 := (full_len h).2
  have h2 := midOf_len (fullOf NS)
  rw [PySem.sizeLine_eq, List.length_append, List.length_cons, List.length_nil, List.length_cons, List.length_nil]
  omega
theorem last_pos {NS : List Int} (h : NS.length = 8) : 1 ≤ (fullOf NS).length ∧ (fullOf NS).length - 1 < (fullOf NS).length := by
  have h1 := (full_len h).1
  omega
theorem last_made {prog : Program} {w : World} {A : Around} {E : Value → Shared → Prop} {s : Shared} {Q : Value → Shared → Prop} {h₀ : Heap} {L l : Addr} {news : List (Addr × Obj)} {vs : List Value} {f : List Int} {c : Nat} {value slice : PySem.Expr} {u : Tok}
    (N : News h₀ L s.heap news) (hm : (l, W.listOf vs.toArray c) ∈ news) (hi : IntsAre vs f) (hl : 1 ≤ f.length ∧ f.length - 1 < f.length)
    (h : ∀ t, Q (.int (f.getD (f.length - 1) 0) t) s)
    (hs : subscripted slice false (.ref l) (.int (-1) u) = operate [.ref l, .int (-1) u] (getItem (.ref l) (.int (-1) u)) := by with_unfolding_all rfl) :
    wpAny (model prog w) A (subscriptTail value slice (.ref l) (.int (-1) u)) Q E s := by
  obtain ⟨t, ht⟩ := ints_get hi hl.2
  have hL : s.heap.IsList l vs.toArray := ⟨_, (N _ hm).1, rfl, c, rfl⟩
  have e : vs.length = f.length := hi.length
  have h1 := hl.1
  exact tail_any hL.typeIs slot_list_getitem.lookup (wpAny_getItem_list_neg hL (by decide) (by rw [List.size_toArray, e]; omega) (by decide) (by rw [List.size_toArray, e, show ((-1 : Int) + (f.length : Int)).toNat = f.length - 1 by omega]; simpa using ht) (h t)) hs
theorem to_rest {vs : List Value} {NS : List Int} (h : IntsAre vs (runsTo NS 0 8 ++ (List.replicate (-((4 : Int) - ((NS.filter fun a => a.fmod 2 != 0).length : Int))).toNat [1, 2, 3, 1, 2, 3, 4]).flatten)) : IntsAre vs (restOf NS) := h
theorem rest_size {NS : List Int} (h : NS.length = 8) : (runsTo NS 0 8).length + (List.replicate (-((4 : Int) - ((NS.filter fun a => a.fmod 2 != 0).length : Int))).toNat ([1, 2, 3, 1, 2, 3, 4] : List Int)).flatten.length ≤ sizeLine := by
  have h1 := rest_len h
  have h2 : (restOf NS).length = (runsTo NS 0 8).length + (List.replicate (-((4 : Int) - ((NS.filter fun a => a.fmod 2 != 0).length : Int))).toNat ([1, 2, 3, 1, 2, 3, 4] : List Int)).flatten.length := by
    rw [← List.length_append]
    rfl
  rw [← h2, PySem.sizeLine_eq]
  omega
theorem full_size {NS : List Int} (h : NS.length = 8) : (runsTo NS 1 8).length + (List.replicate ((4 : Int) - ((NS.filter fun a => a.fmod 2 != 0).length : Int)).toNat ([1, 2, 3, 1, 2, 3, 4] : List Int)).flatten.length ≤ sizeLine := by
  have h1 := (full_len h).2
  have h2 : (fullOf NS).length = (runsTo NS 1 8).length + (List.replicate ((4 : Int) - ((NS.filter fun a => a.fmod 2 != 0).length : Int)).toNat ([1, 2, 3, 1, 2, 3, 4] : List Int)).flatten.length := by
    rw [← List.length_append]
    rfl
  rw [← h2, PySem.sizeLine_eq]
  omega
theorem norm_eqT {prog : Program} {w : World} {A : Around} {E : Value → Shared → Prop} {s : Shared} {Q : Value → Shared → Prop} {h₀ : Heap} {L : Addr} {news : List (Addr × Obj)} {tn1 tc1 tn2 tc2 : Addr} {t1 t2 : Tok} {vs1 vs2 : List Value} {ns ms : List Int} (N : News h₀ L s.heap news) (m1 : (tn1, tup2 (.ref tc1) (.int 0 t1)) ∈ news) (m2 : (tc1, tupOf vs1) ∈ news)
    (m3 : (tn2, tup2 (.ref tc2) (.int 0 t2)) ∈ news) (m4 : (tc2, tupOf vs2) ∈ news) (hi : IntsAre vs1 ns) (hj : IntsAre vs2 ms) (e : ns = ms) (hu : A.units + 64 < cLine) (h : Q (.bool true) s) :
    wpAny (model prog w) A (compareOp .Eq (.ref tn1) (.ref tn2)) Q E s :=
  norm_eq N m1 m2 m3 m4 hi hj hu (by rw [decide_eq_true e]; exact h)
end Mine
end

-- V2
section
open PySem PySem.W PyProof.Rows PySem.Calls PySem.Spec
namespace Mine
/-- what _substitution_cost gives -/
def costF (x y : Str) : Int := if (x == y) = true then 0 else if (Txt.lower x == Txt.lower y) = true then 1 else 2
local macro_rules | `(tactic| walk_at "call builtin:str.lower") => `(tactic| (k_here; (refine PyProof.Rows.SCL.lower (by omega) ?_); intro _))
local macro_rules | `(tactic| walk_at "none") => `(tactic| fail)
set_option maxRecDepth 100000 in
set_option maxHeartbeats 8000000 in
theorem sub_c (w : World) (s00 : Shared) (mg mb : Str → Option Value) (x y : Str) (hx : x.length = 1) (hy : y.length = 1) :
  ∀ (dp un : Nat) (gd : Option (List Code)) (cn : Str) (cs : Scope) (a : Addr) (ccd : Value) (cl : List (Str × Addr)) (outer : List Env) (A₀ : Around) (base h₀ : Heap) (L : Addr) (m : Str → Option Value) (news : List (Addr × Obj)) (s : Shared) (Q E : Value → Shared → Prop) (t1 t2 : Tok),
    Below A₀ base outer h₀ → Fr h₀ L s.heap m → (hd.heap_39 w.params).In h₀ → News h₀ L s.heap news → TopIs s00 mg mb h₀ → cs.kind = .function →
    dp + 1 < recursionLimit → un + 8 < cLine →
    (∀ (t : Tok) (h' : Heap) (tk' : Nat), Fr h₀ L h' m → News h₀ L h' news → Q (.int (costF x y) t) { s with heap := h', toks := tk' }) →
      wpAny (model Prog w) (ktrTop dp un gd cn cs L a ccd cl outer) (call (.ref 108) [.str x t1, .str y t2]) Q E s := by
  unfold Prog TopIs
  w_on
  k_fill
  w_strict (
    intro dp un gd cn cs a ccd cl outer A₀ base h₀ L m news s Q E t1 t2 hB hF hX hN hT hcs hdp hun hret
    refine wpAny_call ?_
    k_dflt cell_enter
    (repeat' (first | (k_unfold; (try dsimp only)) | (k_end; wrow_close) | walk1 | (dsimp only; walk1) | (leave1; walk_say "STEP leave1"; try dsimp only) | fail "no step"))
    all_goals (refine' cb_retI (Q := Q) (s := s) hret (by (unfold costF; repeat (first | rw [if_pos (by assumption)] | rw [if_neg (by assumption)] | rw [if_neg (by rw [Bool.not_eq_true]; assumption)]))) (by k_asm) (by k_asm)))
end Mine
end

-- VD
section
open PySem PySem.W PyProof.Rows PySem.Calls PySem.Spec PySem.StrLaws
namespace Mine
/-- the test of the first loop -/
def preT (xa xb : Str) (p : Int) : Bool := (Txt.slice xa (some p) none).length != 0 && (Txt.slice xb (some p) none).length != 0 && (Txt.item xa p == Txt.item xb p)
def preG (xa xb : Str) : Nat → Int → Int
  | 0, p => p
  | f + 1, p => if preT xa xb p = true then preG xa xb f (p + 1) else p
def preF (xa xb : Str) : Int := preG xa xb 4 0
/-- x[:p or None] -/
def cutF (x : Str) (p : Int) : Str := if p = 0 then Txt.slice x none none else Txt.slice x none (some p)
def postT (xa xb : Str) (p : Int) : Bool := (cutF xa p).length != 0 && (cutF xb p).length != 0 && (Txt.item xa (p - 1) == Txt.item xb (p - 1))
def postG (xa xb : Str) : Nat → Int → Int
  | 0, p => p
  | f + 1, p => if postT xa xb p = true then postG xa xb f (p - 1) else p
def postF (xa xb : Str) : Int := postG xa xb xa.length 0
def bigI : Int := 9223372036854775807
/-- one row of the table -/
def inF (xa bc : Str) : Nat → Nat → List Int → Int → Int → Int → List Int × Int × Int
  | 0, _, row, _, r, m => (row, r, m)
  | f + 1, i, row, d, r, m =>
    let u := d + costF bc (Txt.item xa (i : Int))
    let d' := row.getD i 0
    let v := (if d' < r then d' else r) + 2
    let r' := if u < v then u else v
    inF xa bc f (i + 1) (row.set i r') d' r' (if r' < m then r' else m)
def outF (xa xb : Str) (n : Nat) : Nat → Nat → List Int → Int → Int
  | 0, _, _, r => r
  | f + 1, j, row, _ =>
    let q := inF xa (Txt.item xb (j : Int)) n 0 row (2 * (j : Int)) (2 * (j : Int)) bigI
    if 4 < q.2.2 then 5 else outF xa xb n f (j + 1) q.1 q.2.1
def row0 (n : Nat) : List Int := (List.range n).map fun (i : Nat) => 2 + 2 * (i : Int)
def dpF (a b : Str) : Int := outF a b a.length a.length 0 (row0 a.length) 0
def a1F (xa xb : Str) : Str := Txt.slice xa (some (preF xa xb)) none
def b1F (xa xb : Str) : Str := Txt.slice xb (some (preF xa xb)) none
def a2F (xa xb : Str) : Str := cutF (a1F xa xb) (postF (a1F xa xb) (b1F xa xb))
def b2F (xa xb : Str) : Str := cutF (b1F xa xb) (postF (a1F xa xb) (b1F xa xb))
def levB (xa xb : Str) (R : Int) : Bool :=
  decide (xa.length = 4) && decide (xb.length = 4) && !(xa == xb) && decide ((b1F xa xb).length = (a1F xa xb).length) && decide (1 ≤ (a1F xa xb).length) && decide ((a1F xa xb).length ≤ 4)
    && decide ((b2F xa xb).length = (a2F xa xb).length) && decide (1 ≤ (a2F xa xb).length) && decide ((a2F xa xb).length ≤ 4) && decide (dpF (a2F xa xb) (b2F xa xb) = R)
set_option maxRecDepth 100000 in
theorem all_lev : ((List.range 8).all fun j => (List.range 8).all fun k => !decide (j < k) || levB (wordT j) (wordT k) (farF (j : Int) (k : Int))) = true := by decide +kernel
theorem lev_ok {j k : Int} (hj : 0 ≤ j) (hjk : j < k) (hk : k < 8) : levB (wordF j) (wordF k) (farF j k) = true := by
  have h := all_lev
  rw [List.all_eq_true] at h
  have h1 := h j.toNat (by rw [List.mem_range]; omega)
  rw [List.all_eq_true] at h1
  have h2 := h1 k.toNat (by rw [List.mem_range]; omega)
  have e1 : decide (j.toNat < k.toNat) = true := decide_eq_true (by omega)
  rw [e1, show ((j.toNat : Nat) : Int) = j by omega, show ((k.toNat : Nat) : Int) = k by omega] at h2
  simpa [wordF] using h2
theorem from_len {x : Str} {p : Int} (h : (Txt.slice x (some p) none).length ≠ 0) : p < (x.length : Int) := by
  by_cases hp : p < (x.length : Int)
  · exact hp
  · exact absurd (by rw [slice_beyond (by omega)]; rfl) h
theorem pre_stop {xa xb : Str} {p : Int} (h : preT xa xb p = false) : ∀ f, preG xa xb f p = p
  | 0 => rfl
  | f + 1 => by rw [preG, if_neg (by rw [h]; decide)]
theorem post_stop {xa xb : Str} {p : Int} (h : postT xa xb p = false) : ∀ f, postG xa xb f p = p
  | 0 => rfl
  | f + 1 => by rw [postG, if_neg (by rw [h]; decide)]
theorem len_nn (x : Str) : (Txt.slice x none none).length = x.length := by
  show (sliceText x none none).length = x.length
  unfold sliceText
  rw [sliceIdx_none_lo, sliceIdx_none_hi]
  have := sliceText_nat x (a := 0) (b := x.length) (Nat.zero_le _) (Nat.le_refl _)
  unfold sliceText at this
  rw [show ((0 : Nat) : Int) = 0 from rfl] at this
  rw [this]
  show (List.toArray _).size = _
  simp [Str.length]
theorem len_ns {x : Str} {p : Int} (h0 : p < 0) (h1 : -(x.length : Int) ≤ p) : ((Txt.slice x none (some p)).length : Int) = x.length + p := by
  show ((sliceText x none (some p)).length : Int) = _
  rw [sliceText_to_neg h0 h1]
  show (((List.toArray _).size : Nat) : Int) = _
  have e : x.cps.toList.length = x.length := rfl
  rw [List.size_toArray, List.length_take, List.length_drop, e]
  omega
theorem cut_len {x : Str} {p : Int} (h0 : p ≤ 0) (h1 : -(x.length : Int) ≤ p) : ((cutF x p).length : Int) = x.length + p := by
  unfold cutF
  split
  · rename_i e; rw [len_nn, e]; omega
  · exact len_ns (by omega) h1
theorem preT_t {xa xb : Str} {p : Int} (h1 : ((Txt.slice xa (some p) none).length : Int) ≠ 0) (h2 : ((Txt.slice xb (some p) none).length : Int) ≠ 0) (h3 : (Txt.item xa p == Txt.item xb p) = true) : preT xa xb p = true := by
  unfold preT
  rw [h3, Bool.and_true, Bool.and_eq_true, bne_iff_ne, bne_iff_ne]
  omega
theorem preT_1 {xa xb : Str} {p : Int} (h1 : ((Txt.slice xa (some p) none).length : Int) = 0) : preT xa xb p = false := by
  have e : (Txt.slice xa (some p) none).length = 0 := by omega
  unfold preT
  rw [e]
  rfl
theorem preT_2 {xa xb : Str} {p : Int} (h1 : ((Txt.slice xb (some p) none).length : Int) = 0) : preT xa xb p = false := by
  have e : (Txt.slice xb (some p) none).length = 0 := by omega
  unfold preT
  rw [e]
  simp
theorem preT_3 {xa xb : Str} {p : Int} (h3 : (Txt.item xa p == Txt.item xb p) = false) : preT xa xb p = false := by
  unfold preT
  rw [h3, Bool.and_false]
theorem postT_t {xa xb : Str} {p : Int} (h1 : ((cutF xa p).length : Int) ≠ 0) (h2 : ((cutF xb p).length : Int) ≠ 0) (h3 : (Txt.item xa (p - 1) == Txt.item xb (p - 1)) = true) : postT xa xb p = true := by
  unfold postT
  rw [h3, Bool.and_true, Bool.and_eq_true, bne_iff_ne, bne_iff_ne]
  omega
theorem postT_1 {xa xb : Str} {p : Int} (h1 : ((cutF xa p).length : Int) = 0) : postT xa xb p = false := by
  have e : (cutF xa p).length = 0 := by omega
  unfold postT
  rw [e]
  rfl
theorem postT_2 {xa xb : Str} {p : Int} (h1 : ((cutF xb p).length : Int) = 0) : postT xa xb p = false := by
  have e : (cutF xb p).length = 0 := by omega
  unfold postT
  rw [e]
  simp
theorem postT_3 {xa xb : Str} {p : Int} (h3 : (Txt.item xa (p - 1) == Txt.item xb (p - 1)) = false) : postT xa xb p = false := by
  unfold postT
  rw [h3, Bool.and_false]
structure Lev3K (a b : Str) (R : Int) : Prop where
  out : dpF a b = R
structure Lev2K (a b : Str) (R : Int) : Prop where
  out : (cutF b (postF a b)).length = (cutF a (postF a b)).length ∧ 1 ≤ (cutF a (postF a b)).length ∧ (cutF a (postF a b)).length ≤ 4 ∧ dpF (cutF a (postF a b)) (cutF b (postF a b)) = R
structure LevK (xa xb : Str) (R : Int) : Prop where
  out : (b1F xa xb).length = (a1F xa xb).length ∧ 1 ≤ (a1F xa xb).length ∧ (a1F xa xb).length ≤ 4 ∧ Lev2K (a1F xa xb) (b1F xa xb) R
theorem lev_facts {xa xb : Str} {R : Int} (h : levB xa xb R = true) : xa.length = 4 ∧ xb.length = 4 ∧ (xa == xb) = false ∧ LevK xa xb R := by
  unfold levB at h
  simp only [Bool.and_eq_true, decide_eq_true_eq, Bool.not_eq_true'] at h
  obtain ⟨⟨⟨⟨⟨⟨⟨⟨⟨x1, x2⟩, x3⟩, x4⟩, x5⟩, x6⟩, x7⟩, x8⟩, x9⟩, x10⟩ := h
  exact ⟨x1, x2, x3, ⟨x4, x5, x6, ⟨x7, x8, x9, x10⟩⟩⟩
theorem lev_one {xa xb : Str} {R p : Int} (h : LevK xa xb R) (hp : p = preF xa xb) : (Txt.slice xb (some p) none).length = (Txt.slice xa (some p) none).length ∧ 1 ≤ (Txt.slice xa (some p) none).length ∧ (Txt.slice xa (some p) none).length ≤ 4 ∧ Lev2K (Txt.slice xa (some p) none) (Txt.slice xb (some p) none) R := by
  subst hp
  exact h.out
theorem lev_two {a b : Str} {R q : Int} (h : Lev2K a b R) (hq : q = postF a b) : (cutF b q).length = (cutF a q).length ∧ 1 ≤ (cutF a q).length ∧ (cutF a q).length ≤ 4 ∧ Lev3K (cutF a q) (cutF b q) R := by
  subst hq
  exact ⟨h.out.1, h.out.2.1, h.out.2.2.1, ⟨h.out.2.2.2⟩⟩
end Mine
end

-- VL
section
open PySem PySem.W PyProof.Rows PySem.Calls PySem.Spec
namespace Mine
def preM (m₀ : Str → Option Value) (p : Int) (t : Tok) : Str → Option Value := fun y => if y = Str.ofString "pre" then some (.int p t) else m₀ y
def PreEnd (h₀ : Heap) (L : Addr) (m₀ : Str → Option Value) (news : List (Addr × Obj)) (xa xb : Str) (p : Int) (s s₃ : Shared) : Prop :=
  preT xa xb p = true ∧ ∃ t h' tk', s₃ = { s with heap := h', toks := tk' } ∧ Fr h₀ L h' (preM m₀ (p + 1) t) ∧ News h₀ L h' news
def PrePost (h₀ : Heap) (L : Addr) (m₀ : Str → Option Value) (news : List (Addr × Obj)) (xa xb : Str) (p : Int) (s : Shared) (Q : Flow → Shared → Prop) (f : Flow) (s₃ : Shared) : Prop :=
  match f with
  | .ret v => Q (.ret v) s₃
  | .brk => Q .next s₃
  | _ => PreEnd h₀ L m₀ news xa xb p s s₃
theorem fr_over {h₀ h : Heap} {L : Addr} {m₀ : Str → Option Value} {n : Str} {v1 v2 : Option Value} (F : Fr h₀ L h (fun y => if y = n then v1 else if y = n then v2 else m₀ y)) : Fr h₀ L h (fun y => if y = n then v1 else m₀ y) := by
  have e : (fun y => if y = n then v1 else if y = n then v2 else m₀ y) = fun y => if y = n then v1 else m₀ y := by
    funext y
    split <;> simp_all
  rw [e] at F
  exact F
theorem pre_end {h₀ h' : Heap} {L : Addr} {m₀ : Str → Option Value} {news : List (Addr × Obj)} {xa xb : Str} {p : Int} {s : Shared} {tk' : Nat} {t : Tok} {v2 : Option Value} (hT : preT xa xb p = true)
    (F : Fr h₀ L h' (fun y => if y = Str.ofString "pre" then some (.int (p + 1) t) else if y = Str.ofString "pre" then v2 else m₀ y)) (N : News h₀ L h' news) : PreEnd h₀ L m₀ news xa xb p s { s with heap := h', toks := tk' } :=
  ⟨hT, t, h', tk', rfl, fr_over F, N⟩
theorem preLoop {prog : Program} {w : World} {A : Around} {E : Value → Shared → Prop} {Q : Flow → Shared → Prop} {s : Shared} {env : Env} {h₀ : Heap} {test : PySem.Expr} {body : List Stmt} {pos : Pos} {m₀ : Str → Option Value} {news : List (Addr × Obj)} {t0 ta tb : Tok} {xa xb : Str}
  (F : Fr h₀ env.locals s.heap m₀) (N : News h₀ env.locals s.heap news) (hm : m₀ (Str.ofString "pre") = some (.int 0 t0)) (uha : m₀ (Str.ofString "a") = some (.str xa ta)) (uhb : m₀ (Str.ofString "b") = some (.str xb tb)) (hl : xa.length = 4)
  (key : ∀ (p : Int) t h tk, p = preF xa xb → Fr h₀ env.locals h (preM m₀ p t) → News h₀ env.locals h news → Q .next {s with heap := h, toks := tk})
  (turn : ∀ (p : Int) t h tk, 0 ≤ p → p ≤ 4 → Fr h₀ env.locals h (preM m₀ p t) → News h₀ env.locals h news →
     (preT xa xb p = false → ∀ t h' tk', Fr h₀ env.locals h' (preM m₀ p t) → News h₀ env.locals h' news → Q .next {s with heap := h', toks := tk'}) →
     wpAny (model prog w) A (isTrue test env (eval test env)) (fun b s₂ => if b = true then wpAny (model prog w) A (execs body env) (PrePost h₀ env.locals m₀ news xa xb p s Q) E s₂ else Keep (Q .next s₂)) E {s with heap := h, toks := tk})
  (hE : PassesOwn (model prog w) A env E := by passes_own) :
  wpAny (model prog w) A (exec (.While test body [] pos) env) Q E s := by
  refine While_inv2 (fun n m nx => ∃ p : Int, ∃ t : Tok, nx = news ∧ (4 - p).toNat = n ∧ m = preM m₀ p t ∧ 0 ≤ p ∧ p ≤ 4 ∧ preG xa xb (4 - p).toNat p = preF xa xb) F N ⟨0, t0, rfl, rfl, ?_, by omega, by omega, rfl⟩ ?_ hE
  · funext y
    unfold preM
    split
    · rename_i e; rw [e, hm]
    · rfl
  · rintro n m₁ nx h tk F₁ N₁ ⟨p, t, rfl, hn, rfl, h0, h4, hg⟩
    refine wpAny_mono (turn p t h tk h0 h4 F₁ N₁ (fun hs t' h' tk' F' N' => key p t' h' tk' ?_ F' N')) (fun b s₂ q => ?_) fun _ _ x => x
    · rw [← hg, pre_stop hs]
    · cases b with
      | false => exact (by simpa using q : Keep (Q .next s₂)).out
      | true =>
        simp only [if_true] at q ⊢
        refine wpAny_mono q (fun f s₃ q => ?_) fun _ _ x => x
        have fin : PreEnd h₀ env.locals m₀ nx xa xb p s s₃ → ∃ h' tk' m' nx' n', s₃ = { s with heap := h', toks := tk' } ∧ Fr h₀ env.locals h' m' ∧ News h₀ env.locals h' nx' ∧ n' < n ∧ ∃ p' : Int, ∃ t' : Tok, nx' = nx ∧ (4 - p').toNat = n' ∧ m' = preM m₀ p' t' ∧ 0 ≤ p' ∧ p' ≤ 4 ∧ preG xa xb (4 - p').toNat p' = preF xa xb := by
          rintro ⟨hT, t', h', tk', rfl, F', N'⟩
          have hp : p < 4 := by
            unfold preT at hT
            rw [Bool.and_eq_true, Bool.and_eq_true, bne_iff_ne] at hT
            have := from_len hT.1.1
            omega
          refine ⟨h', tk', _, nx, (4 - (p + 1)).toNat, rfl, F', N', by omega, p + 1, t', rfl, rfl, rfl, by omega, by omega, ?_⟩
          rw [← hg]
          have e : (4 - p).toNat = (4 - (p + 1)).toNat + 1 := by omega
          rw [e, preG, if_pos hT]
        cases f with
        | ret v => exact q
        | brk => exact q
        | next => exact fin q
        | cont => exact fin q
end Mine
end

-- VP
section
open PySem PySem.W PyProof.Rows PySem.Calls PySem.Spec PySem.StrLaws
namespace Mine
def postM (m₀ : Str → Option Value) (p : Int) (t : Tok) : Str → Option Value := fun y => if y = Str.ofString "post" then some (.int p t) else m₀ y
def PoEnd (h₀ : Heap) (L : Addr) (m₀ : Str → Option Value) (news : List (Addr × Obj)) (xa xb : Str) (p : Int) (s s₃ : Shared) : Prop :=
  postT xa xb p = true ∧ ∃ t h' tk', s₃ = { s with heap := h', toks := tk' } ∧ Fr h₀ L h' (postM m₀ (p - 1) t) ∧ News h₀ L h' news
def PoPost (h₀ : Heap) (L : Addr) (m₀ : Str → Option Value) (news : List (Addr × Obj)) (xa xb : Str) (p : Int) (s : Shared) (Q : Flow → Shared → Prop) (f : Flow) (s₃ : Shared) : Prop :=
  match f with
  | .ret v => Q (.ret v) s₃
  | .brk => Q .next s₃
  | _ => PoEnd h₀ L m₀ news xa xb p s s₃
theorem po_end {h₀ h' : Heap} {L : Addr} {m₀ : Str → Option Value} {news : List (Addr × Obj)} {xa xb : Str} {p : Int} {s : Shared} {tk' : Nat} {t : Tok} {v2 : Option Value} (hT : postT xa xb p = true)
    (F : Fr h₀ L h' (fun y => if y = Str.ofString "post" then some (.int (p - 1) t) else if y = Str.ofString "post" then v2 else m₀ y)) (N : News h₀ L h' news) : PoEnd h₀ L m₀ news xa xb p s { s with heap := h', toks := tk' } :=
  ⟨hT, t, h', tk', rfl, fr_over F, N⟩
theorem cut_pos {x : Str} {p : Int} (h0 : p ≤ 0) (h1 : -(x.length : Int) ≤ p) (h : ((cutF x p).length : Int) ≠ 0) : -(x.length : Int) ≤ p - 1 := by
  have := cut_len h0 h1
  omega
theorem postLoop {prog : Program} {w : World} {A : Around} {E : Value → Shared → Prop} {Q : Flow → Shared → Prop} {s : Shared} {env : Env} {h₀ : Heap} {test : PySem.Expr} {body : List Stmt} {pos : Pos} {m₀ : Str → Option Value} {news : List (Addr × Obj)} {t0 ta tb : Tok} {xa xb : Str}
  (F : Fr h₀ env.locals s.heap m₀) (N : News h₀ env.locals s.heap news) (hm : m₀ (Str.ofString "post") = some (.int 0 t0)) (uha : m₀ (Str.ofString "a") = some (.str xa ta)) (uhb : m₀ (Str.ofString "b") = some (.str xb tb))
  (key : ∀ (p : Int) t h tk, p = postF xa xb → p ≤ 0 → -(xa.length : Int) ≤ p → Fr h₀ env.locals h (postM m₀ p t) → News h₀ env.locals h news → Q .next {s with heap := h, toks := tk})
  (turn : ∀ (p : Int) t h tk, p ≤ 0 → -(xa.length : Int) ≤ p → Fr h₀ env.locals h (postM m₀ p t) → News h₀ env.locals h news →
     (postT xa xb p = false → ∀ t h' tk', Fr h₀ env.locals h' (postM m₀ p t) → News h₀ env.locals h' news → Q .next {s with heap := h', toks := tk'}) →
     wpAny (model prog w) A (isTrue test env (eval test env)) (fun b s₂ => if b = true then wpAny (model prog w) A (execs body env) (PoPost h₀ env.locals m₀ news xa xb p s Q) E s₂ else Keep (Q .next s₂)) E {s with heap := h, toks := tk})
  (hE : PassesOwn (model prog w) A env E := by passes_own) :
  wpAny (model prog w) A (exec (.While test body [] pos) env) Q E s := by
  refine While_inv2 (fun n m nx => ∃ p : Int, ∃ t : Tok, nx = news ∧ ((xa.length : Int) + p).toNat = n ∧ m = postM m₀ p t ∧ p ≤ 0 ∧ -(xa.length : Int) ≤ p ∧ postG xa xb ((xa.length : Int) + p).toNat p = postF xa xb) F N ⟨0, t0, rfl, rfl, ?_, by omega, by omega, ?_⟩ ?_ hE
  · funext y
    unfold postM
    split
    · rename_i e; rw [e, hm]
    · rfl
  · unfold postF
    rw [show ((xa.length : Int) + 0).toNat = xa.length by omega]
  · rintro n m₁ nx h tk F₁ N₁ ⟨p, t, rfl, hn, rfl, h0, h4, hg⟩
    refine wpAny_mono (turn p t h tk h0 h4 F₁ N₁ (fun hs t' h' tk' F' N' => key p t' h' tk' ?_ h0 h4 F' N')) (fun b s₂ q => ?_) fun _ _ x => x
    · rw [← hg, post_stop hs]
    · cases b with
      | false => exact (by simpa using q : Keep (Q .next s₂)).out
      | true =>
        simp only [if_true] at q ⊢
        refine wpAny_mono q (fun f s₃ q => ?_) fun _ _ x => x
        have fin : PoEnd h₀ env.locals m₀ nx xa xb p s s₃ → ∃ h' tk' m' nx' n', s₃ = { s with heap := h', toks := tk' } ∧ Fr h₀ env.locals h' m' ∧ News h₀ env.locals h' nx' ∧ n' < n ∧ ∃ p' : Int, ∃ t' : Tok, nx' = nx ∧ ((xa.length : Int) + p').toNat = n' ∧ m' = postM m₀ p' t' ∧ p' ≤ 0 ∧ -(xa.length : Int) ≤ p' ∧ postG xa xb ((xa.length : Int) + p').toNat p' = postF xa xb := by
          rintro ⟨hT, t', h', tk', rfl, F', N'⟩
          have hp : -(xa.length : Int) ≤ p - 1 := by
            have hT2 := hT
            unfold postT at hT2
            rw [Bool.and_eq_true, Bool.and_eq_true, bne_iff_ne] at hT2
            exact cut_pos h0 h4 (by have := hT2.1.1; omega)
          refine ⟨h', tk', _, nx, ((xa.length : Int) + (p - 1)).toNat, rfl, F', N', by omega, p - 1, t', rfl, rfl, rfl, by omega, by omega, ?_⟩
          rw [← hg]
          have e : ((xa.length : Int) + p).toNat = ((xa.length : Int) + (p - 1)).toNat + 1 := by omega
          rw [e, postG, if_pos hT]
        cases f with
        | ret v => exact q
        | brk => exact q
        | next => exact fin q
        | cont => exact fin q
theorem ite_bool {b : Bool} {p q : Prop} (h1 : b = true → p) (h2 : b = false → q) : if b = true then p else q := by
  cases b
  · rw [if_neg (by decide)]; exact h2 rfl
  · rw [if_pos rfl]; exact h1 rfl
theorem ite_nz {n : Int} {p q : Prop} (h : n ≠ 0) (hp : p) : if (n != 0) = true then p else q := by
  rw [if_pos (by simpa using h)]; exact hp
theorem ite_z {n : Int} {p q : Prop} (h : n = 0) (hp : q) : if (n != 0) = true then p else q := by
  rw [if_neg (by simp [h])]; exact hp
theorem cut_fit {x : Str} {p : Int} (h : x.length ≤ 4) : ((cutF x p).length : Int) < 9223372036854775808 := by
  have : (cutF x p).length ≤ x.length := by
    unfold cutF
    split <;> exact PyProof.Txt.length_slice_le x _ _
  omega
section
variable {prog : Program} {w : World} {A : Around} {E : Value → Shared → Prop} {s : Shared} {value slice : PySem.Expr} {x : Str} {t : Tok} {h₀ : Heap} {L : Addr} {m : Str → Option Value} {news : List (Addr × Obj)} {Q : Value → Shared → Prop}
/-- x[:p or None], p nought -/
theorem cut_nn {p : Int} (hF : Fr h₀ L s.heap m) (hN : News h₀ L s.heap news) (hp : p = 0) (h : ∀ h' t' k, Fr h₀ L h' m → News h₀ L h' news → Q (.str (cutF x p) t') { s with heap := h', toks := k }) (hsz : x.length ≤ sizeLine)
    (hs : subscripted slice false (.str x t) (.ref s.heap.objs.size) = operate [.ref s.heap.objs.size, .str x t] (getItem (.str x t) (.ref s.heap.objs.size)) := by with_unfolding_all rfl)
    (ht : ∀ r, letTemporaryGo value (.str x t) r = pure () := by intro _; with_unfolding_all rfl) :
    wpAny (model prog w) A (subscriptTail value slice (.str x t) (.ref s.heap.objs.size)) Q E { s with heap := s.heap.push { cls := .type "slice", data := .fields #[.none, .none, .none] } } := by
  refine slice_strN_nn hF hN (fun h' t' k a b => ?_) hs ht hsz
  have := h h' t' k a b
  unfold cutF at this
  rw [if_pos hp] at this
  exact this
theorem cut_ns {p : Int} {u : Tok} (hF : Fr h₀ L s.heap m) (hN : News h₀ L s.heap news) (hp : ¬ p = 0) (h : ∀ h' t' k, Fr h₀ L h' m → News h₀ L h' news → Q (.str (cutF x p) t') { s with heap := h', toks := k }) (hsz : x.length ≤ sizeLine)
    (hs : subscripted slice false (.str x t) (.ref s.heap.objs.size) = operate [.ref s.heap.objs.size, .str x t] (getItem (.str x t) (.ref s.heap.objs.size)) := by with_unfolding_all rfl)
    (ht : ∀ r, letTemporaryGo value (.str x t) r = pure () := by intro _; with_unfolding_all rfl) :
    wpAny (model prog w) A (subscriptTail value slice (.str x t) (.ref s.heap.objs.size)) Q E { s with heap := s.heap.push { cls := .type "slice", data := .fields #[.none, .int p u, .none] } } := by
  refine slice_strN_ns hF hN (fun h' t' k a b => ?_) hs ht hsz
  have := h h' t' k a b
  unfold cutF at this
  rw [if_neg hp] at this
  exact this
/-- «p or None», both ways at once -/
def orV (q : Int) (t : Tok) : Value := if q = 0 then .none else .int q t
def OrPost (q : Int) (t : Tok) (s : Shared) (v : Value) (s' : Shared) : Prop := v = orV q t ∧ ∃ k, s' = { s with toks := k }
theorem or_a {q : Int} {t : Tok} {s : Shared} {k : Nat} (h : q ≠ 0) : OrPost q t s (.int q t) { s with toks := k } := ⟨by unfold orV; rw [if_neg h], k, rfl⟩
theorem or_b {q : Int} {t : Tok} {s : Shared} {k : Nat} (h : q = 0) : OrPost q t s .none { s with toks := k } := ⟨by unfold orV; rw [if_pos h], k, rfl⟩
theorem or_join {M : Model} {T : Sem Value} {q : Int} {t : Tok} (uF : Fr h₀ L s.heap m) (uhm : m (Str.ofString "post") = some (.int q t)) (h1 : wpAny M A T (OrPost q t s) E s)
    (h2 : ∀ k, Q (orV q t) { s with toks := k }) : wpAny M A T Q E s := by
  refine wpAny_mono h1 (fun v s' p => ?_) fun _ _ x => x
  obtain ⟨rfl, k, rfl⟩ := p
  exact h2 k
theorem cut_or {p : Int} {u : Tok} (hF : Fr h₀ L s.heap m) (hN : News h₀ L s.heap news) (h : ∀ h' t' k, Fr h₀ L h' m → News h₀ L h' news → Q (.str (cutF x p) t') { s with heap := h', toks := k }) (hsz : x.length ≤ sizeLine)
    (hs : subscripted slice false (.str x t) (.ref s.heap.objs.size) = operate [.ref s.heap.objs.size, .str x t] (getItem (.str x t) (.ref s.heap.objs.size)) := by with_unfolding_all rfl)
    (ht : ∀ r, letTemporaryGo value (.str x t) r = pure () := by intro _; with_unfolding_all rfl) :
    wpAny (model prog w) A (subscriptTail value slice (.str x t) (.ref s.heap.objs.size)) Q E { s with heap := s.heap.push { cls := .type "slice", data := .fields #[.none, orV p u, .none] } } := by
  by_cases hp : p = 0
  · unfold orV
    rw [if_pos hp]
    exact cut_nn hF hN hp h hsz hs ht
  · unfold orV
    rw [if_neg hp]
    exact cut_ns hF hN hp h hsz hs ht
end
theorem ints_of : ∀ {vs : List Value} {ns : List Int}, vs.length = ns.length → (∀ (j : Nat) (v : Value), vs[j]? = some v → ∃ t, v = .int (ns.getD j 0) t) → IntsAre vs ns
  | [], [], _, _ => .nil
  | [], _ :: _, e, _ => by simp at e
  | _ :: _, [], e, _ => by simp at e
  | v :: r, n :: ns, e, h => by
    obtain ⟨t, ht⟩ := h 0 v rfl
    have hv : v = .int n t := by rw [ht]; simp
    subst hv
    exact IntsAre.cons _ _ (ints_of (by simpa using e) fun j v hj => by
      obtain ⟨t', ht'⟩ := h (j + 1) v hj
      exact ⟨t', by simpa using ht'⟩)
theorem row0_len (n : Nat) : (row0 n).length = n := by simp [row0]
theorem row0_at {n j : Nat} (h : j < n) : (row0 n).getD j 0 = 2 + 2 * (j : Int) := by
  unfold row0
  rw [List.getD_eq_getElem?_getD, List.getElem?_map, List.getElem?_range h]
  rfl
theorem list_row {prog : Program} {w : World} {A : Around} {E : Value → Shared → Prop} {s : Shared} {h₀ : Heap} {L r : Addr} {m : Str → Option Value} {news : List (Addr × Obj)} {Q : Value → Shared → Prop} {b : Int} {t₀ u₀ v₀ : Tok} {n : Nat}
    (hh : A.handled = none) (F : Fr h₀ L s.heap m) (N : News h₀ L s.heap news) (hr : IsRange s.heap r 2 b 2 t₀ u₀ v₀) (hb : b = 2 * ((n : Int) + 1)) (hn : n ≤ 4)
    (h : ∀ D us c h' tk, Fr h₀ L h' m → News h₀ L h' ((D, W.listOf (List.toArray us) c) :: news) → (∀ p ∈ news, p.1 < D) → IntsAre us (row0 n) → Q (.ref D) { s with heap := h', toks := tk }) :
    wpAny (model prog w) A (call (.type "list") [.ref r]) Q E s := by
  have e1 : Builtin.Range.small 2 b 2 = true ∧ Builtin.Range.rangeSize 2 b 2 = (n : Int) := by
    subst hb
    have hn : n = 0 ∨ n = 1 ∨ n = 2 ∨ n = 3 ∨ n = 4 := by omega
    rcases hn with rfl | rfl | rfl | rfl | rfl <;> exact ⟨by decide, by decide⟩
  refine call_list_range hh hr e1.1 e1.2 (by omega) fun h' tk acc c hk hD hI => ?_
  have hD' : h'.get? s.heap.objs.size = some (W.listOf (List.toArray acc.toList) c) := by
    rw [Array.toArray_toList]
    exact hD
  have hl : acc.toList.length = n := by rw [Array.length_toList]; exact hI.1
  refine h _ acc.toList c h' tk (F.keeps hk) (news_pushed F N hk hD' rfl) (fun p hp => Heap.lt_size (N p hp).1) (ints_of (by rw [hl, row0_len]) fun j v hj => ?_)
  have hjn : j < n := by
    have := (List.getElem?_eq_some_iff.mp hj).1
    omega
  obtain ⟨t, ht⟩ := hI.2 j v (by rw [← hj, Array.getElem?_toList])
  refine ⟨t, ht.trans ?_⟩
  rw [row0_at hjn]
  congr 1
  omega
end Mine
end

-- VQ
section
open PySem PySem.W PyProof.Rows PySem.Calls PySem.Spec
namespace Mine
abbrev DS := List Value × List Int × Nat × Int × Tok
abbrev dsLed (D : Addr) (rest : List (Addr × Obj)) (c : DS) : List (Addr × Obj) := (D, W.listOf c.1.toArray c.2.2.1) :: rest
abbrev dsPs (c : DS) : List (Str × Value) := [(Str.ofString "result", .int c.2.2.2.1 c.2.2.2.2)]
abbrev dsFacts (c : DS) : Prop := IntsAre c.1 c.2.1
abbrev dsP (a b : Str) (n : Nat) (R : Int) (pre : List Int) (c : DS) : Prop := c.2.1.length = n ∧ outF a b n (n - pre.length) pre.length c.2.1 c.2.2.2.1 = R
abbrev dsStored : List Str := [Str.ofString "bchar", Str.ofString "distance", Str.ofString "minimum", Str.ofString "index", Str.ofString "substitute", Str.ofString "insert_delete"]
abbrev ES := List Value × List Int × Nat × (Int × Tok) × (Int × Tok) × (Int × Tok)
abbrev esLed (D : Addr) (rest : List (Addr × Obj)) (c : ES) : List (Addr × Obj) := (D, W.listOf c.1.toArray c.2.2.1) :: rest
abbrev esPs (c : ES) : List (Str × Value) := [(Str.ofString "distance", .int c.2.2.2.1.1 c.2.2.2.1.2), (Str.ofString "result", .int c.2.2.2.2.1.1 c.2.2.2.2.1.2), (Str.ofString "minimum", .int c.2.2.2.2.2.1 c.2.2.2.2.2.2)]
abbrev esFacts (c : ES) : Prop := IntsAre c.1 c.2.1
abbrev esP (a bc : Str) (n : Nat) (T : List Int × Int × Int) (pre : List Int) (c : ES) : Prop := c.2.1.length = n ∧ inF a bc (n - pre.length) pre.length c.2.1 c.2.2.2.1.1 c.2.2.2.2.1.1 c.2.2.2.2.2.1 = T
abbrev esStored : List Str := [Str.ofString "substitute", Str.ofString "insert_delete"]
section
variable {prog : Program} {w : World} {A : Around} {E : Value → Shared → Prop} {s : Shared} {env : Env} {h₀ : Heap} {x : Str} {body : List Stmt} {Q : Flow → Shared → Prop}
theorem dpLoop {r D : Addr} {vs₀ : List Value} {row₀ : List Int} {c₀ : Nat} {rest : List (Addr × Obj)} {t₀ u₀ v₀ tr₀ : Tok} {m₀ : Str → Option Value} {n : Nat} {res₀ : Int} {a b : Str} {R : Int}
    (hh : A.handled = none) (hr : IsRange s.heap r 0 (n : Int) 1 t₀ u₀ v₀) (F : Fr h₀ env.locals s.heap m₀) (N : News h₀ env.locals s.heap ((D, W.listOf vs₀.toArray c₀) :: rest))
    (hi : IntsAre vs₀ row₀) (hm : m₀ (Str.ofString "result") = some (.int res₀ tr₀)) (hn4 : n ≤ 4) (hrow : row₀.length = n) (hdp : outF a b n n 0 row₀ res₀ = R)
    (turn : ∀ (vs : List Value) (row : List Int) (c : Nat) (res : Int) (tr : Tok) (pre : List Int) (k : Int) t (u : Str → Option Value) h tk own, k = (pre.length : Int) → k < (n : Int) → OwnOff own (D :: rest.map (·.1)) →
      IntsAre vs row → row.length = n → outF a b n (n - pre.length) pre.length row res = R →
      Fr h₀ env.locals h (fun y => if y = x then some (.int k t) else (if y = Str.ofString "result" then some (.int res tr) else (if dsStored.contains y then u y else m₀ y))) →
      News h₀ env.locals h ((D, W.listOf vs.toArray c) :: (rest ++ own)) →
      wpAny (model prog w) A (execs body env) (InvPostN h₀ env.locals (KstS (dsLed D rest) dsPs dsFacts x dsStored m₀ (dsP a b n R) (pre ++ [k])) own (D :: rest.map (·.1)) { s with heap := h, toks := tk } Q) E { s with heap := h, toks := tk })
    (done : ∀ (vs : List Value) (c : Nat) (res : Int) (tr : Tok) (u : Str → Option Value) h tk, res = R →
      Fr h₀ env.locals h (fun y => if y = x then u y else (if y = Str.ofString "result" then some (.int res tr) else (if dsStored.contains y then u y else m₀ y))) →
      News h₀ env.locals h ((D, W.listOf vs.toArray c) :: rest) → Q .next { s with heap := h, toks := tk }) :
    wpAny (model prog w) A (pyIter (.ref r)) (fun it s₂ => LoopAtV prog w A h₀ env x body Q E it s₂) E s := by
  refine kst_range (n := n) (dsLed D rest) dsPs dsFacts dsStored (dsP a b n R) (vs₀, row₀, c₀, res₀, tr₀) hh hr (small_one (by decide) (by decide) (by omega) (by omega)) (by rw [rangeSize_nat]; omega) F N hi ?_ ⟨hrow, hdp⟩ ?_ ?_
  · intro p hp
    rw [List.mem_singleton.mp hp]
    exact hm
  · rintro ⟨vs, row, c, res, tr⟩ pre k t u h tk own hk hl off f0 ⟨p0, p1⟩ F' N'
    exact turn vs row c res tr pre k t u h tk own (by omega) (by omega) off f0 p0 p1 F' N'
  · rintro ⟨vs, row, c, res, tr⟩ u h tk f0 ⟨p0, p1⟩ F' N'
    rw [rangeKs_length, Nat.sub_self] at p1
    exact done vs c res tr u h tk p1 F' N'
theorem inLoop {r D : Addr} {vs₀ : List Value} {row₀ : List Int} {c₀ : Nat} {rest : List (Addr × Obj)} {t₀ u₀ v₀ td₀ tr₀ tm₀ ta tb : Tok} {m₀ : Str → Option Value} {n : Nat} {d₀ res₀ min₀ : Int} {a bc : Str}
    (hh : A.handled = none) (hr : IsRange s.heap r 0 (n : Int) 1 t₀ u₀ v₀) (F : Fr h₀ env.locals s.heap m₀) (N : News h₀ env.locals s.heap ((D, W.listOf vs₀.toArray c₀) :: rest))
    (hi : IntsAre vs₀ row₀) (hmd : m₀ (Str.ofString "distance") = some (.int d₀ td₀)) (hmr : m₀ (Str.ofString "result") = some (.int res₀ tr₀)) (hmm : m₀ (Str.ofString "minimum") = some (.int min₀ tm₀)) (uhma : m₀ (Str.ofString "a") = some (.str a ta)) (uhmb : m₀ (Str.ofString "bchar") = some (.str bc tb)) (hn4 : n ≤ 4) (hrow : row₀.length = n)
    (turn : ∀ (vs : List Value) (row : List Int) (c : Nat) (d : Int) (td : Tok) (res : Int) (tr : Tok) (mi : Int) (tm : Tok) (pre : List Int) (k : Int) t (u : Str → Option Value) h tk own, k = (pre.length : Int) → k < (n : Int) → OwnOff own (D :: rest.map (·.1)) →
      IntsAre vs row → row.length = n → inF a bc (n - pre.length) pre.length row d res mi = inF a bc n 0 row₀ d₀ res₀ min₀ →
      Fr h₀ env.locals h (fun y => if y = x then some (.int k t) else (if y = Str.ofString "distance" then some (.int d td) else (if y = Str.ofString "result" then some (.int res tr) else (if y = Str.ofString "minimum" then some (.int mi tm) else (if esStored.contains y then u y else m₀ y))))) →
      News h₀ env.locals h ((D, W.listOf vs.toArray c) :: (rest ++ own)) →
      wpAny (model prog w) A (execs body env) (InvPostN h₀ env.locals (KstS (esLed D rest) esPs esFacts x esStored m₀ (esP a bc n (inF a bc n 0 row₀ d₀ res₀ min₀)) (pre ++ [k])) own (D :: rest.map (·.1)) { s with heap := h, toks := tk } Q) E { s with heap := h, toks := tk })
    (done : ∀ (vs : List Value) (row : List Int) (c : Nat) (d : Int) (td : Tok) (res : Int) (tr : Tok) (mi : Int) (tm : Tok) (u : Str → Option Value) h tk, (row, res, mi) = inF a bc n 0 row₀ d₀ res₀ min₀ → IntsAre vs row → row.length = n →
      Fr h₀ env.locals h (fun y => if y = x then u y else (if y = Str.ofString "distance" then some (.int d td) else (if y = Str.ofString "result" then some (.int res tr) else (if y = Str.ofString "minimum" then some (.int mi tm) else (if esStored.contains y then u y else m₀ y))))) →
      News h₀ env.locals h ((D, W.listOf vs.toArray c) :: rest) → Q .next { s with heap := h, toks := tk }) :
    wpAny (model prog w) A (pyIter (.ref r)) (fun it s₂ => LoopAtV prog w A h₀ env x body Q E it s₂) E s := by
  refine kst_range (n := n) (esLed D rest) esPs esFacts esStored (esP a bc n (inF a bc n 0 row₀ d₀ res₀ min₀)) (vs₀, row₀, c₀, (d₀, td₀), (res₀, tr₀), (min₀, tm₀)) hh hr (small_one (by decide) (by decide) (by omega) (by omega)) (by rw [rangeSize_nat]; omega) F N hi ?_ ⟨hrow, rfl⟩ ?_ ?_
  · intro p hp
    simp only [List.mem_cons, List.not_mem_nil, or_false] at hp
    rcases hp with rfl | rfl | rfl
    · exact hmd
    · exact hmr
    · exact hmm
  · rintro ⟨vs, row, c, ⟨d, td⟩, ⟨res, tr⟩, ⟨mi, tm⟩⟩ pre k t u h tk own hk hl off f0 ⟨p0, p1⟩ F' N'
    exact turn vs row c d td res tr mi tm pre k t u h tk own (by omega) (by omega) off f0 p0 p1 F' N'
  · rintro ⟨vs, row, c, ⟨d, td⟩, ⟨res, tr⟩, ⟨mi, tm⟩⟩ u h tk f0 ⟨p0, p1⟩ F' N'
    rw [rangeKs_length, Nat.sub_self] at p1
    exact done vs row c d td res tr mi tm u h tk p1 f0 p0 F' N'
end
theorem in_step {a bc : Str} {n : Nat} {row pre : List Int} {d r m k : Int} {T : List Int × Int × Int} {r' : Int} (hk : k = (pre.length : Int)) (hkn : k < (n : Int)) (h : inF a bc (n - pre.length) pre.length row d r m = T)
    (hr : r' = if d + costF bc (Txt.item a k) < (if row.getD k.toNat 0 < r then row.getD k.toNat 0 else r) + 2 then d + costF bc (Txt.item a k) else (if row.getD k.toNat 0 < r then row.getD k.toNat 0 else r) + 2) :
    inF a bc (n - (pre ++ [k]).length) (pre ++ [k]).length (row.set k.toNat r') (row.getD k.toNat 0) r' (if r' < m then r' else m) = T := by
  have e : n - pre.length = (n - (pre.length + 1)) + 1 := by omega
  have e2 : k.toNat = pre.length := by omega
  rw [e, inF] at h
  rw [List.length_append, List.length_cons, List.length_nil, Nat.zero_add]
  rw [e2] at hr ⊢
  rw [hr, hk]
  exact h
theorem out_step {a b : Str} {n : Nat} {row pre row' : List Int} {r k r' m' : Int} {R : Int} (hk : k = (pre.length : Int)) (hkn : k < (n : Int)) (h : outF a b n (n - pre.length) pre.length row r = R)
    (hq : (row', r', m') = inF a (Txt.item b k) n 0 row (k * 2) (k * 2) 9223372036854775807) :
    (4 < m' → 5 = R) ∧ (¬ 4 < m' → outF a b n (n - (pre ++ [k]).length) (pre ++ [k]).length row' r' = R) := by
  have e : n - pre.length = (n - (pre.length + 1)) + 1 := by omega
  rw [e, outF] at h
  rw [List.length_append, List.length_cons, List.length_nil, Nat.zero_add]
  have e3 : k * 2 = 2 * ((pre.length : Nat) : Int) := by omega
  rw [e3, hk] at hq
  have hq2 : inF a (Txt.item b (pre.length : Int)) n 0 row (2 * (pre.length : Int)) (2 * (pre.length : Int)) bigI = (row', r', m') := hq.symm
  simp only [hq2] at h
  constructor
  · intro h4
    rw [if_pos h4] at h
    exact h
  · intro h4
    rw [if_neg h4] at h
    exact h
theorem in_end {a bc : Str} {n : Nat} {row pre : List Int} {d r m k m' : Int} {T : List Int × Int × Int} {r' : Int} {vs' : List Value} {c' : Nat} {td tr tm : Tok} (hk : k = (pre.length : Int)) (hkn : k < (n : Int)) (hrl : row.length = n) (h : inF a bc (n - pre.length) pre.length row d r m = T)
    (hr : r' = if d + costF bc (Txt.item a k) < (if row.getD k.toNat 0 < r then row.getD k.toNat 0 else r) + 2 then d + costF bc (Txt.item a k) else (if row.getD k.toNat 0 < r then row.getD k.toNat 0 else r) + 2)
    (hm : m' = if r' < m then r' else m) : esP a bc n T (pre ++ [k]) (vs', row.set k.toNat r', c', (row.getD k.toNat 0, td), (r', tr), (m', tm)) := by
  refine ⟨by rw [List.length_set]; exact hrl, ?_⟩
  rw [hm]
  exact in_step hk hkn h hr
theorem out_end {a b : Str} {n : Nat} {row pre row' : List Int} {r k r' m' : Int} {R : Int} {vs' : List Value} {c' : Nat} {tr : Tok} (hk : k = (pre.length : Int)) (hkn : k < (n : Int)) (h : outF a b n (n - pre.length) pre.length row r = R)
    (hq : (row', r', m') = inF a (Txt.item b k) n 0 row (k * 2) (k * 2) 9223372036854775807) (hrl : row'.length = n) (h4 : ¬ 4 < m') : dsP a b n R (pre ++ [k]) (vs', row', c', r', tr) :=
  ⟨hrl, (out_step hk hkn h hq).2 h4⟩
theorem out_early {a b : Str} {n : Nat} {row pre row' : List Int} {r k r' m' : Int} {R : Int} (hk : k = (pre.length : Int)) (hkn : k < (n : Int)) (h : outF a b n (n - pre.length) pre.length row r = R)
    (hq : (row', r', m') = inF a (Txt.item b k) n 0 row (k * 2) (k * 2) 9223372036854775807) (h4 : 4 < m') : (4 + 1 : Int) = R :=
  (out_step hk hkn h hq).1 h4
theorem upd_two {D : Addr} {o o' : Obj} {news own1 own2 : List (Addr × Obj)} {l1 l2 : List Addr} (h : ∀ p ∈ news, p.1 < D) (h1 : OwnOff own1 (D :: l1)) (h2 : OwnOff own2 (D :: l2)) : Upd D o o' ((D, o) :: (news ++ own1 ++ own2)) ((D, o') :: (news ++ own1 ++ own2)) := by
  refine .head fun p hp => ?_
  rcases List.mem_append.mp hp with hp | hp
  · rcases List.mem_append.mp hp with hp | hp
    · exact Nat.ne_of_lt (h p hp)
    · exact h1 p hp D (.head _)
  · exact h2 p hp D (.head _)
theorem ps3 {m : Str → Option Value} {a b c : Str × Value} (h1 : m a.1 = some a.2) (h2 : m b.1 = some b.2) (h3 : m c.1 = some c.2) : ∀ p ∈ [a, b, c], m p.1 = some p.2 := by
  intro p hp
  simp only [List.mem_cons, List.not_mem_nil, or_false] at hp
  rcases hp with rfl | rfl | rfl
  · exact h1
  · exact h2
  · exact h3
theorem ps1 {m : Str → Option Value} {a : Str × Value} (h1 : m a.1 = some a.2) : ∀ p ∈ [a], m p.1 = some p.2 := by
  intro p hp
  rw [List.mem_singleton.mp hp]
  exact h1
theorem in_app {α : Type} {x : α} {a b : List α} : ∀ p ∈ x :: a, p ∈ x :: (a ++ b) := by
  intro p hp
  rcases List.mem_cons.mp hp with rfl | hp
  · exact .head _
  · exact .tail _ (List.mem_append.mpr (.inl hp))
theorem own_app {α : Type} {x : α} {a b : List α} : ∀ p ∈ b, p ∈ x :: (a ++ b) := fun _ hp => .tail _ (List.mem_append.mpr (.inr hp))
end Mine
end

-- LVXk
section
open PySem PySem.W PyProof.Rows PySem.Calls PySem.Spec
namespace Mine
theorem ite_ltT {x y : Int} {p q : Prop} (h : x < y) (hp : p) : if decide (x < y) = true then p else q := by rw [if_pos (decide_eq_true h)]; exact hp
theorem ite_ltF {x y : Int} {p q : Prop} (h : y ≤ x) (hq : q) : if decide (x < y) = true then p else q := by rw [if_neg (by rw [decide_eq_true_eq]; omega)]; exact hq
local macro_rules | `(tactic| walk_at $s:str) => `(tactic| k_extra $s)
set_option maxRecDepth 100000 in
set_option maxHeartbeats 8000000 in
theorem lev_t (w : World) (s00 : Shared) (mg mb : Str → Option Value) (xa xb : Str) (R : Int) (hok : levB xa xb R = true) :
  ∀ (dp un : Nat) (gd : Option (List Code)) (cn : Str) (cs : Scope) (a : Addr) (ccd : Value) (cl : List (Str × Addr)) (outer : List Env) (A₀ : Around) (base h₀ : Heap) (L : Addr) (m : Str → Option Value) (news : List (Addr × Obj)) (s : Shared) (Q E : Value → Shared → Prop) (t1 t2 t3 : Tok),
    Below A₀ base outer h₀ → Fr h₀ L s.heap m → (hd.heap_39 w.params).In h₀ → News h₀ L s.heap news → TopIs s00 mg mb h₀ → cs.kind = .function →
    dp + 2 < recursionLimit → un + 16 < cLine →
    (∀ (t : Tok) (h' : Heap) (tk' : Nat), Fr h₀ L h' m → News h₀ L h' news → Q (.int R t) { s with heap := h', toks := tk' }) →
      wpAny (model Prog w) (ktrTop dp un gd cn cs L a ccd cl outer) (call (.ref 115) [.str xa t1, .str xb t2, .int 4 t3]) Q E s := by
  unfold Prog TopIs
  w_on
  k_with_none
  k_with "exec While BoolOp cons nil" => ((with_reducible refine Mine.Keep.out ?_))
  k_with "exec If BoolOp cons nil" => (((with_reducible rename Mine.Lev3K (Mine.cutF _ _) _ _ => hz); (with_reducible refine Mine.Keep.out ?_)))
  k_with "pyIter ref" => ((with_reducible refine Mine.Keep.out ?_))
  k_with "PrePost" => ((dsimp only [Mine.PrePost]))
  k_with "subscriptTail Name Slice str ref" => ((k_here; (with_reducible show wpAny _ _ (subscriptTail _ (PySem.Expr.Slice (some _) none none _) _ _) _ _ _); (with_reducible rename Fr _ _ _ _ => F'); (with_reducible rename News _ _ _ _ => N'); (refine slice_strN_sn (hsz := (by (rw [PySem.sizeLine_eq]; omega))) (s := ⟨_, _, _, _, _⟩) F' N' ?_); intro _ _ _ _ _))
  k_with "PoPost" => ((dsimp only [Mine.PoPost]))
  k_with "subscriptTail Name Slice str ref" => ((k_here; (with_reducible show wpAny _ _ (subscriptTail _ (PySem.Expr.Slice none (some _) none _) _ _) _ _ _); (with_reducible rename Fr _ _ _ _ => F'); (with_reducible rename News _ _ _ _ => N'); (refine Mine.cut_or (s := ⟨_, _, _, _, _⟩) F' N' ?_ (by (rw [PySem.sizeLine_eq]; omega))); intro _ _ _ _ _))
  k_with "eval BoolOp Or cons" => (((fail_if_success (with_reducible show wpAny _ _ _ (Mine.OrPost _ _ _) _ _)); k_here; (with_reducible rename Fr _ _ _ _ => F'); (with_unfolding_all refine Mine.or_join F' (by rfl) ?_ ?_); (rotate_left; intro kO; rotate_left)))
  k_with "OrPost" => ((first | (with_unfolding_all exact Mine.or_a (by assumption)) | (with_unfolding_all exact Mine.or_b (by assumption))))
  k_with "ite" => (((with_reducible show (if (Txt.item _ _ == Txt.item _ _) = true then _ else _ : Prop)); (with_reducible refine Mine.ite_bool ?_ ?_) <;> intro hc))
  k_with "ite" => ((first | (with_reducible refine Mine.ite_nz (by assumption) ?_) | (with_reducible refine Mine.ite_z (by assumption) ?_)))
  k_with "execs cons AugAssign nil" => (((with_reducible rename (((Mine.cutF _ _).length : Int) ≠ 0) => g2); (have g4 := Mine.Keep.mk g2); (clear g2); (with_reducible rename (((Mine.cutF _ _).length : Int) ≠ 0) => g1); (with_reducible rename (Txt.item _ _ == Txt.item _ _) = true => g3); (have hKK := Mine.Keep.mk (Mine.postT_t g1 g4.out g3)); clear g1 g4 g3))
  k_with "truthy str" => ((k_here; (refine PyProof.Rows.SBL.truthy (Mine.cut_fit (by omega)) ?_)))
  k_with "subscriptTail Name BinOp str int" => ((k_here; (refine KXi.item (n := _) rfl (by exact Mine.cut_pos (by omega) (by omega) (by assumption)) (by omega) (by omega) ?_); intro kxiE))
  k_with "call type:list" => ((k_here; (with_reducible show wpAny _ _ (call (Value.type _) [Value.ref _]) _ _ _); (rename IsRange _ _ _ _ _ _ _ _ => rgX); (with_unfolding_all refine Mine.list_row (by rfl) (by k_asm) (by k_asm) rgX (by rfl) (by assumption) ?_); intro D' vs' c' h' tk' F' N' l1 hI'; (try k_lt l1); (try k_sweep)))
  k_with "call type:range" => (((with_reducible show wpAny _ _ (call _ [Value.int _ _]) _ _ _); (rename Fr _ _ _ _ => F'); (rename News _ _ _ _ => N'); (with_unfolding_all refine range1_rows F' N' ?_; intro _ _ _ _ _ _ _ _ _)))
  k_with "ite" => ((with_reducible refine Mine.ite_nz (n := (PySem.Str.length _ : Int)) (by omega) ?_))
  k_with "subscriptTail Name Name str int" => ((k_here; (refine KXi.item (n := _) rfl (by omega) (by omega) (by omega) ?_); intro kxiE))
  k_with "subscriptTail Name Name ref int" => ((k_here; k_dflt (refine Mine.item_made (by k_asm) (by k_memK) (by assumption) (by omega) (by omega) (by omega) ?_ (by with_unfolding_all rfl)); intro tI))
  k_with "call ref" => ((k_here; (with_reducible show wpAny _ _ (call (Value.ref 108) _) _ _ _); k_dflt (refine Mine.sub_c _ _ _ _ _ _ (by assumption) (by assumption) _ _ _ _ _ _ _ _ _ _ _ _ _ _ _ _ _ _ _ _ (by k_asm) (by k_asm) (by k_asm) (by k_asm) (by k_asm) (by rfl) (by ktr_room) (by ktr_room) ?_); intro t' h' tk' F' N'; (try k_sweep)))
  k_with "setItem ref int" => ((k_here; (with_reducible show wpAny _ _ (setItem (Value.ref _) (Value.int _ _) (Value.int _ _)) _ _ _); k_dflt (refine ksa_set (by k_asm) (by k_asm) (Mine.upd_two (by assumption) (by assumption) (by assumption)) (by with_reducible assumption) (by omega) (by omega) (by omega) ?_; k_whole); intro h' F' N' hi' hl' hs'; clear hs'; (try k_sweep)))
  k_with "ite" => ((first | (with_reducible refine Mine.ite_ltT (by omega) ?_) | (with_reducible refine Mine.ite_ltF (by omega) ?_) | ((with_reducible show (if decide (_ < (_ : Int)) = true then _ else _ : Prop)); (with_reducible refine Mine.ite_dec ?_ ?_) <;> intro hc)))
  k_with "InvEndN" => ((k_dflt ((rename News _ _ _ _ => nE'); first
      | ((refine kst_end (⟨_, _, _, ⟨_, _⟩, ⟨_, _⟩, ⟨_, _⟩⟩ : Mine.ES) (by assumption) nE' Mine.in_app Mine.own_app (by rfl) (by assumption) (Mine.ps3 (by with_unfolding_all rfl) (by with_unfolding_all rfl) (by with_unfolding_all rfl)) (by kst_same) ?_); (first | exact Mine.in_end (by assumption) (by assumption) (by assumption) (by assumption) rfl (if_pos (by assumption)).symm | exact Mine.in_end (by assumption) (by assumption) (by assumption) (by assumption) rfl (if_neg (by assumption)).symm))
      | ((refine kst_end (⟨_, _, _, _, _⟩ : Mine.DS) (by assumption) nE' Mine.in_app Mine.own_app (by rfl) (by assumption) (Mine.ps1 (by with_unfolding_all rfl)) (by kst_same) ?_); exact Mine.out_end (by assumption) (by assumption) (by assumption) (by assumption) (by assumption) (by assumption)))))
  k_fill
  obtain ⟨hla, hlb, hab, hlev⟩ := lev_facts hok
  clear hok
  w_strict (
    intro dp un gd cn cs a ccd cl outer A₀ base h₀ L m news s Q E t1 t2 t3 hB hF hX hN hT hcs hdp hun hret
    refine wpAny_call ?_
    k_dflt cell_enter
    (repeat' (first | (k_unfold; (try dsimp only)) | (k_end; wrow_close) | walk1 | (dsimp only; walk1) | (leave1; walk_say "STEP leave1"; try dsimp only) | fail "no step"))
    refine Mine.Keep.mk ?_
    (rename Fr _ _ _ _ => lF')
    (rename News _ _ _ _ => lN')
    (with_unfolding_all refine' Mine.preLoop lF' lN' (by rfl) (by rfl) (by rfl) hla ?key ?turn)
    case turn =>
      intro p t h tk h0 h4 F' N' hstop
      clear lF' lN'
      replace hstop := Mine.Keep.mk hstop
      unfold Mine.preM at F'
      (repeat' (first | (k_unfold; (try dsimp only)) | (k_end; wrow_close) | walk1 | (dsimp only; walk1) | (leave1; walk_say "STEP leave1"; try dsimp only) | fail "no step"))
      all_goals first
        | (with_unfolding_all exact Mine.pre_end (Mine.preT_t (by first | assumption | omega) (by first | assumption | omega) (by assumption)) (by k_asm) (by k_asm))
        | (with_unfolding_all exact Mine.Keep.mk (hstop.out (Mine.preT_3 (by assumption)) _ _ _ (by k_asm) (by k_asm)))
        | (with_unfolding_all exact Mine.Keep.mk (hstop.out (Mine.preT_2 (by assumption)) _ _ _ (by k_asm) (by k_asm)))
        | (with_unfolding_all exact Mine.Keep.mk (hstop.out (Mine.preT_1 (by assumption)) _ _ _ (by k_asm) (by k_asm)))
    case key =>
      intro p t h tk hp F' N'
      clear lF' lN'
      obtain ⟨hl1, hl2, hl3, hlev2⟩ := Mine.lev_one hlev hp
      clear hp hlev
      unfold Mine.preM at F'
      (repeat' (first | (k_unfold; (try dsimp only)) | (k_end; wrow_close) | walk1 | (dsimp only; walk1) | (leave1; walk_say "STEP leave1"; try dsimp only) | fail "no step"))
      refine Mine.Keep.mk ?_
      (rename Fr _ _ _ _ => lF')
      (rename News _ _ _ _ => lN')
      obtain ⟨a1, ha1⟩ : ∃ a, Txt.slice xa (some p) none = a := ⟨_, rfl⟩
      obtain ⟨b1, hb1⟩ : ∃ a, Txt.slice xb (some p) none = a := ⟨_, rfl⟩
      rw [ha1, hb1] at lF' hl1 hlev2
      rw [ha1] at hl2 hl3
      clear ha1 hb1
      (with_unfolding_all refine' Mine.postLoop lF' lN' (by rfl) (by rfl) (by rfl) ?key ?turn)
      case turn =>
        intro q t h tk h0 h4 F' N' hstop
        clear lF' lN'
        replace hstop := Mine.Keep.mk hstop
        unfold Mine.postM at F'
        (repeat' (first | (k_unfold; (try dsimp only)) | (k_end; wrow_close) | walk1 | (dsimp only; walk1) | (leave1; walk_say "STEP leave1"; try dsimp only) | fail "no step"))
        all_goals first
          | ((rename Mine.Keep (Mine.postT _ _ _ = true) => hKK); (with_unfolding_all exact Mine.po_end hKK.out (by k_asm) (by k_asm)))
          | (with_unfolding_all exact Mine.Keep.mk (hstop.out (Mine.postT_3 (by assumption)) _ _ _ (by k_asm) (by k_asm)))
          | (with_unfolding_all exact Mine.Keep.mk (hstop.out (Mine.postT_2 (by assumption)) _ _ _ (by k_asm) (by k_asm)))
          | (with_unfolding_all exact Mine.Keep.mk (hstop.out (Mine.postT_1 (by assumption)) _ _ _ (by k_asm) (by k_asm)))
      case key =>
        intro q t h tk hq hq0 hq1 F' N'
        clear lF' lN'
        obtain ⟨hm1, hm2, hm3, hlev3⟩ := Mine.lev_two hlev2 hq
        clear hq hlev2
        have hlev4 := hlev3
        unfold Mine.postM at F'
        (repeat' (first | (k_unfold; (try dsimp only)) | (k_end; wrow_close) | walk1 | (dsimp only; walk1) | (leave1; walk_say "STEP leave1"; try dsimp only) | fail "no step"))
        refine Mine.Keep.mk ?_
        (with_reducible rename Mine.Lev3K (Mine.cutF _ _) _ _ => hlev4)
        clear hlev4
        (rename Fr _ _ _ _ => lF')
        obtain ⟨a2, ha2⟩ : ∃ a, Mine.cutF a1 q = a := ⟨_, rfl⟩
        obtain ⟨b2, hb2⟩ : ∃ a, Mine.cutF b1 q = a := ⟨_, rfl⟩
        rw [ha2, hb2] at lF' hm1 hlev3
        rw [ha2] at hm2 hm3
        clear ha2 hb2
        (repeat' (first | (k_unfold; (try dsimp only)) | (k_end; wrow_close) | walk1 | (dsimp only; walk1) | (leave1; walk_say "STEP leave1"; try dsimp only) | fail "no step"))
        refine Mine.Keep.mk ?_
        (rename Fr _ _ _ _ => lF')
        (rename News _ _ _ _ => lN')
        (rename IsRange _ _ 0 _ 1 _ _ _ => rgX)
        (rename IntsAre _ _ => hI0)
        rw [hm1] at rgX
        (with_unfolding_all refine' Mine.dpLoop (a := a2) (b := b2) (R := R) (by rfl) rgX lF' lN' hI0 (by rfl) hm3 (Mine.row0_len _) hlev3.out ?turn ?done)
        case done =>
          intro vs c res tr u h tk hR F' N'
          clear lF' lN' rgX hI0 hlev3
          (repeat' (first | (k_unfold; (try dsimp only)) | (k_end; wrow_close) | walk1 | (dsimp only; walk1) | (leave1; walk_say "STEP leave1"; try dsimp only) | fail "no step"))
          refine' cb_retI (Q := Q) (s := s) hret hR ?e2 ?e3
          case e2 => k_asm
          case e3 => first | k_asm | (refine' cb_drop ?cbN ?cbS; (case cbN => assumption); (case cbS => kcj_all))
        case turn =>
          intro vs row c res tr pre k t u h tk own hk hkn off hi hrl hP F' N'
          clear lF' lN' rgX hI0 hlev3
          (repeat' (first | (k_unfold; (try dsimp only)) | (k_end; wrow_close) | walk1 | (dsimp only; walk1) | (leave1; walk_say "STEP leave1"; try dsimp only) | fail "no step"))
          refine Mine.Keep.mk ?_
          (rename Fr _ _ _ _ => lF')
          (rename News _ _ _ _ => lN')
          (rename IsRange _ _ 0 _ 1 _ _ _ => rgX)
          (rename Str.length (Txt.item _ _) = 1 => hbc)
          (with_unfolding_all refine' Mine.inLoop (by rfl) rgX lF' lN' hi (by rfl) (by rfl) (by rfl) (by rfl) (by rfl) hm3 hrl ?turn ?done)
          case turn =>
            intro vs row c d td res tr mi tm pre k t u h tk own hk hkn off hi hrl hP F' N'
            clear lF' lN' rgX
            (repeat' (first | (k_unfold; (try dsimp only)) | (k_end; wrow_close) | walk1 | (dsimp only; walk1) | (leave1; walk_say "STEP leave1"; try dsimp only) | fail "no step"))
          case done =>
            intro vs row c d td res tr mi tm u h tk hT hi hrl F' N'
            clear lF' lN' rgX
            (repeat' (first | (k_unfold; (try dsimp only)) | (k_end; wrow_close) | walk1 | (dsimp only; walk1) | (leave1; walk_say "STEP leave1"; try dsimp only) | fail "no step"))
            refine' cb_retI (Q := Q) (s := s) hret ?e1 ?e2 ?e3
            case e1 => exact Mine.out_early hk hkn hP hT (by assumption)
            case e2 => k_asm
            case e3 => first | k_asm | (refine' cb_drop ?cbN ?cbS; (case cbN => assumption); (case cbS => kcj_all)))
end Mine
end

-- LV
section
open PySem PySem.W PyProof.Rows PySem.Calls PySem.Spec
namespace Mine
theorem lev_c (w : World) (s00 : Shared) (mg mb : Str → Option Value) (j k : Int) (hj : 0 ≤ j) (hjk : j < k) (hk : k < 8) :
  ∀ (dp un : Nat) (gd : Option (List Code)) (cn : Str) (cs : Scope) (a : Addr) (ccd : Value) (cl : List (Str × Addr)) (outer : List Env) (A₀ : Around) (base h₀ : Heap) (L : Addr) (m : Str → Option Value) (news : List (Addr × Obj)) (s : Shared) (Q E : Value → Shared → Prop) (t1 t2 t3 : Tok),
    Below A₀ base outer h₀ → Fr h₀ L s.heap m → (hd.heap_39 w.params).In h₀ → News h₀ L s.heap news → TopIs s00 mg mb h₀ → cs.kind = .function →
    dp + 2 < recursionLimit → un + 16 < cLine →
    (∀ (t : Tok) (h' : Heap) (tk' : Nat), Fr h₀ L h' m → News h₀ L h' news → Q (.int (farF j k) t) { s with heap := h', toks := tk' }) →
      wpAny (model Prog w) (ktrTop dp un gd cn cs L a ccd cl outer) (call (.ref 115) [.str (wordF j) t1, .str (wordF k) t2, .int 4 t3]) Q E s :=
  lev_t w s00 mg mb (wordF j) (wordF k) (farF j k) (lev_ok hj hjk hk)
end Mine
end

-- Stg
section
open PySem PySem.W PyProof.Rows PySem.Calls PySem.Spec
namespace Mine
structure Stage (n : Nat) : Prop where
theorem in_five {α : Type} {x1 x2 x3 x4 x5 : α} {a b : List α} : ∀ p ∈ [x1, x2, x3, x4, x5] ++ a, p ∈ x1 :: x2 :: x3 :: x4 :: x5 :: (a ++ b) := by
  intro p hp
  simp only [List.mem_append, List.mem_cons, List.not_mem_nil, or_false] at hp ⊢
  rcases hp with (h | h | h | h | h) | h <;> simp [h]
theorem own_five {α : Type} {x1 x2 x3 x4 x5 : α} {a b : List α} : ∀ p ∈ b, p ∈ x1 :: x2 :: x3 :: x4 :: x5 :: (a ++ b) := fun p hp => by
  simp only [List.mem_append, List.mem_cons]
  simp [hp]
theorem lead_d (w : World) (s00 : Shared) (mg mb : Str → Option Value) (ns : List Int) :
  ∀ (dp un : Nat) (gd : Option (List Code)) (cn : Str) (cs : Scope) (a : Addr) (ccd : Value) (cl : List (Str × Addr)) (outer : List Env) (A₀ : Around) (base h₀ : Heap) (L : Addr) (m : Str → Option Value) (news : List (Addr × Obj)) (s : Shared) (Q E : Value → Shared → Prop) (l : Addr) (vs : List Value) (c : Nat),
    Below A₀ base outer h₀ → Fr h₀ L s.heap m → (hd.heap_39 w.params).In h₀ → News h₀ L s.heap news → TopIs s00 mg mb h₀ → cs.kind = .function →
    dp + 3 < recursionLimit → un + 24 < cLine → (l, W.listOf vs.toArray c) ∈ news → IntsAre vs ns → Small ns →
    (∀ (x dx tn tc : Addr) (vs' : List Value) (k1 k2 k3 k4 k5 t : Tok) (r v2 v3 v5 : Value) (h' : Heap) (tk' : Nat), IntsAre vs' (cntF ns) → Fr h₀ L h' m →
      News h₀ L h' ((tn, tup2 (.ref tc) (.int 0 t)) :: (tc, tupOf vs') :: (x, instObj 83 dx) :: (dx, W.dictOf (wsDict w tn k1 k2 k3 k4 k5 r v2 v3 v5) 5) :: news) → Q (.ref x) { s with heap := h', toks := tk' }) →
      wpAny (model Prog w) (ktrTop dp un gd cn cs L a ccd cl outer) (call (.ref 125) [.ref l]) Q E s := by
  intro dp un gd cn cs a ccd cl outer A₀ base h₀ L m news s Q E l vs c hB hF hX hN hT hcs hdp hun hin hia hsm hret
  exact lead_c w s00 mg mb ns hsm dp un gd cn cs a ccd cl outer A₀ base h₀ L m news s Q E l vs c hB hF hX hN hT hcs hdp hun hin hia hret
end Mine
end

-- M
section
open PySem PySem.W PyProof.Rows PySem.Calls PySem.Spec
local macro_rules | `(tactic| walk_at $s:str) => `(tactic| k_extra $s)
local macro_rules | `(tactic| walk_at "none") => `(tactic| fail)
set_option maxRecDepth 100000 in
set_option maxHeartbeats 8000000 in
theorem PySem.Challenge.cw_pg0259_01_holds : PySem.Challenge.rw_pg0259_01.Holds := by
  refine Mine.hd ?_
  w_on
  k_with_none
  k_with "pyIter ref" => (((fail_if_success (rename Mine.Stage 0 => hz)); (with_reducible refine Mine.Keep.out ?_)))
  k_with "subscriptTail List cons Slice ref ref" => ((k_here; k_dflt (refine kba_turn (value' := PySem.Expr.Name (PySem.Str.ofString "_") ⟨0, 0, 0, 0⟩) (fun _ => rfl) ?_)))
  k_with "subscriptTail Name Slice ref ref" => ((k_here; (with_reducible show wpAny _ _ (subscriptTail _ (PySem.Expr.Slice none (some _) none _) (Value.ref _) (Value.ref _)) _ _ _); k_dflt (refine kmk_slice_ints (by k_asm) (by k_asm) (by kmk_list) (by kmk_part) (by kmk_part) (by l_ints) (by exact kmk_upto (by l_ints) (by omega)) (by kmk_len) ?_ (by with_unfolding_all rfl) (by kmk_pure) (by kmk_size)); intro D' ws' h' F' N' l1 hI' hC' hL'; (try simp only [Int.reduceNeg, Int.neg_neg, Int.reduceToNat] at hI' hC' hL'); (try k_lt l1); (try k_sweep)))
  k_with "subscriptTail Name Slice ref ref" => ((k_here; (with_reducible show wpAny _ _ (subscriptTail _ (PySem.Expr.Slice (some _) none none _) (Value.ref _) (Value.ref _)) _ _ _); k_dflt (refine kmk_slice_ints (by k_asm) (by k_asm) (by kmk_list) (by kmk_part) (by kmk_part) (by l_ints) (by exact kmk_from (by l_ints) (by omega)) (by kmk_len) ?_ (by with_unfolding_all rfl) (by kmk_pure) (by kmk_size)); intro D' ws' h' F' N' l1 hI' hC' hL'; (try simp only [Int.reduceNeg, Int.neg_neg, Int.reduceToNat] at hI' hC' hL'); (try k_lt l1); (try k_sweep)))
  k_with "pyIter ref" => ((
      (rename Mine.Stage 0 => hSt0);
      (rename IntsAre _ (_ ++ _) => hNS);
      (generalize hns : List.take 8 _ ++ List.drop _ _ = NS at *);
      (have hlen : NS.length = 8 := (by (rw [← hns]; simp only [List.length_append, List.length_take, List.length_drop, List.length_cons, List.length_nil]; omega)));
      (clear hns hSt0);
      (k_state_short (fun pre words => words = pre.map Mine.wordF ∧ words.length = pre.length) "words$");
      (all_goals (refine Mine.Keep.out ?_))))
  k_with "subscriptTail Name Name ref int" => ((k_here; k_dflt (refine Mine.item_made (by k_asm) (by k_mem) (by assumption) (by omega) (by omega) (by omega) ?_ (by with_unfolding_all rfl)); intro tI))
  k_with "call ref" => ((k_here; (with_reducible show wpAny _ _ (call (Value.ref 101) _) _ _ _); k_dflt (refine Mine.hsv_c _ _ _ _ _ _ _ (by exact Mine.hsv_ok (by omega) (by omega)) _ _ _ _ _ _ _ _ _ _ _ _ _ _ _ _ _ _ _ _ _ (by k_asm) (by k_asm) (by k_asm) (by k_asm) (by k_asm) (by rfl) (by decide) (by decide) ?_); intro t' k1' k2' k3' R' G' B' h' tk' hE' F' N' l1; (have hTu := Mine.turn_ok (by omega) (by omega) hE'); (obtain ⟨hTu1, hTu2, hTu3, hTu4⟩ := hTu); (try k_lt l1); (try k_sweep)))
  k_with "call ref" => ((k_here; (with_reducible show wpAny _ _ (call (Value.ref 94) _) _ _ _); k_dflt (refine Mine.hls_c _ _ _ _ _ _ _ (by assumption) _ _ _ _ _ _ _ _ _ _ _ _ _ _ _ _ _ _ _ _ _ (by k_asm) (by k_asm) (by k_asm) (by k_asm) (by k_asm) (by rfl) (by decide) (by decide) ?_); intro t' k1' k2' k3' R' G' B' h' tk' hE' F' N' l1; subst hE'; (try k_lt l1); (try k_sweep)))
  k_with "binaryOp Div int int" => ((k_here; (refine Mine.div_small rfl (by decide) (by first | omega | (refine Int.add_nonneg (by decide) (Int.fmod_nonneg_of_pos _ (by decide)))) (by first | omega | (refine Int.lt_of_lt_of_le (Int.add_lt_add_left (Int.fmod_lt_of_pos _ (by decide)) _) (by decide))) ?_); intro tD))
  k_with "call builtin:round" => ((k_here; (refine Mine.round_fl rfl (by assumption) (by assumption) ?_); intro tR))
  k_with "call ref" => ((k_here; (with_reducible show wpAny _ _ (call (Value.ref 120) _) _ _ _); k_dflt ((rename Flt.toInt _ _ = _ => hTu4; rw [hTu4]); (refine Mine.word_c _ _ _ _ _ (by omega) (by omega) _ _ _ _ _ _ _ _ _ _ _ _ _ _ _ _ _ _ _ (by k_asm) (by k_asm) (by k_asm) (by k_asm) (by k_asm) (by rfl) (by decide) (by decide) ?_)); intro t' h' tk' F' N'; (try k_sweep)))
  k_with "subscriptTail Name Name ref int" => ((k_here; k_dflt (refine Mine.item_made (by k_asm) (by k_memK) (by assumption) (by omega) (by omega) (by omega) ?_ (by with_unfolding_all rfl)); intro tI))
  k_with "subscriptTail Name Name ref int" => ((k_here; k_dflt ((rename PyProof.Rows.StrsAre _ _ => hSA); (rename _ = List.map Mine.wordF _ => hWd); (refine Mine.word_item (by k_asm) (by k_memK) hSA hWd (by omega) (by omega) ?_ (by with_unfolding_all rfl))); intro tI))
  k_with "call type:range" => (((rename Mine.Stage 1 => hz1); (with_reducible show wpAny _ _ (call _ [Value.int _ _]) _ _ _); (rename Fr _ _ _ _ => F'); (rename News _ _ _ _ => N'); (with_unfolding_all refine range1_rows F' N' ?_; intro _ _ _ _ _ _ _ _ _)))
  k_with "ite" => (((with_reducible show (if decide (Int.fmod _ 2 = Int.fmod _ 2) = true then _ else _ : Prop)); (with_reducible refine Mine.ite_dec ?_ ?_) <;> intro hc))
  k_with "call ref" => ((k_here; (with_reducible show wpAny _ _ (call (Value.ref 115) _) _ _ _); k_dflt (refine Mine.lev_c _ _ _ _ _ _ (by omega) (by omega) (by omega) _ _ _ _ _ _ _ _ _ _ _ _ _ _ _ _ _ _ _ _ _ (by k_asm) (by k_asm) (by k_asm) (by k_asm) (by k_asm) (by rfl) (by decide) (by decide) ?_); intro t' h' tk' F' N'; (try k_sweep)))
  k_with "InvEndN" => ((k_dflt ((rename Mine.Stage 3 => hz3); (rename News _ _ _ _ => nE'); (refine kst_end (⟨_, _, _, _, _, _⟩ : Mine.RS) (by assumption) nE' (by first | kst_in | kst_inAny) (by first | (intro p hp; kst_mem) | kst_anyIn) (by rfl) ⟨by assumption, by assumption⟩ (by intro p hp; cases hp) (by kst_same) ?_); exact Mine.rs_end (by assumption) (by assumption) (by assumption) (by assumption) (by assumption))))
  k_with "call builtin:list.append" => ((k_here; (show wpAny _ _ (call (Value.builtin "list.append") [Value.ref _, Value.int (Mine.farF _ _) _]) _ _ _); k_dflt (refine append_K (by k_asm) (by k_asm) (by k_upd) ?_ (by ((rw [List.size_toArray, PySem.sizeLine_eq]); omega))); intro h' F' N'; (try k_sweep)))
  k_with "InvEndN" => ((k_dflt ((rename Mine.Stage 2 => hz2); (rename News _ _ _ _ => nE'); (try simp only [List.push_toArray] at nE'); first
      | ((refine kst_end (⟨_, _, _, _, _, _⟩ : Mine.RS) (by assumption) nE' Mine.in_five Mine.own_five (by rfl) ⟨Mine.ints_snoc (by assumption), by assumption⟩ (by intro p hp; cases hp) (by kst_same) ?_); exact Mine.q_end0 (by assumption) (by omega) (by assumption) (by assumption) (by assumption) (by assumption))
      | ((refine kst_end (⟨_, _, _, _, _, _⟩ : Mine.RS) (by assumption) nE' Mine.in_five Mine.own_five (by rfl) ⟨by assumption, Mine.ints_snoc (by assumption)⟩ (by intro p hp; cases hp) (by kst_same) ?_); exact Mine.q_end1 (by assumption) (by omega) (by assumption) (by assumption) (by assumption) (by assumption))
      | ((refine kst_end (⟨_, _, _, _, _, _⟩ : Mine.RS) (by assumption) nE' Mine.in_five Mine.own_five (by rfl) ⟨by assumption, by assumption⟩ (by intro p hp; cases hp) (by kst_same) ?_); exact Mine.q_endN (by assumption) (by assumption) (by assumption) (by assumption)))))
  k_with "call builtin:len" => ((k_here; k_dflt ((rename CarriedAll _ (List.map PyData.int (List.filter _ _)) => hCa); (refine Mine.len_carried (by assumption) hCa (by (refine Nat.le_trans (List.length_filter_le _ _) ?_; omega)) ?_)); intro tL kL))
  k_with "call ref" => ((k_here; (with_reducible show wpAny _ _ (call (Value.ref 125) _) _ _ _); k_dflt (refine Mine.lead_d _ _ _ _ _ _ _ _ _ _ _ _ _ _ _ _ _ _ _ _ _ _ _ _ _ _ (by k_asm) (by k_asm) (by k_asm) (by k_asm) (by k_asm) (by rfl) (by decide) (by decide) (by k_memK) (by assumption) (by first | (with_reducible exact Mine.small1 (by with_reducible assumption)) | (with_reducible exact Mine.small0 (by with_reducible assumption)) | (with_reducible exact Mine.smallF (by with_reducible assumption)) | (with_reducible exact Mine.smallM (by with_reducible assumption)) | (with_reducible exact Mine.smallR (by with_reducible assumption))) ?_); intro x' dx' tn' tc' vs' k1' k2' k3' k4' k5' t' r' v2' v3' v5' h' tk' hI' F' N'; (try k_sweep)))
  k_with "compareOp Eq ref ref" => ((k_here; (with_reducible show wpAny _ _ (compareOp CmpOp.Eq (Value.ref _) (Value.ref _)) _ _ _); k_dflt (refine Mine.norm_eq (by k_asm) (by k_memK) (by k_memK) (by k_memK) (by k_memK) (by assumption) (by assumption) (by ke_room) ?_)))
  k_with "ite" => (((with_reducible show (if (decide (Mine.cntF (Mine.runsTo _ 1 8) = Mine.cntF (Mine.runsTo _ 0 8)) != _) = true then _ else _ : Prop)); (with_reducible rename List.length _ = 8 => hlen); (refine Mine.ite_not (by k_dflt (exact fun e => Bool.noConfusion (e.symm.trans (Mine.law1 hlen)))) ?_)))
  k_with "ite" => (((with_reducible show (if (decide (Mine.cntF (Mine.movedOf _) = Mine.cntF (Mine.fullOf _)) != _) = true then _ else _ : Prop)); (with_reducible rename List.length _ = 8 => hlen); (refine Mine.ite_not (by k_dflt (exact fun e => Bool.noConfusion (e.symm.trans (Mine.law2 hlen)))) ?_)))
  k_with "binaryOp Add ref ref" => ((k_here; (with_reducible show wpAny _ _ (binaryOp _ (Value.ref _) (Value.ref _)) _ _ _); k_dflt ((with_reducible rename List.length _ = 8 => hlen); (refine kmk_add_ints (by k_asm) (by k_asm) (by exact News.isList (by k_asm) (by k_memK)) (by exact News.isList (by k_asm) (by k_memK)) (by first | assumption | exact IntsAre.cons _ _ .nil) (by first | assumption | exact IntsAre.cons _ _ .nil) ?_ (by with_reducible exact Mine.add1_size hlen _))); intro D' ws' h' F' N' l1 hI'; (try k_lt l1); (try k_sweep)))
  k_with "binaryOp Add ref ref" => ((k_here; (with_reducible show wpAny _ _ (binaryOp _ (Value.ref _) (Value.ref _)) _ _ _); k_dflt ((with_reducible rename List.length _ = 8 => hlen); (refine kmk_add_ints (by k_asm) (by k_asm) (by exact News.isList (by k_asm) (by k_memK)) (by exact News.isList (by k_asm) (by k_memK)) (by first | assumption | exact IntsAre.cons _ _ .nil) (by first | assumption | exact IntsAre.cons _ _ .nil) ?_ (by with_reducible exact Mine.add2_size hlen _ _))); intro D' ws' h' F' N' l1 hI'; (replace hI' := Mine.to_moved hI'); (try k_lt l1); (try k_sweep)))
  k_with "subscriptTail Name Constant ref int" => ((k_here; k_dflt ((with_reducible rename IntsAre _ (Mine.fullOf _) => hfi); (with_reducible rename List.length _ = 8 => hlen); (refine Mine.item_made (by k_asm) (by k_memK) hfi (by decide) (by exact Nat.lt_of_lt_of_le (by decide) (Mine.full_len hlen).1) (by decide) ?_ (by with_unfolding_all rfl))); intro tI))
  k_with "subscriptTail Name UnaryOp ref int" => ((k_here; k_dflt ((with_reducible rename IntsAre _ (Mine.fullOf _) => hfi); (with_reducible rename List.length _ = 8 => hlen); (refine Mine.last_made (by k_asm) (by k_memK) hfi (Mine.last_pos hlen) ?_ (by with_unfolding_all rfl))); intro tI))
  k_with "subscriptTail Name Slice ref ref" => ((k_here; (with_reducible show wpAny _ _ (subscriptTail _ (PySem.Expr.Slice (some _) (some _) none _) (Value.ref _) (Value.ref _)) _ _ _); k_dflt ((with_reducible rename IntsAre _ (Mine.fullOf _) => hfi); (with_reducible rename List.length _ = 8 => hlen); (refine kmk_slice_ints (by k_asm) (by k_asm) (by exact News.isList (by k_asm) (by k_memK)) (by kmk_part) (by kmk_part) (by exact hfi) (by exact kmk_run_neg hfi (by decide) (by decide)) (by exact rfl) ?_ (by with_unfolding_all rfl) (by kmk_pure) (by (rw [List.size_toArray, hfi.length, PySem.sizeLine_eq]; exact Nat.le_trans (Mine.full_len hlen).2 (by decide))))); intro D' ws' h' F' N' l1 hI' hC' hL'; (replace hI' := Mine.to_mid hI'); (clear hC' hL'); (try k_lt l1); (try k_sweep)))
  k_with "binaryOp Add ref ref" => ((k_here; (with_reducible show wpAny _ _ (binaryOp _ (Value.ref _) (Value.ref _)) _ _ _); k_dflt ((with_reducible rename List.length _ = 8 => hlen); (refine kmk_add_ints (by k_asm) (by k_asm) (by exact News.isList (by k_asm) (by k_memK)) (by exact News.isList (by k_asm) (by k_memK)) (by first | assumption | exact IntsAre.cons _ _ .nil) (by first | assumption | exact IntsAre.cons _ _ .nil) ?_ (by with_reducible exact Mine.rest_size hlen))); intro D' ws' h' F' N' l1 hI'; (replace hI' := Mine.to_rest hI'); (try k_lt l1); (try k_sweep)))
  k_with "binaryOp Add ref ref" => ((k_here; (with_reducible show wpAny _ _ (binaryOp _ (Value.ref _) (Value.ref _)) _ _ _); k_dflt ((with_reducible rename List.length _ = 8 => hlen); (refine kmk_add_ints (by k_asm) (by k_asm) (by exact News.isList (by k_asm) (by k_memK)) (by exact News.isList (by k_asm) (by k_memK)) (by first | assumption | exact IntsAre.cons _ _ .nil) (by first | assumption | exact IntsAre.cons _ _ .nil) ?_ (by with_reducible exact Mine.full_size hlen))); intro D' ws' h' F' N' l1 hI'; (replace hI' := Mine.to_full hI'); (try k_lt l1); (try k_sweep)))
  k_with "compareOp Eq ref ref" => ((k_here; (with_reducible show wpAny _ _ (compareOp CmpOp.Eq (Value.ref _) (Value.ref _)) _ _ _); k_dflt ((with_reducible rename List.length _ = 8 => hlen); refine Mine.norm_eqT (by k_asm) (by k_memK) (by k_memK) (by k_memK) (by k_memK) (by assumption) (by assumption) (by with_reducible exact Mine.law3 hlen) (by ke_room) ?_)))
  w_strict (
    k_go0
    (all_goals try k_fold)
    have hSt0 : Mine.Stage 0 := Mine.Stage.mk
    (repeat' (first | (k_unfold; (try dsimp only)) | (k_end; (with_reducible show GoodW _ _ _ _ _ _ _); (refine' goodW_bool ?x1 ?x2 (raisesW_false ?x3) ?x4; (case x1 => with_reducible assumption); (case x2 => with_reducible assumption); (case x3 => wrow_none_raised); (case x4 => (refine postW_of ?y1 (w_eq_bool (w_res rfl) w_lit) ?y3; (case y1 => rfl); (case y3 => rfl))))) | walk1 | (dsimp only; walk1) | (leave1; walk_say "STEP leave1"; try dsimp only) | fail "no step"))
    · refine Mine.Keep.mk ?_
      have hk0 : 0 ≤ kN := by omega
      (rename _ = List.map Mine.wordF _ => kInv)
      have hsz := congrArg List.length kInv
      rw [List.length_map] at hsz
      (repeat' (first | (k_unfold; (try dsimp only)) | (k_end; (with_reducible show GoodW _ _ _ _ _ _ _); (refine' goodW_bool ?x1 ?x2 (raisesW_false ?x3) ?x4; (case x1 => with_reducible assumption); (case x2 => with_reducible assumption); (case x3 => wrow_none_raised); (case x4 => (refine postW_of ?y1 (w_eq_bool (w_res rfl) w_lit) ?y3; (case y1 => rfl); (case y3 => rfl))))) | walk1 | (dsimp only; walk1) | (leave1; walk_say "STEP leave1"; try dsimp only) | fail "no step"))
    · refine Mine.Keep.mk ?_
      (repeat' (first | (k_unfold; (try dsimp only)) | (k_end; (with_reducible show GoodW _ _ _ _ _ _ _); (refine' goodW_bool ?x1 ?x2 (raisesW_false ?x3) ?x4; (case x1 => with_reducible assumption); (case x2 => with_reducible assumption); (case x3 => wrow_none_raised); (case x4 => (refine postW_of ?y1 (w_eq_bool (w_res rfl) w_lit) ?y3; (case y1 => rfl); (case y3 => rfl))))) | walk1 | (dsimp only; walk1) | (leave1; walk_say "STEP leave1"; try dsimp only) | fail "no step"))
      refine Mine.Keep.mk ?_
      (rename Fr _ _ _ _ => lF')
      (rename News _ _ _ _ => lN')
      (rename IsRange _ _ _ _ _ _ _ _ => rgX)
      (with_reducible rename List.length _ = 8 => hlen)
      (with_unfolding_all refine' Mine.loop2 hlen (by rfl) rgX lF' lN' ?turn ?done)
      case turn =>
        clear lF' lN' rgX
        intro vs0 ns0 c0 vs1 ns1 c1 pre k t u h tk own hk hpl off f0 f1 p0 p1 z0 z1 F' N'
        have hSt1 : Mine.Stage 1 := Mine.Stage.mk
        (repeat' (first | (k_unfold; (try dsimp only)) | (k_end; (with_reducible show GoodW _ _ _ _ _ _ _); (refine' goodW_bool ?x1 ?x2 (raisesW_false ?x3) ?x4; (case x1 => with_reducible assumption); (case x2 => with_reducible assumption); (case x3 => wrow_none_raised); (case x4 => (refine postW_of ?y1 (w_eq_bool (w_res rfl) w_lit) ?y3; (case y1 => rfl); (case y3 => rfl))))) | walk1 | (dsimp only; walk1) | (leave1; walk_say "STEP leave1"; try dsimp only) | fail "no step"))
        refine Mine.Keep.mk ?_
        (rename Mine.Stage 1 => hSt1)
        clear hSt1
        (rename Fr _ _ _ _ => lF'); (rename News _ _ _ _ => lN'); (rename IsRange _ _ _ _ _ _ _ _ => rgX)
        (with_unfolding_all refine' Mine.loop2in hlen ?g0 ?g8 (by rfl) rgX lF' lN' ?a0 ?a1 ?turn2 ?done2)
        (case g0 => omega); (case g8 => omega); (case a0 => assumption); (case a1 => assumption)
        case turn2 =>
          clear lF' lN' rgX
          intro vs0 ns0 c0 vs1 ns1 c1 pre j t u h tk own hj hjk off f0 f1 p0 p1 z0 z1 F' N'
          have hSt2 : Mine.Stage 2 := Mine.Stage.mk
          (repeat' (first | (k_unfold; (try dsimp only)) | (k_end; (with_reducible show GoodW _ _ _ _ _ _ _); (refine' goodW_bool ?x1 ?x2 (raisesW_false ?x3) ?x4; (case x1 => with_reducible assumption); (case x2 => with_reducible assumption); (case x3 => wrow_none_raised); (case x4 => (refine postW_of ?y1 (w_eq_bool (w_res rfl) w_lit) ?y3; (case y1 => rfl); (case y3 => rfl))))) | walk1 | (dsimp only; walk1) | (leave1; walk_say "STEP leave1"; try dsimp only) | fail "no step"))
          all_goals (rename Mine.farF _ _ ≠ _ => hne; exact absurd Mine.far_ite hne)
        case done2 =>
          clear lF' lN' rgX
          intro vs0 ns0 c0 vs1 ns1 c1 u h tk f0 f1 p0 p1 F' N'
          have hSt3 : Mine.Stage 3 := Mine.Stage.mk
          (repeat' (first | (k_unfold; (try dsimp only)) | (k_end; (with_reducible show GoodW _ _ _ _ _ _ _); (refine' goodW_bool ?x1 ?x2 (raisesW_false ?x3) ?x4; (case x1 => with_reducible assumption); (case x2 => with_reducible assumption); (case x3 => wrow_none_raised); (case x4 => (refine postW_of ?y1 (w_eq_bool (w_res rfl) w_lit) ?y3; (case y1 => rfl); (case y3 => rfl))))) | walk1 | (dsimp only; walk1) | (leave1; walk_say "STEP leave1"; try dsimp only) | fail "no step"))
      case done =>
        clear lF' lN' rgX
        intro vs0 ns0 c0 vs1 ns1 c1 u h tk f0 f1 p0 p1 z0 z1 F' N'
        have hcnt := Mine.cnt_le hlen
        subst p0 p1
        (repeat' (first | (k_unfold; (try dsimp only)) | (k_end; (with_reducible show GoodW _ _ _ _ _ _ _); (refine' goodW_bool ?x1 ?x2 (raisesW_false ?x3) ?x4; (case x1 => with_reducible assumption); (case x2 => with_reducible assumption); (case x3 => wrow_none_raised); (case x4 => (refine postW_of ?y1 (w_eq_bool (w_res rfl) w_lit) ?y3; (case y1 => rfl); (case y3 => rfl))))) | walk1 | (dsimp only; walk1) | (leave1; walk_say "STEP leave1"; try dsimp only) | fail "no step"))
    skip)
end
