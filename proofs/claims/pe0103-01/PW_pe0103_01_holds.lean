import PyProof.Rows.All
import Wide.All
import OpenK.AllK
import Wide.FinOn
import PySem.Challenge.RW_pe0103_01
open PySem PySem.W PyProof.Rows
set_option Elab.async false
set_option linter.unusedVariables false
section HeadAPart
open PySem PySem.W PyProof.Rows
namespace Mine
set_option maxRecDepth 100000 in
set_option maxHeartbeats 8000000 in
open_top hd for PySem.Challenge.rw_pe0103_01
end Mine
end HeadAPart
section RulesPart
open PySem PySem.W PyProof.Rows PySem.Spec PySem.Calls PySem.Flt
namespace Mine
noncomputable abbrev LS : List Str := looseW hd.view_39 [Str.ofString "bisect_right", Str.ofString "bisect_left"] ++
          List.map (fun x => x.name) (recsOf hd.view_39) ++
        List.map (fun x => x.fst) (litsOf hd.view_39) ++
      List.map (fun x => x.name)
        (clssOf hd.view_39 (looseW hd.view_39 [Str.ofString "bisect_right", Str.ofString "bisect_left"]))

/-- a tuple of three, freshly made -/
abbrev tup3 (a b c : Value) : Obj := { cls := .type "tuple", data := .seq #[a, b, c] }
theorem tup3_is (g : Heap) (a b c : Value) : (g.push (tup3 a b c)).IsTuple g.objs.size #[a, b, c] := ⟨tup3 a b c, Heap.get?_push_size _ rfl, rfl, 0, rfl⟩
theorem old_ne_new {g : Heap} {d n : Nat} {o : Obj} (e : g.get? d = some o) (hn : g.objs.size ≤ n) : d ≠ n := by
  have : d < g.objs.size := Heap.lt_size e
  omega
theorem two_above (g : Heap) (o₁ o₂ : Obj) : ∀ d ∈ [(g.push o₁).objs.size, g.objs.size], d < ((g.push o₁).push o₂).objs.size := by
  have e1 : ((g.push o₁).push o₂).objs.size = (g.push o₁).objs.size + 1 := Heap.size_push ..
  have e2 : (g.push o₁).objs.size = g.objs.size + 1 := Heap.size_push ..
  intro d hd
  have hd' : d = (g.push o₁).objs.size ∨ d = g.objs.size := by simpa using hd
  rw [e1, e2] at *
  rcases hd' with rfl | rfl
  · exact Nat.lt_succ_self _
  · exact Nat.lt_succ_of_lt (Nat.lt_succ_self _)
theorem kept_under {g h' : Heap} {o₁ o₂ : Obj} (hk : ∀ (b : Addr) (o : Obj), b ∉ [(g.push o₁).objs.size] → ((g.push o₁).push o₂).get? b = some o → h'.get? b = some o) {d : Addr} {o : Obj} (e : g.get? d = some o) : h'.get? d = some o :=
  hk d o (fun hm => old_ne_new e (by rw [Heap.size_push]; exact Nat.le_succ _) (List.mem_singleton.mp hm)) (Heap.get?_push_of_some _ (Heap.get?_push_of_some _ e))
section
variable {prog : Program} {w : World} {A : Around} {E : Value → Shared → Prop} {s : Shared} {Q : Value → Shared → Prop}
theorem max_three_num {a b c : Value} (hh : A.handled = none) (ha : NumV a) (hb : NumV b) (hc' : NumV c)
    (h : ∀ h' tk, (∀ d o, s.heap.get? d = some o → h'.get? d = some o) → Q (if ltV a b then (if ltV b c then c else b) else (if ltV a c then c else a)) { s with heap := h', toks := tk }) :
    wpAny (model prog w) A (call (.builtin "max") [a, b, c]) Q E s := by
  have tp := tup3_is s.heap a b c
  have wk := Walks.tuple (prog := prog) (w := w) (A := A.in1) hh (s.heap.push (tup3 a b c)).objs.size s.heap.objs.size (by rw [Heap.size_push]; exact Nat.ne_of_lt (Nat.lt_succ_self _)) #[a, b, c]
  refine call_max_three (wpAny_pyIter_tuple tp ⟨_, _, _, 3, _, _, _, rfl, wk, ⟨⟨_, Heap.get?_push_size _ rfl, rfl, rfl⟩, tp.push _⟩, two_above _ _ _, by decide, cmpOf_gt #[a, b, c] (by simp [ha, hb, hc']), fun v h' tk hP hk => ?_⟩)
  have q := h h' tk fun d o e => kept_under hk e
  cases h1 : ltV a b <;> cases h2 : ltV b c <;> cases h3 : ltV a c <;> simp [argBest, h1, h2, h3] at hP <;> subst hP <;> simpa [h1, h2, h3] using q
theorem min_three_num {a b c : Value} (hh : A.handled = none) (ha : NumV a) (hb : NumV b) (hc' : NumV c)
    (h : ∀ h' tk, (∀ d o, s.heap.get? d = some o → h'.get? d = some o) → Q (if ltV b a then (if ltV c b then c else b) else (if ltV c a then c else a)) { s with heap := h', toks := tk }) :
    wpAny (model prog w) A (call (.builtin "min") [a, b, c]) Q E s := by
  have tp := tup3_is s.heap a b c
  have wk := Walks.tuple (prog := prog) (w := w) (A := A.in1) hh (s.heap.push (tup3 a b c)).objs.size s.heap.objs.size (by rw [Heap.size_push]; exact Nat.ne_of_lt (Nat.lt_succ_self _)) #[a, b, c]
  refine call_min_three (wpAny_pyIter_tuple tp ⟨_, _, _, 3, _, _, _, rfl, wk, ⟨⟨_, Heap.get?_push_size _ rfl, rfl, rfl⟩, tp.push _⟩, two_above _ _ _, by decide, cmpOf_lt #[a, b, c] (by simp [ha, hb, hc']), fun v h' tk hP hk => ?_⟩)
  have q := h h' tk fun d o e => kept_under hk e
  cases h1 : ltV b a <;> cases h2 : ltV c b <;> cases h3 : ltV c a <;> simp [argBest, h1, h2, h3] at hP <;> subst hP <;> simpa [h1, h2, h3] using q

def flt (x y : UInt64) : Bool := Float64.cmp x y == some .lt
def max3 (x y z : UInt64) : UInt64 := if flt x y then (if flt y z then z else y) else (if flt x z then z else x)
def min3 (x y z : UInt64) : UInt64 := if flt y x then (if flt z y then z else y) else (if flt z x then z else x)
variable {h₀ : Heap} {L : Addr} {m : Str → Option Value} {news : List (Addr × Obj)} {x y z : UInt64} {t u v : Tok}
theorem max_three_f (hh : A.handled = none) (F : Fr h₀ L s.heap m) (N : News h₀ L s.heap news)
    (h : ∀ h' tk r, Fr h₀ L h' m → News h₀ L h' news → Q (.float (max3 x y z) r) { s with heap := h', toks := tk }) :
    wpAny (model prog w) A (call (.builtin "max") [.float x t, .float y u, .float z v]) Q E s := by
  refine max_three_num hh (.float x t) (.float y u) (.float z v) fun h' tk kp => ?_
  have key := fun r => h h' tk r (F.grownK kp) (N.grown kp)
  have e1 : ltV (.float x t) (.float y u) = flt x y := rfl
  have e2 : ltV (.float y u) (.float z v) = flt y z := rfl
  have e3 : ltV (.float x t) (.float z v) = flt x z := rfl
  rw [e1, e2, e3]
  unfold max3 at key
  cases h1 : flt x y <;> cases h2 : flt y z <;> cases h3 : flt x z <;> simp only [h1, h2, h3, if_true, if_false, Bool.false_eq_true] at key ⊢ <;> exact key _
theorem min_three_f (hh : A.handled = none) (F : Fr h₀ L s.heap m) (N : News h₀ L s.heap news)
    (h : ∀ h' tk r, Fr h₀ L h' m → News h₀ L h' news → Q (.float (min3 x y z) r) { s with heap := h', toks := tk }) :
    wpAny (model prog w) A (call (.builtin "min") [.float x t, .float y u, .float z v]) Q E s := by
  refine min_three_num hh (.float x t) (.float y u) (.float z v) fun h' tk kp => ?_
  have key := fun r => h h' tk r (F.grownK kp) (N.grown kp)
  have e1 : ltV (.float y u) (.float x t) = flt y x := rfl
  have e2 : ltV (.float z v) (.float y u) = flt z y := rfl
  have e3 : ltV (.float z v) (.float x t) = flt z x := rfl
  rw [e1, e2, e3]
  unfold min3 at key
  cases h1 : flt y x <;> cases h2 : flt z y <;> cases h3 : flt z x <;> simp only [h1, h2, h3, if_true, if_false, Bool.false_eq_true] at key ⊢ <;> exact key _
end
section
variable {prog : Program} {w : World} {A : Around} {E : Value → Shared → Prop} {s : Shared} {Q : Value → Shared → Prop} {a b : UInt64} {t u : Tok} {i : Int}
theorem div_nz (hc : ¬ Float64.isZero b = true) (h : Q (.float (Float64.div a b) s.toks) { s with toks := s.toks + 1 }) : wpAny (model prog w) A (binaryOp .Div (.float a t) (.float b u)) Q E s :=
  AutoFloatOps.truediv_1 hc h
theorem mod_nz (hc : ¬ Float64.isZero b = true) (h : Q (.float (Float64.divmod a b).2 s.toks) { s with toks := s.toks + 1 }) : wpAny (model prog w) A (binaryOp .Mod (.float a t) (.float b u)) Q E s :=
  AutoFloatOps.mod_1 hc h
theorem div_if_nz (hi : ¬ Float64.isInf (Float64.ofInt i) = true) (hc : ¬ Float64.isZero a = true) (h : Q (.float (Float64.div (Float64.ofInt i) a) s.toks) { s with toks := s.toks + 1 }) : wpAny (model prog w) A (binaryOp .Div (.int i u) (.float a t)) Q E s :=
  AutoFloatOps.truediv_if_2 hi hc h
theorem mul_fi_ni (hi : ¬ Float64.isInf (Float64.ofInt i) = true) (h : Q (.float (Float64.mul a (Float64.ofInt i)) s.toks) { s with toks := s.toks + 1 }) : wpAny (model prog w) A (binaryOp .Mult (.float a t) (.int i u)) Q E s :=
  AutoFloatOps.mul_fi_1 hi h
theorem mul_if_ni (hi : ¬ Float64.isInf (Float64.ofInt i) = true) (h : Q (.float (Float64.mul (Float64.ofInt i) a) s.toks) { s with toks := s.toks + 1 }) : wpAny (model prog w) A (binaryOp .Mult (.int i u) (.float a t)) Q E s :=
  AutoFloatOps.mul_if_1 hi h
end
abbrev f05 : UInt64 := 4602678819172646912
abbrev f1 : UInt64 := 4607182418800017408
abbrev f2 : UInt64 := 4611686018427387904
abbrev f4 : UInt64 := 4616189618054758400
abbrev f6 : UInt64 := 4618441417868443648
abbrev f8 : UInt64 := 4620693217682128896
abbrev f16 : UInt64 := 4625196817309499392
def hueH (x y z M R : UInt64) : UInt64 := if Float64.cmp x M == some .eq then Float64.sub (Float64.div (Float64.sub M z) R) (Float64.div (Float64.sub M y) R)
  else if Float64.cmp y M == some .eq then Float64.sub (Float64.add f2 (Float64.div (Float64.sub M x) R)) (Float64.div (Float64.sub M z) R)
  else Float64.sub (Float64.add f4 (Float64.div (Float64.sub M y) R)) (Float64.div (Float64.sub M x) R)
def hueF (x y z : UInt64) : UInt64 := (Float64.divmod (Float64.div (hueH x y z (max3 x y z) (Float64.sub (max3 x y z) (min3 x y z))) f6) f1).2
theorem hueF_1 {x y z : UInt64} (h : (Float64.cmp x (max3 x y z) == some .eq) = true) : (Float64.divmod (Float64.div (Float64.sub (Float64.div (Float64.sub (max3 x y z) z) (Float64.sub (max3 x y z) (min3 x y z))) (Float64.div (Float64.sub (max3 x y z) y) (Float64.sub (max3 x y z) (min3 x y z)))) f6) f1).2 = hueF x y z := by
  unfold hueF hueH; rw [if_pos h]
theorem hueF_2 {x y z : UInt64} (h : (Float64.cmp x (max3 x y z) == some .eq) = false) (h2 : (Float64.cmp y (max3 x y z) == some .eq) = true) : (Float64.divmod (Float64.div (Float64.sub (Float64.add f2 (Float64.div (Float64.sub (max3 x y z) x) (Float64.sub (max3 x y z) (min3 x y z)))) (Float64.div (Float64.sub (max3 x y z) z) (Float64.sub (max3 x y z) (min3 x y z)))) f6) f1).2 = hueF x y z := by
  unfold hueF hueH; rw [if_neg (by rw [h]; exact Bool.false_ne_true), if_pos h2]
theorem hueF_3 {x y z : UInt64} (h : (Float64.cmp x (max3 x y z) == some .eq) = false) (h2 : (Float64.cmp y (max3 x y z) == some .eq) = false) : (Float64.divmod (Float64.div (Float64.sub (Float64.add f4 (Float64.div (Float64.sub (max3 x y z) y) (Float64.sub (max3 x y z) (min3 x y z)))) (Float64.div (Float64.sub (max3 x y z) x) (Float64.sub (max3 x y z) (min3 x y z)))) f6) f1).2 = hueF x y z := by
  unfold hueF hueH; rw [if_neg (by rw [h]; exact Bool.false_ne_true), if_neg (by rw [h2]; exact Bool.false_ne_true)]
section
variable {prog : Program} {w : World} {A : Around} {E : Value → Shared → Prop} {s : Shared} {Q : Value → Shared → Prop} {h₀ : Heap} {L : Addr} {news : List (Addr × Obj)}
theorem item_m {value slice : PySem.Expr} {l : Addr} {its : Array Value} {n : Nat} {k : Int} {u : Tok} {v : Value} (N : News h₀ L s.heap news) (hm : (l, W.listOf its n) ∈ news) (h0 : 0 ≤ k) (hhi : k < 2 ^ 63) (hx : its[k.toNat]? = some v) (h : Q v s)
    (hs : subscripted slice false (.ref l) (.int k u) = operate [.ref l, .int k u] (getItem (.ref l) (.int k u)) := by with_unfolding_all rfl) :
    wpAny (model prog w) A (subscriptTail value slice (.ref l) (.int k u)) Q E s :=
  item_litK (vs := its.toList) ⟨_, (N _ hm).1, rfl, n, rfl⟩ h0 hhi (by simpa using hx) h hs
theorem item_0 {value slice : PySem.Expr} {l : Addr} {v0 v1 v2 : Value} {n : Nat} {u : Tok} (N : News h₀ L s.heap news) (hm : (l, W.listOf #[v0, v1, v2] n) ∈ news) (h : Q v0 s)
    (hs : subscripted slice false (.ref l) (.int 0 u) = operate [.ref l, .int 0 u] (getItem (.ref l) (.int 0 u)) := by with_unfolding_all rfl) :
    wpAny (model prog w) A (subscriptTail value slice (.ref l) (.int 0 u)) Q E s := item_m N hm (by decide) (by decide) rfl h hs
theorem item_1 {value slice : PySem.Expr} {l : Addr} {v0 v1 v2 : Value} {n : Nat} {u : Tok} (N : News h₀ L s.heap news) (hm : (l, W.listOf #[v0, v1, v2] n) ∈ news) (h : Q v1 s)
    (hs : subscripted slice false (.ref l) (.int 1 u) = operate [.ref l, .int 1 u] (getItem (.ref l) (.int 1 u)) := by with_unfolding_all rfl) :
    wpAny (model prog w) A (subscriptTail value slice (.ref l) (.int 1 u)) Q E s := item_m N hm (by decide) (by decide) rfl h hs
theorem item_2 {value slice : PySem.Expr} {l : Addr} {v0 v1 v2 : Value} {n : Nat} {u : Tok} (N : News h₀ L s.heap news) (hm : (l, W.listOf #[v0, v1, v2] n) ∈ news) (h : Q v2 s)
    (hs : subscripted slice false (.ref l) (.int 2 u) = operate [.ref l, .int 2 u] (getItem (.ref l) (.int 2 u)) := by with_unfolding_all rfl) :
    wpAny (model prog w) A (subscriptTail value slice (.ref l) (.int 2 u)) Q E s := item_m N hm (by decide) (by decide) rfl h hs
theorem len_m {l : Addr} {its : Array Value} {k : Nat} {n : Int} (N : News h₀ L s.heap news) (hm : (l, W.listOf its k) ∈ news) (e : (its.size : Int) = n) (hfit : n < 2 ^ 63) (h : ∀ (tok : Tok) (tk : Nat), Q (.int n tok) { s with toks := tk }) :
    wpAny (model prog w) A (call (.builtin "len") [.ref l]) Q E s := by
  subst e
  exact len_list ⟨_, (N _ hm).1, rfl, k, rfl⟩ hfit (h _ _)
theorem item_row {value slice : PySem.Expr} {l : Addr} {vs : List Value} {nr : Nat} {n k : Int} {u : Tok} (N : News h₀ L s.heap news) (hm : (l, W.listOf vs.toArray nr) ∈ news) (hvs : ∀ i : Nat, (i : Int) < n → ∃ t, vs[i]? = some (.int (i : Int) t)) (h0 : 0 ≤ k) (hk : k < n) (hhi : k < 2 ^ 63)
    (h : ∀ t, Q (.int k t) s)
    (hs : subscripted slice false (.ref l) (.int k u) = operate [.ref l, .int k u] (getItem (.ref l) (.int k u)) := by with_unfolding_all rfl) :
    wpAny (model prog w) A (subscriptTail value slice (.ref l) (.int k u)) Q E s := by
  obtain ⟨t, ht⟩ := hvs k.toNat (by omega)
  rw [show ((k.toNat : Nat) : Int) = k by omega] at ht
  exact item_litK (vs := vs) ⟨_, (N _ hm).1, rfl, nr, rfl⟩ h0 hhi ht (h t) hs
end
def Hold (P : Prop) : Prop := P
theorem Hold.mk {P : Prop} (h : Hold P) : P := h
theorem Hold.out {P : Prop} (h : P) : Hold P := h
end Mine
end RulesPart
section HuePart
open PySem PySem.W PyProof.Rows PySem.Spec PySem.Calls PySem.Flt
namespace Mine
local macro_rules | `(tactic| walk_at "call builtin:max") => `(tactic| ((with_reducible show wpAny _ _ (call _ [Value.float _ _, Value.float _ _, Value.float _ _]) _ _ _); k_dflt (refine' max_three_f rfl ?k1 ?k2 ?_; (case k1 => k_asm); (case k2 => k_asm); k_whole); intro _ _ _ F' N'))
local macro_rules | `(tactic| walk_at "call builtin:min") => `(tactic| ((with_reducible show wpAny _ _ (call _ [Value.float _ _, Value.float _ _, Value.float _ _]) _ _ _); k_dflt (refine' min_three_f rfl ?k1 ?k2 ?_; (case k1 => k_asm); (case k2 => k_asm); k_whole); intro _ _ _ F' N'))
local macro_rules | `(tactic| walk_at "binaryOp Div float float") => `(tactic| ((with_reducible refine div_nz (by first | assumption | decide +kernel) ?_); try dsimp only))
local macro_rules | `(tactic| walk_at "binaryOp Mod float float") => `(tactic| ((with_reducible refine mod_nz (by first | assumption | decide +kernel) ?_); try dsimp only))
set_option maxRecDepth 100000 in
set_option maxHeartbeats 8000000 in
theorem hsv_c {w : World} {mean : ExcName → Option Value} {mg mb : Str → Option Value} {x y z : UInt64} {t0 t1 t2 : Tok} 
   {dp un : Nat} {gd : Option (List Code)} {cn : Str} {cs : Scope} {a : Addr} {ccd : Value} {cl : List (Str × Addr)} {outer : List Env} {A₀ : Around} {base h₀ : Heap} {L : Addr} {m : Str → Option Value} {s : Shared} {Q E : Value → Shared → Prop} {news : List (Addr × Obj)}
   (hne : (Float64.cmp (min3 x y z) (max3 x y z) == some .eq) = false) (hz1 : ¬ Float64.isZero (max3 x y z) = true) (hz2 : ¬ Float64.isZero (Float64.sub (max3 x y z) (min3 x y z)) = true)
   (B : Below A₀ base outer h₀) (F : Fr h₀ L s.heap m) (X : (hd.heap_39 w.params).In h₀) (N : News h₀ L s.heap news) (T : Top topProg LS mean mg mb h₀) (hk : cs.kind = .function)
   (hdp : dp + 1 < recursionLimit) (hun : un + 8 < cLine)
   (hret : ∀ (xa : Addr) (t' : Tok) (s' v' : Value) (h' : Heap) (tk' : Nat), Fr h₀ L h' m → News h₀ L h' ((xa, { cls := .type "tuple", data := .seq #[.float (hueF x y z) t', s', v'] 0 }) :: news) → (∀ p ∈ news, p.1 < xa) → Q (.ref xa) { s with heap := h', toks := tk' }) : 
   wpAny (model Challenge.rw_pe0103_01.row.prog w) (ktrTop dp un gd cn cs L a ccd cl outer) (call (.ref 46) [.float x t0, .float y t1, .float z t2]) Q E s := by
  have hret2 : ∀ (xa : Addr) (H : UInt64) (t' : Tok) (s' v' : Value) (h' : Heap) (tk' : Nat), H = hueF x y z → Fr h₀ L h' m → News h₀ L h' ((xa, { cls := .type "tuple", data := .seq #[.float H t', s', v'] 0 }) :: news) → (∀ p ∈ news, p.1 < xa) → Q (.ref xa) { s with heap := h', toks := tk' } := by
    intro xa H t' s' v' h' tk' e
    subst e
    exact hret xa t' s' v' h' tk'
  clear hret
  revert X; k_fill; intro X
  refine wpAny_call ?_
  k_dflt cell_enter
  k_steps
  · exact hret2 _ _ _ _ _ _ _ (hueF_1 (by assumption)) (by assumption) (by assumption) (by assumption)
  · exact hret2 _ _ _ _ _ _ _ (hueF_2 (by assumption) (by assumption)) (by assumption) (by assumption) (by assumption)
  · exact hret2 _ _ _ _ _ _ _ (hueF_3 (by assumption) (by assumption)) (by assumption) (by assumption) (by assumption)
set_option maxRecDepth 100000 in
set_option maxHeartbeats 8000000 in
theorem hls_c {w : World} {mean : ExcName → Option Value} {mg mb : Str → Option Value} {x y z : UInt64} {t0 t1 t2 : Tok} 
   {dp un : Nat} {gd : Option (List Code)} {cn : Str} {cs : Scope} {a : Addr} {ccd : Value} {cl : List (Str × Addr)} {outer : List Env} {A₀ : Around} {base h₀ : Heap} {L : Addr} {m : Str → Option Value} {s : Shared} {Q E : Value → Shared → Prop} {news : List (Addr × Obj)}
   (hne : (Float64.cmp (min3 x y z) (max3 x y z) == some .eq) = false) (hz1 : ¬ Float64.isZero (Float64.add (max3 x y z) (min3 x y z)) = true) (hz2 : ¬ Float64.isZero (Float64.sub (max3 x y z) (min3 x y z)) = true)
   (hz3 : ¬ Float64.isZero (Float64.sub (Float64.sub f2 (max3 x y z)) (min3 x y z)) = true)
   (B : Below A₀ base outer h₀) (F : Fr h₀ L s.heap m) (X : (hd.heap_39 w.params).In h₀) (N : News h₀ L s.heap news) (T : Top topProg LS mean mg mb h₀) (hk : cs.kind = .function)
   (hdp : dp + 1 < recursionLimit) (hun : un + 8 < cLine)
   (hret : ∀ (xa : Addr) (t' : Tok) (s' v' : Value) (h' : Heap) (tk' : Nat), Fr h₀ L h' m → News h₀ L h' ((xa, { cls := .type "tuple", data := .seq #[.float (hueF x y z) t', s', v'] 0 }) :: news) → (∀ p ∈ news, p.1 < xa) → Q (.ref xa) { s with heap := h', toks := tk' }) : 
   wpAny (model Challenge.rw_pe0103_01.row.prog w) (ktrTop dp un gd cn cs L a ccd cl outer) (call (.ref 39) [.float x t0, .float y t1, .float z t2]) Q E s := by
  have hret2 : ∀ (xa : Addr) (H : UInt64) (t' : Tok) (s' v' : Value) (h' : Heap) (tk' : Nat), H = hueF x y z → Fr h₀ L h' m → News h₀ L h' ((xa, { cls := .type "tuple", data := .seq #[.float H t', s', v'] 0 }) :: news) → (∀ p ∈ news, p.1 < xa) → Q (.ref xa) { s with heap := h', toks := tk' } := by
    intro xa H t' s' v' h' tk' e
    subst e
    exact hret xa t' s' v' h' tk'
  clear hret
  revert X; k_fill; intro X
  refine wpAny_call ?_
  k_dflt cell_enter
  k_steps
  all_goals first
  | exact hret2 _ _ _ _ _ _ _ (hueF_1 (by assumption)) (by assumption) (by assumption) (by assumption)
  | exact hret2 _ _ _ _ _ _ _ (hueF_2 (by assumption) (by assumption)) (by assumption) (by assumption) (by assumption)
  | exact hret2 _ _ _ _ _ _ _ (hueF_3 (by assumption) (by assumption)) (by assumption) (by assumption) (by assumption)
end Mine
end HuePart
section ZipPart
open PySem PySem.W PyProof.Rows PySem.Spec PySem.Calls PySem.Flt PyProof.Rows.LCg
namespace Mine
/-- what a step leaves standing: all but the objects of wr -/
def Leaves (wr : List Addr) (g h : Heap) : Prop := ∀ (b : Addr) (o : Obj), b ∉ wr → g.get? b = some o → h.get? b = some o
theorem Leaves.of_all {wr : List Addr} {g h : Heap} (k : ∀ (b : Addr) (o : Obj), g.get? b = some o → h.get? b = some o) : Leaves wr g h := fun b o _ e => k b o e
theorem Leaves.of_same {a : Addr} {wr : List Addr} {g h : Heap} (x : Heap.SameBut a g h) (ha : a ∈ wr) : Leaves wr g h := fun b _ hb e => (x.2 b fun q => hb (q ▸ ha)).trans e
theorem Leaves.wide {wr wr' : List Addr} {g h : Heap} (k : Leaves wr g h) (s : ∀ a ∈ wr, a ∈ wr') : Leaves wr' g h := fun b o hb e => k b o (fun q => hb (s b q)) e
theorem Leaves.then {wr : List Addr} {g h i : Heap} (k : Leaves wr g h) (l : Leaves wr h i) : Leaves wr g i := fun b o hb e => l b o hb (k b o hb e)
section
variable {h₀ g h : Heap} {L : Addr} {m : Str → Option Value} {wr : List Addr} {news : List (Addr × Obj)}
/-- no object of wr is the frame's or of the old heap -/
def Free (h₀ : Heap) (L : Addr) (wr : List Addr) : Prop := ∀ a ∈ wr, a ≠ L ∧ h₀.get? a = none
theorem Leaves.frame (k : Leaves wr g h) (fr : Free h₀ L wr) (F : Fr h₀ L g m) : Fr h₀ L h m where
  ns := F.ns.at' fun o e => k L o (fun q => absurd rfl (fr L q).1) e
  keep b o e := k b o (fun q => by have x := (fr b q).2.symm.trans e; cases x) (F.keep b o e)
  above := F.above
theorem Leaves.ledger (k : Leaves wr g h) (off : ∀ p ∈ news, p.1 ∉ wr) (N : News h₀ L g news) : News h₀ L h news := fun p hp => And.imp_left (k p.1 p.2 (off p hp)) (N p hp)
theorem base_none {a : Nat} (F : Fr h₀ L g m) (ha : g.objs.size ≤ a) : h₀.get? a = none :=
  Heap.get?_none_of_le (Nat.le_trans F.above (Nat.le_trans (Nat.le_of_lt F.ns.lt) ha))
end
/-- the list D and the names C of a comprehension, newly made upon g -/
structure Opened (g h : Heap) (D C : Addr) : Prop where
  grown : ∀ (b : Addr) (o : Obj), g.get? b = some o → h.get? b = some o
  empty : h.get? D = some (lst [])
  dNew : g.objs.size ≤ D
  cNew : g.objs.size ≤ C
  dc : D ≠ C
section
variable {prog : Program} {w : World} {A : Around} {E : Value → Shared → Prop} {s : Shared} {h₀ : Heap} {L : Addr} {m : Str → Option Value} {env : Env}
theorem comp_open {X : Expr} {it : Value} {scope : Scope} {cl : List (Str × Addr)} {R : Value → Addr → Result → Shared → Prop} (hcell : ∀ y ∈ scope.names, y.2 ≠ .cell) (hkind : scope.kind = .function)
    (k : ∀ D C h t nm, Opened s.heap h D C → h.Ns C nm → codeAny (model prog w) A (.compStart X 0 it (.ref D) (compEnvC scope cl C env)) (R (.ref D) C) { s with heap := h, toks := t }) :
    wpAny (model prog w) A (newList []) (fun acc u => wpAny (model prog w) A (newFunctionEnv scope env.globals cl [] env.qual none .none (some env)) (fun ce v => codeAny (model prog w) A (.compStart X 0 it acc { ce with scope := relabel scope env }) (R acc ce.locals) v) E u) E s := by
  refine wpAny_newObj_type (wpAny_newFunctionEnv hcell (fun _ q => nomatch q) (fun h ns same => k _ _ h _ _ ?_ ns) hkind)
  have up : (s.heap.push (lst [])).objs.size = s.heap.objs.size + 1 := Heap.size_push ..
  have far : ∀ b : Nat, b ≤ s.heap.objs.size → b ≠ (s.heap.push (lst [])).objs.size := fun b hb q => by rw [up] at q; omega
  exact {
    grown := fun b o e => (same.2 b (far b (Nat.le_of_lt (Heap.lt_size e)))).trans (Heap.get?_push_of_some _ (Heap.get?_push_of_some _ e))
    empty := (same.2 _ (far _ (Nat.le_refl _))).trans (Heap.get?_push_of_some _ (Heap.get?_push_size _ rfl))
    dNew := Nat.le_refl _
    cNew := Nat.le_of_lt (up ▸ Nat.lt_succ_self _)
    dc := far _ (Nat.le_refl _) }
/-- how a zip over two lists stands before its turn i -/
abbrev ZSt (z TI TO i1 i2 l1 l2 : Addr) (xs ys : Array Value) (i : Nat) (h : Heap) : Prop :=
  IsZip h z TI TO .none ∧ IsPair h TI (.ref i1) (.ref i2) ∧ (∃ a b, IsPair h TO a b) ∧ h.IsListIter i1 l1 i ∧ h.IsListIter i2 l2 i ∧ h.IsList l1 xs ∧ h.IsList l2 ys
/-- the element, at any two ints from 0 to 8: it makes nothing and gives f -/
def EltZ (prog : Program) (w : World) (A : Around) (h₀ : Heap) (L : Addr) (m : Str → Option Value) (env : Env) (elt : Expr) (a b : Str) (scope : Scope) (cl : List (Str × Addr)) (news : List (Addr × Obj)) (f : Int → Int → Int) : Prop :=
  ∀ (p q : Int) (tp tq : Tok) (s₂ : Shared) (h : Heap) (tk : Nat) (C : Addr) (oC : Obj) (m₂ : Str → Option Value) (Q' E' : Value → Shared → Prop), 0 ≤ p → p ≤ 8 → 0 ≤ q → q ≤ 8 → NsObj oC m₂ → m₂ a = some (.int p tp) → m₂ b = some (.int q tq) →
    Fr h₀ L h m → News h₀ L h ((C, oC) :: news) → (∀ p ∈ news, p.1 < C) → (∀ tok tk', Q' (.int (f p q) tok) { s₂ with heap := h, toks := tk' }) →
    wpAny (model prog w) A (eval elt (compEnvC scope cl C env)) Q' E' { s₂ with heap := h, toks := tk }
/-- the first vs.length results stand -/
def ZDone (xs ys : Array Value) (f : Int → Int → Int) (vs : List Value) : Prop := ∀ j, j < vs.length → ∃ p q tp tq tok, xs[j]? = some (.int p tp) ∧ ys[j]? = some (.int q tq) ∧ vs[j]? = some (.int (f p q) tok)
theorem ZDone.more {xs ys : Array Value} {f : Int → Int → Int} {vs : List Value} {p q : Int} {tp tq tok : Tok} (d : ZDone xs ys f vs) (hx : xs[vs.length]? = some (.int p tp)) (hy : ys[vs.length]? = some (.int q tq)) : ZDone xs ys f (vs ++ [.int (f p q) tok]) := by
  intro j hj
  by_cases c : j = vs.length
  · subst c
    exact ⟨p, q, tp, tq, tok, hx, hy, List.getElem?_concat_length⟩
  · have lt : j < vs.length := by
      rw [List.length_append, List.length_singleton] at hj
      omega
    obtain ⟨p', q', a1, a2, a3, x1, x2, x3⟩ := d j lt
    exact ⟨p', q', a1, a2, a3, x1, x2, (List.getElem?_append_left lt).trans x3⟩
/-- between two turns -/
structure ZAt (h₀ : Heap) (L : Addr) (m : Str → Option Value) (news : List (Addr × Obj)) (St : Nat → Heap → Prop) (xs ys : Array Value) (f : Int → Int → Int) (D C : Addr) (vs : List Value) (h : Heap) : Prop where
  st : St vs.length h
  fr : Fr h₀ L h m
  ns : ∃ nm, h.Ns C nm
  nw : News h₀ L h ((D, lst vs) :: news)
  dn : ZDone xs ys f vs
theorem zip_comp {elt iter : Expr} {a b : Str} {pa pb tp : Pos} {kk : Nat} {scope : Scope} {cl : List (Str × Addr)} {pos : Pos} {z TI TO i1 i2 l1 l2 : Addr} {xs ys : Array Value} {f : Int → Int → Int} {news : List (Addr × Obj)} {R : Value → Addr → Result → Shared → Prop}
    (hh : A.handled = none) (ap : ZipApart z TI TO i1 i2 l1 l2) (hsz : min xs.size ys.size ≤ sizeLine) (st₀ : ZSt z TI TO i1 i2 l1 l2 xs ys 0 s.heap)
    (hcell : ∀ y ∈ scope.names, y.2 ≠ .cell) (hkind : scope.kind = .function) (hx : scope.names.lookup a = some .local) (hx₂ : scope.names.lookup b = some .local) (hxx : a ≠ b) (hfp : ∀ b ∈ [z, TI, TO, i1, i2, l1, l2], b < s.heap.objs.size)
    (F : Fr h₀ L s.heap m) (N : News h₀ L s.heap news) (hw : Free h₀ L [z, TO, i1, i2]) (off : ∀ p ∈ news, p.1 ∉ [z, TO, i1, i2])
    (hints : ∀ (i : Nat) (x y : Value), xs[i]? = some x → ys[i]? = some y → ∃ p q tp tq, x = Value.int p tp ∧ y = Value.int q tq ∧ 0 ≤ p ∧ p ≤ 8 ∧ 0 ≤ q ∧ q ≤ 8)
    (helt : EltZ prog w A h₀ L m env elt a b scope cl news f)
    (fin : ∀ D C h tk vs, ZAt h₀ L m news (fun _ _ => True) xs ys f D C vs h → (∀ p ∈ news, p.1 < D ∧ p.1 ≠ C) → Free h₀ L [D, C] → D ≠ C → vs.length = min xs.size ys.size → R (.ref D) C (.ok .next) { s with heap := h, toks := tk }) :
    wpAny (model prog w) A (newList []) (fun acc u => wpAny (model prog w) A (newFunctionEnv scope env.globals cl [] env.qual none .none (some env)) (fun ce v => codeAny (model prog w) A (.compStart (.ListComp elt [⟨.Tuple [.Name a pa, .Name b pb] kk tp, iter, [], 0⟩] scope pos) 0 (.ref z) acc { ce with scope := relabel scope env }) (R acc ce.locals) v) E u) E s := by
  refine comp_open hcell hkind fun D C h t nm o ns => ?_
  have W := (WalksT.zip2 (prog := prog) (w := w) (A := A) hh z TI TO i1 i2 l1 l2 ap xs ys).toU
  have oldD : ∀ b : Nat, b < s.heap.objs.size → b < D := fun b hb => Nat.lt_of_lt_of_le hb o.dNew
  have oldC : ∀ b : Nat, b < s.heap.objs.size → b < C := fun b hb => Nat.lt_of_lt_of_le hb o.cNew
  have in0 : ∀ p ∈ news, p.1 < s.heap.objs.size := fun p hp => Heap.lt_size (N p hp).1
  have fDC : Free h₀ L [D, C] := by
    intro x hx
    have lL : L < s.heap.objs.size := F.ns.lt
    rcases List.mem_cons.mp hx with rfl | hx
    · exact ⟨Ne.symm (Nat.ne_of_lt (oldD L lL)), base_none F o.dNew⟩
    · rw [List.mem_singleton.mp hx]
      exact ⟨Ne.symm (Nat.ne_of_lt (oldC L lL)), base_none F o.cNew⟩
  have fC : Free h₀ L [C] := fun x hx => fDC x (List.mem_cons_of_mem _ hx)
  have fD : Free h₀ L [D] := fun x hx => fDC x (List.mem_singleton.mp hx ▸ List.mem_cons_self)
  have offD : ∀ p ∈ (D, lst ([] : List Value)) :: news, p.1 ∉ [z, TO, i1, i2] := fun p hp q => by
    rcases List.mem_cons.mp hp with rfl | hp
    · exact absurd (oldD _ (hfp _ (W.sub _ q))) (Nat.lt_irrefl _)
    · exact off p hp q
  have offC : ∀ p ∈ (D, lst ([] : List Value)) :: news, p.1 ∉ [C] := fun p hp q => by
    have e : p.1 = C := List.mem_singleton.mp q
    rcases List.mem_cons.mp hp with rfl | hp
    · exact o.dc e
    · exact absurd e (Nat.ne_of_lt (oldC _ (in0 p hp)))
  have same1 : ∀ {vs : List Value} {P : Addr → Prop}, (∀ p ∈ (D, lst ([] : List Value)) :: news, P p.1) → ∀ p ∈ (D, lst vs) :: news, P p.1 := fun k p hp => by
    rcases List.mem_cons.mp hp with rfl | hp
    · exact k (D, lst []) List.mem_cons_self
    · exact k p (List.mem_cons_of_mem _ hp)
  have st₁ := W.frame 0 _ h st₀ fun b _ x e => o.grown b x e
  have start : ZAt h₀ L m news (ZSt z TI TO i1 i2 l1 l2 xs ys) xs ys f D C [] h := {
    st := st₁
    fr := F.keeps o.grown
    ns := ⟨nm, ns⟩
    nw := fun p hp => by
      rcases List.mem_cons.mp hp with rfl | hp
      · exact ⟨o.empty, fD D List.mem_cons_self⟩
      · exact ⟨o.grown _ _ (N p hp).1, (N p hp).2⟩
    dn := fun j hj => absurd hj (Nat.not_lt_zero _) }
  have run : ∀ t', codeAny (model prog w) A (.compLoop (.ListComp elt [⟨.Tuple [.Name a pa, .Name b pb] kk tp, iter, [], 0⟩] scope pos) 0 (.ref z) (.ref D) (compEnvC scope cl C env)) (R (.ref D) C) { s with heap := h, toks := t' } := by
    intro t'
    refine kcp_loop (fun k u => ∃ h' tk vs, u = { s with heap := h', toks := tk } ∧ vs.length + k = min xs.size ys.size + 1 ∧ ZAt h₀ L m news (ZSt z TI TO i1 i2 l1 l2 xs ys) xs ys f D C vs h') ?_ (min xs.size ys.size + 1) ⟨h, t', [], rfl, Nat.zero_add _, start⟩
    rintro k u ⟨h', tk, vs, rfl, hk, at'⟩
    by_cases more : vs.length < min xs.size ys.size
    · refine W.item vs.length _ _ _ more at'.st fun T vals h₂ tk₂ pv hT mid k₂ => ?_
      obtain ⟨x, y, ex, ey, rfl⟩ := pv
      obtain ⟨p, q, t1, t2, rfl, rfl, p0, p8, q0, q8⟩ := hints _ x y ex ey
      refine W.go _ _ _ _ T _ _ _ mid fun h₃ st₃ k₃ => ?_
      have l3 : Leaves [z, TO, i1, i2] h' h₃ := Leaves.then (h := h₂) k₂ k₃
      have pair : h₃.IsTuple T #[.int p t1, .int q t2] := hT.at fun x e => k₃ T x (W.apart _ _ _ mid) e
      obtain ⟨nm₁, ns₁⟩ := at'.ns
      have nz : C ∉ [z, TO, i1, i2] := fun q => absurd (oldC _ (hfp _ (W.sub _ q))) (Nat.lt_irrefl _)
      refine kcp_assign hh pair (lookup_relabel_local hx) (lookup_relabel_local hx₂) (by simp [compEnvC, relabel, hkind]) (ns₁.at' fun x e => l3 C x nz e) fun h₄ tk₄ ns₄ k₄ => ?_
      have l4 : Leaves [C] h₃ h₄ := fun b x hb e => k₄ b x (fun q => hb (List.mem_singleton.mpr q)) e
      obtain ⟨oC, eC, isC⟩ := ns_obj ns₄
      have F₄ := l4.frame fC (l3.frame hw at'.fr)
      have N₄ := l4.ledger (same1 (P := (· ∉ [C])) offC) (l3.ledger (same1 (P := (· ∉ [z, TO, i1, i2])) offD) at'.nw)
      refine helt p q t1 t2 s h₄ tk₄ C oC _ _ _ p0 p8 q0 q8 isC (by simp [hxx]) (by simp) F₄ (fun r hr => ?_) (fun r hr => oldC _ (in0 r hr)) fun tok tk' => ?_
      · rcases List.mem_cons.mp hr with rfl | hr
        · exact ⟨eC, fC C List.mem_cons_self⟩
        · exact N₄ r (List.mem_cons_of_mem _ hr)
      · refine append_at (hsz := by rw [List.size_toArray]; exact Nat.le_trans (Nat.le_of_lt more) hsz) (N₄ _ List.mem_cons_self).1 fun h₅ same₅ eD => ?_
        have l5 : Leaves [D] h₄ h₅ := Leaves.of_same same₅ List.mem_cons_self
        have len : (vs ++ [Value.int (f p q) tok]).length = vs.length + 1 := by rw [List.length_append, List.length_singleton]
        refine ⟨k - 1, by omega, h₅, tk', vs ++ [.int (f p q) tok], rfl, by omega, ?_⟩
        have out : ∀ b ∈ [z, TI, TO, i1, i2, l1, l2], ∀ x, h₃.get? b = some x → h₅.get? b = some x := fun b hb x e => by
          have hs := hfp b hb
          have nC : b ∉ [C] := fun q => absurd (List.mem_singleton.mp q) (Nat.ne_of_lt (oldC b hs))
          have nD : b ∉ [D] := fun q => absurd (List.mem_singleton.mp q) (Nat.ne_of_lt (oldD b hs))
          exact l5 b x nD (l4 b x nC e)
        exact {
          st := len ▸ W.frame _ _ _ st₃ out
          fr := l5.frame fD F₄
          ns := ⟨_, (isC.ns eC).sameBut same₅ (Ne.symm o.dc)⟩
          nw := fun r hr => by
            rcases List.mem_cons.mp hr with rfl | hr
            · exact ⟨eD.trans (congrArg some (lst_snoc vs _)), fD D List.mem_cons_self⟩
            · have nD : r.1 ∉ [D] := fun q => absurd (List.mem_singleton.mp q) (Nat.ne_of_lt (oldD _ (in0 r hr)))
              exact ⟨l5 _ _ nD (N₄ r (List.mem_cons_of_mem _ hr)).1, (N₄ r (List.mem_cons_of_mem _ hr)).2⟩
          dn := at'.dn.more ex ey }
    · have le : vs.length ≤ min xs.size ys.size := by
        refine Classical.byContradiction fun gt => ?_
        have lt : min xs.size ys.size < vs.length := Nat.lt_of_not_le gt
        obtain ⟨_, _, _, _, _, e1, e2, _⟩ := at'.dn _ lt
        have b1 : min xs.size ys.size < xs.size := (Array.getElem?_eq_some_iff.mp e1).1
        have b2 : min xs.size ys.size < ys.size := (Array.getElem?_eq_some_iff.mp e2).1
        omega
      have all : vs.length = min xs.size ys.size := Nat.le_antisymm le (Nat.le_of_not_lt more)
      refine W.done _ _ _ (all ▸ at'.st) fun h₂ tk₂ k₂ => ?_
      have l2 : Leaves [z, TO, i1, i2] h' h₂ := k₂
      obtain ⟨nm₁, ns₁⟩ := at'.ns
      have nz : C ∉ [z, TO, i1, i2] := fun q => absurd (oldC _ (hfp _ (W.sub _ q))) (Nat.lt_irrefl _)
      exact fin D C h₂ tk₂ vs ⟨trivial, l2.frame hw at'.fr, ⟨nm₁, ns₁.at' fun x e => l2 C x nz e⟩, l2.ledger (same1 (P := (· ∉ [z, TO, i1, i2])) offD) at'.nw, at'.dn⟩ (fun p hp => ⟨oldD _ (in0 p hp), Nat.ne_of_lt (oldC _ (in0 p hp))⟩) fDC o.dc all
  exact codeAny_compStart_list (run _) (W.self 0 _ _ _ st₁ (run _))
/-- behind «zip(..)»: all that the comprehension over it wants -/
def ZipSrc (prog : Program) (w : World) (A : Around) (h₀ : Heap) (L : Addr) (m : Str → Option Value) (env : Env) (elt : Expr) (a b : Str) (scope : Scope) (cl : List (Str × Addr)) (y : Str) (Q : Flow → Shared → Prop) (xv : Value) (s₁ : Shared) : Prop :=
  ∃ (z TI TO i1 i2 l1 l2 : Addr) (xs ys : Array Value) (f : Int → Int → Int) (news : List (Addr × Obj)), xv = .ref z ∧ A.handled = none ∧ ZipApart z TI TO i1 i2 l1 l2 ∧ min xs.size ys.size ≤ sizeLine ∧ ZSt z TI TO i1 i2 l1 l2 xs ys 0 s₁.heap ∧
    (∀ b ∈ [z, TI, TO, i1, i2, l1, l2], b < s₁.heap.objs.size) ∧ Fr h₀ L s₁.heap m ∧ News h₀ L s₁.heap news ∧ Free h₀ L [z, TO, i1, i2] ∧ (∀ p ∈ news, p.1 ∉ [z, TO, i1, i2]) ∧
    (∀ (i : Nat) (x y : Value), xs[i]? = some x → ys[i]? = some y → ∃ p q tp tq, x = Value.int p tp ∧ y = Value.int q tq ∧ 0 ≤ p ∧ p ≤ 8 ∧ 0 ≤ q ∧ q ≤ 8) ∧ EltZ prog w A h₀ L m env elt a b scope cl news f ∧
    (∀ D h tk vs, Fr h₀ L h (fun z => if z = y then some (.ref D) else m z) → News h₀ L h ((D, lst vs) :: news) → (∀ p ∈ news, p.1 < D) → vs.length = min xs.size ys.size → ZDone xs ys f vs → Q .next { s₁ with heap := h, toks := tk })
theorem Assign_zip {elt iter : Expr} {a b y : Str} {pa pb tp py : Pos} {kk : Nat} {scope : Scope} {cl : List (Str × Addr)} {pos spos : Pos} {Q : Flow → Shared → Prop} (F₀ : Fr h₀ L s.heap m) (hLe : env.locals = L)
    (hsw : swapsWith (.ListComp elt [⟨.Tuple [.Name a pa, .Name b pb] kk tp, iter, [], 0⟩] scope pos) (some (.Name y py)) spos.line env = pure true) (hclos : closureFor scope env = pure cl)
    (hcell : ∀ z ∈ scope.names, z.2 ≠ .cell) (hkind : scope.kind = .function) (hnames : ∀ z ∈ scope.names, z.2 = .local → scope.names.lookup z.1 = some .local)
    (hxa : scope.names.lookup a = some .local) (hxb : scope.names.lookup b = some .local) (hab : ¬ a = b) (hy : env.kindOf y = some .local)
    (hp : (env.scope.kind == .class || (env.scope.kind == .module && env.locals != env.globals)) = false)
    (h : wpAny (model prog w) A (eval iter env) (ZipSrc prog w A h₀ L m env elt a b scope cl y Q) E s) (hs : ∀ x, foldedSetIterable iter env x = pure x := by intro _; rfl) :
    wpAny (model prog w) A (exec (.Assign [.Name y py] (.ListComp elt [⟨.Tuple [.Name a pa, .Name b pb] kk tp, iter, [], 0⟩] scope pos) spos) env) Q E s := by
  rw [exec_Assign_Name_used _ _ _ _ hsw]
  refine wpAny_bind (wpAny_standAt (wpAny_bind (wpAny_bind (wpAny_mono (wpAny_comprehension_free (Q := fun _ u => Q .next u) rfl hs hclos hkind hnames (wpAny_mono h ?src fun _ _ x => x)) (fun _ _ q => wpAny_pure (wpAny_pure q)) fun _ _ x => x))))
  rintro xv s₁ ⟨z, TI, TO, i1, i2, l1, l2, xs, ys, f, news, rfl, hh, ap, hsz, st, hfp, F, N, hw, off, hints, helt, fin⟩
  refine wpAny_pyIter_zip st.1 (zip_comp hh ap hsz st hcell hkind hxa hxb hab hfp F N hw off hints helt ?_)
  intro D C h' tk vs at' apart free dc len
  obtain ⟨nm, ns⟩ := at'.ns
  have cL : C ≠ env.locals := hLe ▸ (free C (List.mem_cons_of_mem _ List.mem_cons_self)).1
  have fL : h₀.get? env.locals = none := hLe ▸ Heap.get?_none_of_le at'.fr.above
  refine wpAny_assign_Name (wpAny_storeName_local hy (hLe ▸ at'.fr.ns) (fun h₂ ns₂ same₂ => ⟨nm, ns.sameBut same₂ cL, fun h₃ same₃ => ?_⟩) hp)
  have F₂ : Fr h₀ L h₂ (fun z => if z = y then some (.ref D) else m z) := {
    ns := hLe ▸ ns₂
    keep := fun b x e => (same₂.2 b fun q => by have w := fL; rw [← q, e] at w; cases w).trans (at'.fr.keep b x e)
    above := at'.fr.above }
  have fC := free C (List.mem_cons_of_mem _ List.mem_cons_self)
  refine fin D h₃ _ vs (F₂.change same₃ fC.1 fC.2) (fun p hp => ⟨?_, (at'.nw p hp).2⟩) (fun p hp => (apart p hp).1) len at'.dn
  have pL : p.1 ≠ env.locals := hLe ▸ (at'.nw p hp).2.1
  have pC : p.1 ≠ C := by
    rcases List.mem_cons.mp hp with rfl | hp
    · exact dc
    · exact (apart p hp).2
  exact (same₃.2 _ pC).trans ((same₂.2 _ pL).trans (at'.nw p hp).1)
/-- «zip(..)» of two lists of three ints each -/
theorem zip_src {elt : Expr} {a b y : Str} {scope : Scope} {cl : List (Str × Addr)} {Q : Flow → Shared → Prop} {l1 l2 : Addr} {n1 n2 : Nat} {x0 x1 x2 y0 y1 y2 : Int} {t0 t1 t2 u0 u1 u2 : Tok} {news : List (Addr × Obj)} (f : Int → Int → Int)
    (hh : A.handled = none) (F : Fr h₀ L s.heap m) (N : News h₀ L s.heap news) (hm1 : (l1, W.listOf #[.int x0 t0, .int x1 t1, .int x2 t2] n1) ∈ news) (hm2 : (l2, W.listOf #[.int y0 u0, .int y1 u1, .int y2 u2] n2) ∈ news)
    (hx : (0 ≤ x0 ∧ x0 ≤ 8) ∧ (0 ≤ x1 ∧ x1 ≤ 8) ∧ (0 ≤ x2 ∧ x2 ≤ 8)) (hy : (0 ≤ y0 ∧ y0 ≤ 8) ∧ (0 ≤ y1 ∧ y1 ≤ 8) ∧ (0 ≤ y2 ∧ y2 ≤ 8))
    (helt : EltZ prog w A h₀ L m env elt a b scope cl news f)
    (hfin : ∀ D h tk v0 v1 v2, Fr h₀ L h (fun z => if z = y then some (.ref D) else m z) → News h₀ L h ((D, W.listOf #[.int (f x0 y0) v0, .int (f x1 y1) v1, .int (f x2 y2) v2] 3) :: news) → (∀ p ∈ news, p.1 < D) → Q .next { s with heap := h, toks := tk }) :
    wpAny (model prog w) A (call (.type "zip") [.ref l1, .ref l2]) (ZipSrc prog w A h₀ L m env elt a b scope cl y Q) E s := by
  have o1 := Heap.lt_size (N _ hm1).1
  have o2 := Heap.lt_size (N _ hm2).1
  have isl1 : s.heap.IsList l1 #[.int x0 t0, .int x1 t1, .int x2 t2] := ⟨_, (N _ hm1).1, rfl, n1, rfl⟩
  have isl2 : s.heap.IsList l2 #[.int y0 u0, .int y1 u1, .int y2 u2] := ⟨_, (N _ hm2).1, rfl, n2, rfl⟩
  have four : ∀ {c : Nat}, c ∈ [s.heap.objs.size + 4, s.heap.objs.size + 3, s.heap.objs.size, s.heap.objs.size + 1] → s.heap.objs.size ≤ c := fun {c} hc => by
    simp only [List.mem_cons, List.not_mem_nil, or_false] at hc
    omega
  refine call_zip_2 isl1 isl2 fun h' isz isTI isTO it1 it2 sz keep => ⟨_, _, _, _, _, l1, l2, _, _, f, news, rfl, hh, ktu_apart _ _ _ o1 o2, ?_, ⟨isz, isTI, ⟨_, _, isTO⟩, it1, it2, isl1.at fun x e => keep l1 x e, isl2.at fun x e => keep l2 x e⟩, ?_, F.keeps keep, N.grown keep, ?_, ?_, ?_, helt, ?_⟩
  · show (3 : Nat) ≤ _
    rw [sizeLine_eq]; omega
  · intro c hc
    show @LT.lt Nat _ c h'.objs.size
    have hc' : c ∈ [s.heap.objs.size + 4, s.heap.objs.size + 2, s.heap.objs.size + 3, s.heap.objs.size, s.heap.objs.size + 1, l1, l2] := hc
    have p1 : @LT.lt Nat _ l1 s.heap.objs.size := o1
    have p2 : @LT.lt Nat _ l2 s.heap.objs.size := o2
    rw [sz]
    simp only [List.mem_cons, List.not_mem_nil, or_false] at hc'
    generalize s.heap.objs.size = n at *
    rcases hc' with e | e | e | e | e | e | e <;> rw [e] <;> first | exact Nat.lt_succ_self _ | exact Nat.add_lt_add_left (by decide) _ | exact Nat.lt_add_of_pos_right (by decide) | exact Nat.lt_add_right _ p1 | exact Nat.lt_add_right _ p2
  · intro c hc
    have top : s.heap.objs.size ≤ c := four hc
    exact ⟨Ne.symm (Nat.ne_of_lt (Nat.lt_of_lt_of_le F.ns.lt top)), base_none F top⟩
  · intro p hp hc
    exact absurd (Heap.lt_size (N p hp).1) (Nat.not_lt.mpr (four hc))
  · intro i u v eu ev
    match i, eu, ev with
    | 0, eu, ev => cases eu; cases ev; exact ⟨_, _, _, _, rfl, rfl, hx.1.1, hx.1.2, hy.1.1, hy.1.2⟩
    | 1, eu, ev => cases eu; cases ev; exact ⟨_, _, _, _, rfl, rfl, hx.2.1.1, hx.2.1.2, hy.2.1.1, hy.2.1.2⟩
    | 2, eu, ev => cases eu; cases ev; exact ⟨_, _, _, _, rfl, rfl, hx.2.2.1, hx.2.2.2, hy.2.2.1, hy.2.2.2⟩
    | i + 3, eu, _ => simp at eu
  · intro D h₂ tk vs F' N' lt len dn
    have l3 : vs.length = 3 := len
    match vs, l3, dn, N' with
    | [v0, v1, v2], _, dn, N' =>
      obtain ⟨_, _, _, _, k0, a1, a2, a3⟩ := dn 0 (by show 0 < 3; decide)
      obtain ⟨_, _, _, _, k1, b1, b2, b3⟩ := dn 1 (by show 1 < 3; decide)
      obtain ⟨_, _, _, _, k2, c1, c2, c3⟩ := dn 2 (by show 2 < 3; decide)
      cases a1; cases a2; cases b1; cases b2; cases c1; cases c2
      cases a3; cases b3; cases c3
      exact hfin D h₂ tk k0 k1 k2 F' N' lt
end
end Mine
end ZipPart
section GonePart
open PySem PySem.W PyProof.Rows PySem.Spec PySem.Calls PySem.Flt
namespace Mine
local macro_rules | `(tactic| walk_at "binaryOp Div int float") => `(tactic| (k_dflt (refine div_if_nz (by assumption) (by first | assumption | decide +kernel) ?_); try dsimp only))
local macro_rules | `(tactic| walk_at "binaryOp Mult int float") => `(tactic| ((with_reducible refine mul_if_ni (by assumption) ?_); try dsimp only))
local macro_rules | `(tactic| walk_at "binaryOp Mult float int") => `(tactic| ((with_reducible refine mul_fi_ni (by assumption) ?_); try dsimp only))
local macro_rules | `(tactic| walk_at "binaryOp Mod float float") => `(tactic| ((with_reducible refine mod_nz (by first | assumption | decide +kernel) ?_); try dsimp only))
local macro_rules | `(tactic| walk_at "exec Assign cons ListComp") => `(tactic| (k_here; k_dflt (refine Assign_zip (F₀ := by k_asm) (by rfl) (by with_unfolding_all rfl) (by with_unfolding_all rfl) (by decide) (by rfl) (by decide) (by rfl) (by rfl) (by decide) (by rfl) (by rfl) ?_)))
local macro_rules | `(tactic| walk_at "call type:zip") => `(tactic| k_extra "mine zip")
local macro_rules | `(tactic| walk_at "call ref") => `(tactic| k_extra "mine call")
local macro_rules | `(tactic| k_mem) => `(tactic| assumption)
local macro_rules | `(tactic| cell_enter) => `(tactic| (refine' code_defC ?k1 ?k2 ?k3 ?k4 ?k5 ?kA ?kF ?kK ?k6 ?k7 ?k8 ?k9 ?kB ?kD ?_ ?c2 ?c3 ?c4; (case kA => exact rfl); (case kF => exact rfl); (case kK => assumption); (case k1 => k_asm); (case k2 => k_asm); (case k3 => k_asm); (case k4 => k_asm); (case k5 => k_asm); (case k6 => k_is); (case k7 => k_is); (case k8 => ktr_room); (case k9 => exact BindsTo.of_eq rfl); (case kB => exact rfl); (case kD => decide +kernel); (case c2 => exact rfl); (case c3 => exact rfl); (case c4 => exact rfl); k_whole; intro g' L' h' tk' cells' FG' F' N' Y' B' X' T' l1; (try k_lt l1); k_cells Y'; (try simp only [List.cons_append, List.nil_append] at N'); (try dsimp only); (try k_lift B'); (try k_fold)))
abbrev partf (f : Int) (s : Int) : UInt64 := Float64.div (Float64.ofInt f) (Float64.mul f8 (Float64.ofInt s))
def goneF (way : Int) (H start : UInt64) : UInt64 := (Float64.divmod (Float64.mul (Float64.ofInt way) (Float64.sub H start)) f1).2
structure HueOk (x y z : UInt64) : Prop where
  ne : (Float64.cmp (min3 x y z) (max3 x y z) == some .eq) = false
  z1 : ¬ Float64.isZero (max3 x y z) = true
  z2 : ¬ Float64.isZero (Float64.sub (max3 x y z) (min3 x y z)) = true
set_option maxRecDepth 100000 in
set_option maxHeartbeats 1000000 in
theorem gone_c {w : World} {mean : ExcName → Option Value} {mg mb : Str → Option Value} {o t : Addr} {a0 a1 a2 b0 b1 b2 : Int} {t0 t1 t2 u0 u1 u2 t3 t4 t5 t6 : Tok} {n1 n2 : Nat} {steps step way : Int} {start : UInt64} 
   {dp un : Nat} {gd : Option (List Code)} {cn : Str} {cs : Scope} {a : Addr} {ccd : Value} {cl : List (Str × Addr)} {outer : List Env} {A₀ : Around} {base h₀ : Heap} {L : Addr} {m : Str → Option Value} {s : Shared} {Q E : Value → Shared → Prop} {news : List (Addr × Obj)} 
   (ha0 : 0 ≤ a0 ∧ a0 ≤ 8) (ha1 : 0 ≤ a1 ∧ a1 ≤ 8) (ha2 : 0 ≤ a2 ∧ a2 ≤ 8) (hb0 : 0 ≤ b0 ∧ b0 ≤ 8) (hb1 : 0 ≤ b1 ∧ b1 ≤ 8) (hb2 : 0 ≤ b2 ∧ b2 ≤ 8) (hst : 4 ≤ steps ∧ steps ≤ 16) (hsp : 0 ≤ step ∧ step ≤ steps)
   (hi0 : ¬ Float64.isInf (Float64.ofInt ((steps - step) * a0 + step * b0)) = true) (hi1 : ¬ Float64.isInf (Float64.ofInt ((steps - step) * a1 + step * b1)) = true) (hi2 : ¬ Float64.isInf (Float64.ofInt ((steps - step) * a2 + step * b2)) = true)
   (his : ¬ Float64.isInf (Float64.ofInt steps) = true) (hiw : ¬ Float64.isInf (Float64.ofInt way) = true) (hz : ¬ Float64.isZero (Float64.mul f8 (Float64.ofInt steps)) = true)
   (hH : HueOk (partf ((steps - step) * a0 + step * b0) steps) (partf ((steps - step) * a1 + step * b1) steps) (partf ((steps - step) * a2 + step * b2) steps))
   (B : Below A₀ base outer h₀) (F : Fr h₀ L s.heap m) (X : (hd.heap_39 w.params).In h₀) (N : News h₀ L s.heap news) (hm1 : (o, listOf #[.int a0 t0, .int a1 t1, .int a2 t2] n1) ∈ news) (hm2 : (t, listOf #[.int b0 u0, .int b1 u1, .int b2 u2] n2) ∈ news) (T : Top topProg LS mean mg mb h₀) (hk : cs.kind = .function)
   (hdp : dp + 2 < recursionLimit) (hun : un + 16 < cLine)
   (hret : ∀ (t' : Tok) (h' : Heap) (tk' : Nat), Fr h₀ L h' m → News h₀ L h' news →
     Q (.float (goneF way (hueF (partf ((steps - step) * a0 + step * b0) steps) (partf ((steps - step) * a1 + step * b1) steps) (partf ((steps - step) * a2 + step * b2) steps)) start) t') { s with heap := h', toks := tk' }) : 
   wpAny (model Challenge.rw_pe0103_01.row.prog w) (ktrTop dp un gd cn cs L a ccd cl outer) (call (.ref 65) [.ref o, .ref t, .int steps t3, .int step t4, .float start t5, .int way t6]) Q E s := by
  revert X; k_fill; intro X
  k_with_none
  k_with "mine zip" => (
    k_dflt (refine zip_src (fun p q => (steps - step) * p + step * q) rfl (by k_asm) (by k_asm) (by k_mem) (by k_mem) ⟨ha0, ha1, ha2⟩ ⟨hb0, hb1, hb2⟩ ?_ ?_)
    · unfold EltZ
      intro p q tp tq s₂ h tk C oC m₂ Q' E' hp0 hp8 hq0 hq8 hC' hx' hy' F' N' off' hQ'
      k_steps
      exact hQ' _ _
    intro D' h' tk' v0 v1 v2 F' N' l1
    (try k_lt l1)
    (try dsimp only))
  k_with "mine call" => (
    k_dflt (refine' hsv_c hH.ne hH.z1 hH.z2 ?k1 ?k2 ?k3 ?k4 ?k5 ?k6 ?k7 ?k8 ?_)
    (case k1 => k_asm)
    (case k2 => k_asm)
    (case k3 => k_asm)
    (case k4 => k_asm)
    (case k5 => k_asm)
    (case k6 => rfl)
    (case k7 => ktr_room)
    (case k8 => ktr_units)
    intro xa' t' s' v' h' tk' F' N' l1
    (try k_lt l1)
    (try dsimp only)
    (try k_fold))
  refine wpAny_call ?_
  k_dflt cell_enter
  k_steps
  exact hret _ _ _ (by k_asm) (cb_drop (by assumption) (fun p hp => by repeat (first | exact hp | apply List.Mem.tail)))
end Mine
end GonePart
section CrossPart
open PySem PySem.W PyProof.Rows PySem.Spec PySem.Calls PySem.Flt
namespace Mine
local macro_rules | `(tactic| k_mem) => `(tactic| assumption)
local macro_rules | `(tactic| walk_at "subscriptTail Name Constant ref int") => `(tactic| (k_here; (with_reducible first | refine' item_0 ?k1 ?k2 ?_ ?k6 | refine' item_1 ?k1 ?k2 ?_ ?k6 | refine' item_2 ?k1 ?k2 ?_ ?k6); (case k1 => k_asm); (case k2 => k_mem); (case k6 => with_unfolding_all rfl); k_whole))
def crossI (a0 a1 a2 b0 b1 b2 : Int) : Int := (a0 - a2) * (b1 - b2) - (a1 - a2) * (b0 - b2)
set_option maxRecDepth 100000 in
set_option maxHeartbeats 1000000 in
theorem cross_c {w : World} {mean : ExcName → Option Value} {mg mb : Str → Option Value} {o t : Addr} {a0 a1 a2 b0 b1 b2 : Int} {t0 t1 t2 u0 u1 u2 : Tok} {n1 n2 : Nat} 
   {dp un : Nat} {gd : Option (List Code)} {cn : Str} {cs : Scope} {a : Addr} {ccd : Value} {cl : List (Str × Addr)} {outer : List Env} {A₀ : Around} {base h₀ : Heap} {L : Addr} {m : Str → Option Value} {s : Shared} {Q E : Value → Shared → Prop} {news : List (Addr × Obj)}
   (ha0 : 0 ≤ a0 ∧ a0 ≤ 16) (ha1 : 0 ≤ a1 ∧ a1 ≤ 16) (ha2 : 0 ≤ a2 ∧ a2 ≤ 16) (hb0 : 0 ≤ b0 ∧ b0 ≤ 16) (hb1 : 0 ≤ b1 ∧ b1 ≤ 16) (hb2 : 0 ≤ b2 ∧ b2 ≤ 16)
   (B : Below A₀ base outer h₀) (F : Fr h₀ L s.heap m) (X : (hd.heap_39 w.params).In h₀) (N : News h₀ L s.heap news) (hm1 : (o, listOf #[.int a0 t0, .int a1 t1, .int a2 t2] n1) ∈ news) (hm2 : (t, listOf #[.int b0 u0, .int b1 u1, .int b2 u2] n2) ∈ news) (T : Top topProg LS mean mg mb h₀) (hk : cs.kind = .function)
   (hdp : dp + 1 < recursionLimit) (hun : un + 8 < cLine)
   (hret : ∀ (t' : Tok) (h' : Heap) (tk' : Nat), Fr h₀ L h' m → News h₀ L h' news → Q (.int (crossI a0 a1 a2 b0 b1 b2) t') { s with heap := h', toks := tk' }) : 
   wpAny (model Challenge.rw_pe0103_01.row.prog w) (ktrTop dp un gd cn cs L a ccd cl outer) (call (.ref 60) [.ref o, .ref t]) Q E s := by
  revert X; k_fill; intro X
  k_with_none
  refine wpAny_call ?_
  k_dflt cell_enter
  k_steps
  exact hret _ _ _ (by k_asm) (by k_asm)
end Mine
end CrossPart
section BisPart
open PySem PySem.W PyProof.Rows PySem.Spec PySem.Calls PySem.Flt
namespace Mine
def KeyOk (w : World) (mean : ExcName → Option Value) (mg mb : Str → Option Value) (lam : Addr) (news : List (Addr × Obj)) (n : Int) (G : Int → UInt64) : Prop :=
  ∀ (dp un : Nat) (gd : Option (List Code)) (cn : Str) (cs : Scope) (a : Addr) (ccd : Value) (cl : List (Str × Addr)) (outer : List Env) (A₀ : Around) (base h₀ : Heap) (L : Addr) (m : Str → Option Value) (s : Shared) (Q E : Value → Shared → Prop) (i : Int) (tk : Tok),
    Below A₀ base outer h₀ → Fr h₀ L s.heap m → (hd.heap_39 w.params).In h₀ → News h₀ L s.heap news → Top topProg LS mean mg mb h₀ → cs.kind = .function → dp + 3 < recursionLimit → un + 24 < cLine → 0 ≤ i → i < n →
    (∀ (t' : Tok) (h' : Heap) (tk' : Nat), Fr h₀ L h' m → News h₀ L h' news → Q (.float (G i) t') { s with heap := h', toks := tk' }) →
    wpAny (model Challenge.rw_pe0103_01.row.prog w) (ktrTop dp un gd cn cs L a ccd cl outer) (call (.ref lam) [.int i tk]) Q E s
local macro_rules | `(tactic| k_mem) => `(tactic| assumption)
local macro_rules | `(tactic| walk_at "exec While Compare cons nil") => `(tactic| k_extra "mine while")
local macro_rules | `(tactic| cell_enter) => `(tactic| (refine' code_def ?k1 ?k2 ?k3 ?k4 ?k5 ?kA ?kF ?kK ?k6 ?k7 ?k8 ?k9 ?kB ?_ ?c2 ?c3 ?c4 ?c5; (case kA => exact rfl); (case kF => exact rfl); (case kK => assumption); (case k1 => k_asm); (case k2 => k_asm); (case k3 => k_asm); (case k4 => k_asm); (case k5 => k_asm); (case k6 => k_is); (case k7 => k_is); (case k8 => ktr_room); (case k9 => first | exact BindsTo.of_eq rfl | exact binds_K (by k_in) rfl (by k_is) rfl rfl rfl | (refine' kp_binds ?kx ?ke; (case kx => k_in); (case ke => exact fun _ => rfl))); (case c5 => decide); (case kB => exact locs rfl); (case c2 => exact rfl); (case c3 => exact rfl); (case c4 => exact rfl); k_whole; intro g' L' h' FG' F' N' B' X' T'; (try dsimp only); (try k_lift B'); (try k_fold)))
local macro_rules | `(tactic| walk_at "call builtin:len") => `(tactic| k_extra "mine len")
local macro_rules | `(tactic| walk_at "subscriptTail Name Name ref int") => `(tactic| k_extra "mine item")
local macro_rules | `(tactic| walk_at "callWith ref nil nil") => `(tactic| k_extra "mine callWith")
local macro_rules | `(tactic| walk_at "call ref") => `(tactic| k_extra "mine call")
local macro_rules | `(tactic| walk_at "WhileStep") => `(tactic| k_extra "mine step")
abbrev mapB (row lam : Addr) (wish : UInt64) (t0 : Tok) (lo hi : Int) (tl th : Tok) (vm : Option Value) : Str → Option Value := fun y =>
  if y = Str.ofString "lo" then some (.int lo tl) else if y = Str.ofString "hi" then some (.int hi th) else if y = Str.ofString "mid" then vm else
  if y = Str.ofString "a" then some (.ref row) else if y = Str.ofString "x" then some (.float wish t0) else if y = Str.ofString "key" then some (.ref lam) else none
theorem mapB_init {row lam : Addr} {wish : UInt64} {t0 tl th : Tok} {n : Int} :
    (fun y => if y = Str.ofString "hi" then some (Value.int n th) else List.lookup y [(Str.ofString "key", Value.ref lam), (Str.ofString "hi", Value.none), (Str.ofString "lo", Value.int 0 tl), (Str.ofString "x", Value.float wish t0), (Str.ofString "a", Value.ref row)]) = mapB row lam wish t0 0 n tl th none := by
  funext y
  by_cases h1 : y = Str.ofString "lo"
  · subst h1; rfl
  by_cases h2 : y = Str.ofString "hi"
  · subst h2; rfl
  by_cases h3 : y = Str.ofString "mid"
  · subst h3; rfl
  by_cases h4 : y = Str.ofString "a"
  · subst h4; rfl
  by_cases h5 : y = Str.ofString "x"
  · subst h5; rfl
  by_cases h6 : y = Str.ofString "key"
  · subst h6; rfl
  simp only [mapB, h1, h2, h3, h4, h5, h6, if_false, List.lookup, beq_eq_false_iff_ne.mpr h1, beq_eq_false_iff_ne.mpr h2, beq_eq_false_iff_ne.mpr h4, beq_eq_false_iff_ne.mpr h5, beq_eq_false_iff_ne.mpr h6]
theorem mapB_lo {row lam : Addr} {wish : UInt64} {t0 tl th tl' : Tok} {lo hi lo' : Int} {vm vm' : Option Value} :
    (fun y => if y = Str.ofString "lo" then some (Value.int lo' tl') else if y = Str.ofString "mid" then vm' else mapB row lam wish t0 lo hi tl th vm y) = mapB row lam wish t0 lo' hi tl' th vm' := by
  funext y
  by_cases h1 : y = Str.ofString "lo"
  · subst h1; rfl
  by_cases h2 : y = Str.ofString "hi"
  · subst h2; rfl
  by_cases h3 : y = Str.ofString "mid"
  · subst h3; rfl
  simp only [mapB, h1, h2, h3, if_false]
theorem mapB_hi {row lam : Addr} {wish : UInt64} {t0 tl th th' : Tok} {lo hi hi' : Int} {vm vm' : Option Value} :
    (fun y => if y = Str.ofString "hi" then some (Value.int hi' th') else if y = Str.ofString "mid" then vm' else mapB row lam wish t0 lo hi tl th vm y) = mapB row lam wish t0 lo hi' tl th' vm' := by
  funext y
  by_cases h1 : y = Str.ofString "lo"
  · subst h1; rfl
  by_cases h2 : y = Str.ofString "hi"
  · subst h2; rfl
  by_cases h3 : y = Str.ofString "mid"
  · subst h3; rfl
  simp only [mapB, h1, h2, h3, if_false]
def JB (row lam : Addr) (wish : UInt64) (t0 : Tok) (n r : Int) (news : List (Addr × Obj)) (k : Nat) (m₁ : Str → Option Value) (news₁ : List (Addr × Obj)) : Prop :=
  news₁ = news ∧ ∃ lo hi tl th vm, m₁ = mapB row lam wish t0 lo hi tl th vm ∧ 0 ≤ lo ∧ lo ≤ r ∧ r ≤ hi ∧ hi ≤ n ∧ k = (hi - lo).toNat
theorem JB.intro {row lam : Addr} {wish : UInt64} {t0 tl th : Tok} {n r lo hi : Int} {news : List (Addr × Obj)} {vm : Option Value} {m₁ : Str → Option Value} (e : m₁ = mapB row lam wish t0 lo hi tl th vm) (h0 : 0 ≤ lo) (h1 : lo ≤ r) (h2 : r ≤ hi) (h3 : hi ≤ n) :
    JB row lam wish t0 n r news (hi - lo).toNat m₁ news := ⟨rfl, lo, hi, tl, th, vm, e, h0, h1, h2, h3, rfl⟩
theorem mid_b {lo hi : Int} (h0 : 0 ≤ lo) (h : lo < hi) : lo ≤ (lo + hi).fdiv 2 ∧ (lo + hi).fdiv 2 < hi := by
  rw [Int.fdiv_eq_ediv_of_nonneg _ (by omega)]; omega
set_option maxRecDepth 100000 in
set_option maxHeartbeats 1000000 in
theorem bl_c {w : World} {mean : ExcName → Option Value} {mg mb : Str → Option Value} {row lam : Addr} {vs : List Value} {nr : Nat} {n r : Int} {G : Int → UInt64} {wish : UInt64} {t0 : Tok} {oc : Value} {od : Option Addr} {fd : FuncData} {sl : Array (Option Value)}
   {dp un : Nat} {gd : Option (List Code)} {cn : Str} {cs : Scope} {a : Addr} {ccd : Value} {cl : List (Str × Addr)} {outer : List Env} {A₀ : Around} {base h₀ : Heap} {L : Addr} {m : Str → Option Value} {s : Shared} {Q E : Value → Shared → Prop} {news : List (Addr × Obj)}
   (hn : 0 ≤ n ∧ n ≤ 17) (hr : 0 ≤ r ∧ r ≤ n) (hlen : (vs.length : Int) = n) (hvs : ∀ i : Nat, (i : Int) < n → ∃ t, vs[i]? = some (.int (i : Int) t)) (hcmp : ∀ i, 0 ≤ i → i < n → (Float64.cmp (G i) wish == some .lt) = decide (i < r))
   (B : Below A₀ base outer h₀) (F : Fr h₀ L s.heap m) (X : (hd.heap_39 w.params).In h₀) (N : News h₀ L s.heap news) (hrow : (row, listOf vs.toArray nr) ∈ news) (hlam : (lam, (⟨oc, od, .func fd, sl⟩ : Obj)) ∈ news) (hkey : KeyOk w mean mg mb lam news n G) (T : Top topProg LS mean mg mb h₀) (hk : cs.kind = .function)
   (hdp : dp + 4 < recursionLimit) (hun : un + 32 < cLine)
   (hret : ∀ (t' : Tok) (h' : Heap) (tk' : Nat), Fr h₀ L h' m → News h₀ L h' news → Q (.int r t') { s with heap := h', toks := tk' }) : 
   wpAny (model Challenge.rw_pe0103_01.row.prog w) (ktrTop dp un gd cn cs L a ccd cl outer) (call (.ref 32) [.ref row, .float wish t0] [(Str.ofString "key", .ref lam)]) Q E s := by
  revert X; k_fill; intro X
  k_with_none
  k_with "mine len" => (k_dflt (refine len_m (by k_asm) (by k_mem) (n := n) (by simpa using hlen) (by omega) ?_); intro tok9 tk9; (try dsimp only))
  k_with "mine while" => (refine Hold.mk ?_)
  refine wpAny_call ?_
  k_dflt cell_enter
  k_steps
  refine Hold.out ?_
  refine While_inv (JB row lam wish t0 n r news) (n₀ := (n - 0).toNat) (by k_asm) (by k_asm) ?_ ?_
  · exact JB.intro mapB_init (by omega) (by omega) (by omega) (by omega)
  · intro k₁ m₁ news₁ h₁ tk₁ F₁ N₁ hJ
    obtain ⟨rfl, lo, hi, tl, th, vm, rfl, hlo0, hlor, hrhi, hhin, rfl⟩ := hJ
    k_with "mine callWith" => (k_dflt (refine' callWith_F ?k1 ?_; (case k1 => exact FnAt.of (by k_asm) (by k_mem)); k_whole))
    k_with "mine item" => (refine Hold.mk ?_)
    k_with "mine call" => (refine Hold.mk ?_)
    k_with "mine step" => (refine Hold.mk ?_)
    k_steps
    · have hlt : lo < hi := by first | assumption | (apply of_decide_eq_true; assumption)
      obtain ⟨hm1, hm2⟩ := mid_b hlo0 hlt
      refine Hold.out ?_
      refine item_row (by k_asm) (by k_mem) hvs (by omega) (by omega) (by omega) ?_
      intro tit
      k_steps
      refine Hold.out ?_
      refine hkey _ _ _ _ _ _ _ _ _ _ _ _ _ _ _ _ _ _ _ (by k_asm) (by k_asm) (by k_asm) (by k_asm) (by k_asm) rfl (by ktr_room) (by ktr_units) (by omega) (by omega) ?_
      intro t9 h9 tk9 F9 N9
      (try dsimp only)
      have hc := hcmp ((lo + hi).fdiv 2) (by omega) (by omega)
      k_steps
      · have h1 : (Float64.cmp (G ((lo + hi).fdiv 2)) wish == some .lt) = true := by assumption
        rw [h1] at hc
        have h2 : (lo + hi).fdiv 2 < r := of_decide_eq_true hc.symm
        exact WhileStep.intro (by k_asm) (by k_asm) (by omega) (JB.intro mapB_lo (by omega) (by omega) (by omega) (by omega))
      · have h1 : (Float64.cmp (G ((lo + hi).fdiv 2)) wish == some .lt) = false := by assumption
        rw [h1] at hc
        have h2 : ¬ (lo + hi).fdiv 2 < r := of_decide_eq_false hc.symm
        exact WhileStep.intro (by k_asm) (by k_asm) (by omega) (JB.intro mapB_hi (by omega) (by omega) (by omega) (by omega))
    · have hlt : ¬ lo < hi := by first | assumption | (apply of_decide_eq_false; assumption)
      have e : lo = r := by omega
      subst e
      exact hret _ _ _ (by k_asm) (by k_asm)
set_option maxRecDepth 100000 in
set_option maxHeartbeats 1000000 in
theorem br_c {w : World} {mean : ExcName → Option Value} {mg mb : Str → Option Value} {row lam : Addr} {vs : List Value} {nr : Nat} {n r : Int} {G : Int → UInt64} {wish : UInt64} {t0 : Tok} {oc : Value} {od : Option Addr} {fd : FuncData} {sl : Array (Option Value)}
   {dp un : Nat} {gd : Option (List Code)} {cn : Str} {cs : Scope} {a : Addr} {ccd : Value} {cl : List (Str × Addr)} {outer : List Env} {A₀ : Around} {base h₀ : Heap} {L : Addr} {m : Str → Option Value} {s : Shared} {Q E : Value → Shared → Prop} {news : List (Addr × Obj)}
   (hn : 0 ≤ n ∧ n ≤ 17) (hr : 0 ≤ r ∧ r ≤ n) (hlen : (vs.length : Int) = n) (hvs : ∀ i : Nat, (i : Int) < n → ∃ t, vs[i]? = some (.int (i : Int) t)) (hcmp : ∀ i, 0 ≤ i → i < n → (Float64.cmp wish (G i) == some .lt) = decide (r ≤ i))
   (B : Below A₀ base outer h₀) (F : Fr h₀ L s.heap m) (X : (hd.heap_39 w.params).In h₀) (N : News h₀ L s.heap news) (hrow : (row, listOf vs.toArray nr) ∈ news) (hlam : (lam, (⟨oc, od, .func fd, sl⟩ : Obj)) ∈ news) (hkey : KeyOk w mean mg mb lam news n G) (T : Top topProg LS mean mg mb h₀) (hk : cs.kind = .function)
   (hdp : dp + 4 < recursionLimit) (hun : un + 32 < cLine)
   (hret : ∀ (t' : Tok) (h' : Heap) (tk' : Nat), Fr h₀ L h' m → News h₀ L h' news → Q (.int r t') { s with heap := h', toks := tk' }) : 
   wpAny (model Challenge.rw_pe0103_01.row.prog w) (ktrTop dp un gd cn cs L a ccd cl outer) (call (.ref 23) [.ref row, .float wish t0] [(Str.ofString "key", .ref lam)]) Q E s := by
  revert X; k_fill; intro X
  k_with_none
  k_with "mine len" => (k_dflt (refine len_m (by k_asm) (by k_mem) (n := n) (by simpa using hlen) (by omega) ?_); intro tok9 tk9; (try dsimp only))
  k_with "mine while" => (refine Hold.mk ?_)
  refine wpAny_call ?_
  k_dflt cell_enter
  k_steps
  refine Hold.out ?_
  refine While_inv (JB row lam wish t0 n r news) (n₀ := (n - 0).toNat) (by k_asm) (by k_asm) ?_ ?_
  · exact JB.intro mapB_init (by omega) (by omega) (by omega) (by omega)
  · intro k₁ m₁ news₁ h₁ tk₁ F₁ N₁ hJ
    obtain ⟨rfl, lo, hi, tl, th, vm, rfl, hlo0, hlor, hrhi, hhin, rfl⟩ := hJ
    k_with "mine callWith" => (k_dflt (refine' callWith_F ?k1 ?_; (case k1 => exact FnAt.of (by k_asm) (by k_mem)); k_whole))
    k_with "mine item" => (refine Hold.mk ?_)
    k_with "mine call" => (refine Hold.mk ?_)
    k_with "mine step" => (refine Hold.mk ?_)
    k_steps
    · have hlt : lo < hi := by first | assumption | (apply of_decide_eq_true; assumption)
      obtain ⟨hm1, hm2⟩ := mid_b hlo0 hlt
      refine Hold.out ?_
      refine item_row (by k_asm) (by k_mem) hvs (by omega) (by omega) (by omega) ?_
      intro tit
      k_steps
      refine Hold.out ?_
      refine hkey _ _ _ _ _ _ _ _ _ _ _ _ _ _ _ _ _ _ _ (by k_asm) (by k_asm) (by k_asm) (by k_asm) (by k_asm) rfl (by ktr_room) (by ktr_units) (by omega) (by omega) ?_
      intro t9 h9 tk9 F9 N9
      (try dsimp only)
      have hc := hcmp ((lo + hi).fdiv 2) (by omega) (by omega)
      k_steps
      · have h1 : (Float64.cmp wish (G ((lo + hi).fdiv 2)) == some .lt) = true := by assumption
        rw [h1] at hc
        have h2 : r ≤ (lo + hi).fdiv 2 := of_decide_eq_true hc.symm
        exact WhileStep.intro (by k_asm) (by k_asm) (by omega) (JB.intro mapB_hi (by omega) (by omega) (by omega) (by omega))
      · have h1 : (Float64.cmp wish (G ((lo + hi).fdiv 2)) == some .lt) = false := by assumption
        rw [h1] at hc
        have h2 : ¬ r ≤ (lo + hi).fdiv 2 := of_decide_eq_false hc.symm
        exact WhileStep.intro (by k_asm) (by k_asm) (by omega) (JB.intro mapB_lo (by omega) (by omega) (by omega) (by omega))
    · have hlt : ¬ lo < hi := by first | assumption | (apply of_decide_eq_false; assumption)
      have e : lo = r := by omega
      subst e
      exact hret _ _ _ (by k_asm) (by k_asm)
end Mine
end BisPart
section LamPart
open PySem PySem.W PyProof.Rows PySem.Spec PySem.Calls PySem.Flt
namespace Mine
def TabOk (q : Str) (ps : Array Value) (rest : List (Addr × Obj)) : Prop :=
  TriplesOk ps.toList ∧ ∀ pos, codeAmong pos ps.toList = none ∨ ∃ (c : Addr) (oc : Obj) (vs : Array Value) (t : Tok), codeAmong pos ps.toList = some (.ref c) ∧ (c, oc) ∈ rest ∧ oc.data = .fields vs ∧ vs[1]? = some (.str q t)
theorem TabOk.empty {q : Str} {rest : List (Addr × Obj)} : TabOk q #[] rest := ⟨trivial, fun _ => .inl rfl⟩
theorem TabOk.mono {q : Str} {ps : Array Value} {rest rest' : List (Addr × Obj)} (h : TabOk q ps rest) (hs : ∀ p ∈ rest, p ∈ rest') : TabOk q ps rest' :=
  ⟨h.1, fun pos => (h.2 pos).imp id fun ⟨c, oc, vs, t, e, hm, hd, hv⟩ => ⟨c, oc, vs, t, e, hs _ hm, hd, hv⟩⟩
theorem codeAmong_app {pos pos' : Pos} {c : Value} : ∀ (l : List Value), TriplesOk l → codeAmong pos (l ++ [rawInt pos'.line, rawInt pos'.col, c]) = (codeAmong pos l).or (if pos'.line = pos.line ∧ pos'.col = pos.col then some c else none) := by
  intro l h
  fun_induction TriplesOk l with
  | case1 =>
    by_cases e : pos'.line = pos.line ∧ pos'.col = pos.col
    · simp [codeAmong, rawInt, e]
    · have e2 : ¬ ((pos'.line : Int) = pos.line ∧ (pos'.col : Int) = pos.col) := fun q => e ⟨by omega, by omega⟩
      simp [codeAmong, rawInt, e]
      intro q1 q2
      exact e2 ⟨by exact_mod_cast q1, by exact_mod_cast q2⟩
  | case2 a' t b' u x rest ih =>
    simp only [List.cons_append, codeAmong]
    split
    · rfl
    · exact ih h
  | case3 => exact h.elim
theorem TabOk.push {q : Str} {ps : Array Value} {rest : List (Addr × Obj)} {pos : Pos} {c : Addr} {oc : Obj} {vs : Array Value} {t : Tok} (h : TabOk q ps rest) (hd : oc.data = .fields vs) (hv : vs[1]? = some (.str q t)) :
    TabOk q (ps ++ #[rawInt pos.line, rawInt pos.col, .ref c]) ((c, oc) :: rest) := by
  have e : (ps ++ #[rawInt pos.line, rawInt pos.col, .ref c]).toList = ps.toList ++ [rawInt pos.line, rawInt pos.col, .ref c] := by simp
  refine ⟨by rw [e]; exact TriplesOk_snoc _ _ _ _ h.1, fun pos' => ?_⟩
  rw [e, codeAmong_app _ h.1]
  rcases h.2 pos' with h0 | ⟨c', oc', vs', t', h1, hm, hd', hv'⟩
  · rw [h0]
    by_cases e2 : pos.line = pos'.line ∧ pos.col = pos'.col
    · rw [if_pos e2]; exact .inr ⟨c, oc, vs, t, rfl, .head _, hd, hv⟩
    · rw [if_neg e2]; exact .inl rfl
  · rw [h1]; exact .inr ⟨c', oc', vs', t', rfl, .tail _ hm, hd', hv'⟩
section
variable {M : Model} {A : Around} {E : Value → Shared → Prop} {s : Shared} {h₀ : Heap} {L a c P : Addr} {m mg mb : Str → Option Value} {cn : Str} {cs : Scope} {ccd : Value} {cl : List (Str × Addr)}
  {p : Program} {loose : List Str} {mean : ExcName → Option Value} {params : Arguments} {body : Expr} {scope : Scope} {ps : Array Value} {pos : Pos} {clos : List (Str × Addr)}
theorem updF_of : ∀ {own rest : List (Addr × Obj)} {o : Obj}, (∀ p ∈ own, p.1 ≠ P) → (∀ p ∈ rest, p.1 ≠ P) → UpdF P o (own ++ (P, o) :: rest) (fun o' => own ++ (P, o') :: rest)
  | [], _, _, _, h2 => UpdF.head h2
  | x :: own, _, _, h1, h2 => UpdF.tail (h1 x (.head _)) (updF_of (fun p hp => h1 p (.tail _ hp)) h2)
def CdsFresh (cds cds' rest : List (Addr × Obj)) : Prop := ∀ p ∈ cds', p ∈ cds ∨ ∀ q ∈ rest, p.1 ≠ q.1
theorem lam_K {Q : Value → Shared → Prop} (own : List (Addr × Obj)) {rest cds : List (Addr × Obj)} {q : Str} (hq : (envX cn cs L a ccd cl).qual ++ "<lambda>" = q) (F : Fr h₀ L s.heap m) (N : News h₀ L s.heap (own ++ (P, tabObj ps) :: rest)) (T : Top p loose mean mg mb h₀) (C : CodeHd h₀ c P) (hcd : ccd = .ref c)
    (h1 : ∀ p ∈ own, p.1 ≠ P) (h2 : ∀ p ∈ rest, p.1 ≠ P) (hok : TabOk q ps cds) (hcds : ∀ p ∈ cds, p ∈ rest) (hdef : defaultsOf params (envX cn cs L a ccd cl) = ([], []))
    (hcl : closureFor scope (envX cn cs L a ccd cl) = pure clos)
    (h : ∀ f c' oc vs t ctv ps' rest' cds' h' tk, Fr h₀ L h' m → News h₀ L h' ((f, kla_obj "<lambda>" q params body scope clos ((mg "__name__").getD .none) c' ctv) :: (own ++ (P, tabObj ps') :: rest')) →
      (∀ p ∈ own, p.1 < f) → (∀ p ∈ rest, p.1 < f) → (∀ p ∈ rest', p.1 < f) → P < f → (∀ p ∈ rest', p.1 ≠ P) → TabOk q ps' cds' → (∀ p ∈ cds', p ∈ rest') → CdsFresh cds cds' rest → (∀ p ∈ rest, p ∈ rest') → (c', oc) ∈ rest' → oc.data = .fields vs → vs[1]? = some (.str q t) → Q (.ref f) { s with heap := h', toks := tk }) :
    wpAny M A (eval (.Lambda params body scope pos) (envX cn cs L a ccd cl)) Q E s := by
  subst hq
  refine kla_eval hdef ?_
  rcases hok.2 pos with hn | ⟨c', oc, vs, t, hf, hm, hd, hv⟩
  · refine kla_nest F N T C hcd (updF_of h1 h2) hok.1 hn hcl fun f c' oc vs t ctv h' tk F' N' hd hv l1 l2 => ?_
    have lt : ∀ p ∈ own ++ (P, tabObj ps) :: rest, p.1 < f := fun p hp => Nat.lt_trans (l1 p hp) l2
    have hPc : P < c' := l1 (P, tabObj ps) (List.mem_append_right _ (.head _))
    refine h f c' oc vs t ctv (ps ++ #[rawInt pos.line, rawInt pos.col, .ref c']) ((c', oc) :: rest) ((c', oc) :: cds) h' tk F' (fun p hp => N' p ?_) (fun p hp => lt p (List.mem_append_left _ hp)) (fun p hp => lt p (List.mem_append_right _ (.tail _ hp))) (fun p hp => ?_) (lt (P, tabObj ps) (List.mem_append_right _ (.head _))) (fun p hp => ?_) (hok.push hd hv) (fun p hp => ?_) (fun p hp => ?_) (fun p hp => .tail _ hp) (.head _) hd hv
    · rcases List.mem_cons.mp hp with rfl | hp
      · exact .head _
      · rcases List.mem_append.mp hp with hp | hp
        · exact .tail _ (.tail _ (List.mem_append_left _ hp))
        · rcases List.mem_cons.mp hp with rfl | hp
          · exact .tail _ (.tail _ (List.mem_append_right _ (.head _)))
          · rcases List.mem_cons.mp hp with rfl | hp
            · exact .tail _ (.head _)
            · exact .tail _ (.tail _ (List.mem_append_right _ (.tail _ hp)))
    · rcases List.mem_cons.mp hp with rfl | hp
      · exact l2
      · exact lt p (List.mem_append_right _ (.tail _ hp))
    · rcases List.mem_cons.mp hp with rfl | hp
      · exact Nat.ne_of_gt hPc
      · exact h2 p hp
    · rcases List.mem_cons.mp hp with rfl | hp
      · exact .head _
      · exact .tail _ (hcds p hp)
    · rcases List.mem_cons.mp hp with rfl | hp
      · exact .inr fun r hr => Nat.ne_of_gt (l1 r (List.mem_append_right _ (.tail _ hr)))
      · exact .inl hp
  · refine kla_hit F N T C hcd (List.mem_append_right _ (.head _)) hok.1 hf hcl fun f ctv h' tk F' N' l1 => ?_
    exact h f c' oc vs t ctv ps rest cds h' tk F' N' (fun p hp => l1 p (List.mem_append_left _ hp)) (fun p hp => l1 p (List.mem_append_right _ (.tail _ hp))) (fun p hp => l1 p (List.mem_append_right _ (.tail _ hp))) (l1 (P, tabObj ps) (List.mem_append_right _ (.head _))) h2 hok hcds (fun p hp => .inl hp) (fun p hp => hp) (hcds _ hm) hd hv
end
structure RestLt (d : Addr) (rest : List (Addr × Obj)) : Prop where
  lt : ∀ p ∈ rest, p.1 < d
theorem RestLt.of {d : Addr} {q : Addr × Obj} {rest : List (Addr × Obj)} (h : ∀ p ∈ q :: rest, p.1 < d) : RestLt d rest := ⟨fun p hp => h p (.tail _ hp)⟩
theorem RestLt.ne {d x : Addr} {rest : List (Addr × Obj)} (h : RestLt d rest) (hx : @LE.le Nat _ d x) : ∀ p ∈ rest, p.1 ≠ x := fun p hp e => Nat.lt_irrefl _ (Nat.lt_of_lt_of_le (h.lt p hp) (e ▸ hx))
theorem RestLt.allLt {d x : Addr} {rest : List (Addr × Obj)} (h : RestLt d rest) (hx : @LE.le Nat _ d x) : ∀ p ∈ rest, p.1 < x := fun p hp => Nat.lt_of_lt_of_le (h.lt p hp) hx
end Mine
end LamPart
section PassedPart
open PySem PySem.W PyProof.Rows PySem.Spec PySem.Calls PySem.Flt
namespace Mine
local macro_rules | `(tactic| walk_at "binaryOp Div int float") => `(tactic| (k_dflt (refine div_if_nz (by assumption) (by first | assumption | decide +kernel) ?_); try dsimp only))
local macro_rules | `(tactic| walk_at "binaryOp Mult int float") => `(tactic| ((with_reducible refine mul_if_ni (by assumption) ?_); try dsimp only))
local macro_rules | `(tactic| walk_at "binaryOp Mod float float") => `(tactic| ((with_reducible refine mod_nz (by first | assumption | decide +kernel) ?_); try dsimp only))
local macro_rules | `(tactic| k_mem) => `(tactic| assumption)
local macro_rules | `(tactic| walk_at "subscriptTail Name Constant ref int") => `(tactic| (k_here; (with_reducible first | refine' item_0 ?k1 ?k2 ?_ ?k6 | refine' item_1 ?k1 ?k2 ?_ ?k6 | refine' item_2 ?k1 ?k2 ?_ ?k6); (case k1 => k_asm); (case k2 => k_mem); (case k6 => with_unfolding_all rfl); k_whole))
local macro_rules | `(tactic| k_all) => `(tactic| first | assumption | (refine' RestLt.ne ?a ?b; (case a => assumption); (case b => omega)))
local macro_rules | `(tactic| walk_at "call ref") => `(tactic| k_extra "mine call")
local macro_rules | `(tactic| walk_at "binaryOp FloorDiv int int") => `(tactic| k_extra "mine fdiv")
local macro_rules | `(tactic| walk_at "eval Lambda") => `(tactic| k_extra "mine lambda")
local macro_rules | `(tactic| kla_enter) => `(tactic| (refine' kla_code ?k1 ?k2 ?k3 ?k4 ?k5 ?kA ?kF ?kK ?k6 ?k7 ?k8 ?k9 ?kB ?_ ?c2 ?c3 ?c4 ?c5; (case kA => exact rfl); (case kF => exact rfl); (case kK => assumption); (case k1 => k_asm); (case k2 => k_asm); (case k3 => k_asm); (case k4 => k_asm); (case k5 => k_asm); (case k6 => k_mem); (case k7 => exact codeRec_news (by k_asm) (by k_mem) (by assumption) (by assumption)); (case k8 => ktr_room); (case k9 => exact rfl); (case c5 => decide); (case kB => exact locs rfl); (case c2 => exact rfl); (case c3 => exact rfl); (case c4 => exact rfl); k_whole; intro g' L' h' FG' F' N' B' X' T'; (try dsimp only); (try k_lift B'); (try k_fold)))
local macro_rules | `(tactic| cell_enter) => `(tactic| (refine' code_defC ?k1 ?k2 ?k3 ?k4 ?k5 ?kA ?kF ?kK ?k6 ?k7 ?k8 ?k9 ?kB ?kD ?_ ?c2 ?c3 ?c4; (case kA => exact rfl); (case kF => exact rfl); (case kK => assumption); (case k1 => k_asm); (case k2 => k_asm); (case k3 => k_asm); (case k4 => k_asm); (case k5 => k_asm); (case k6 => k_is); (case k7 => k_is); (case k8 => ktr_room); (case k9 => exact BindsTo.of_eq rfl); (case kB => exact rfl); (case kD => decide +kernel); (case c2 => exact rfl); (case c3 => exact rfl); (case c4 => exact rfl); k_whole; intro g' L' h' tk' cells' FG' F' N' Y' B' X' T' l1; (have l9 := RestLt.of l1); (try k_lt l1); k_cells Y'; (try simp only [List.cons_append, List.nil_append] at N'); (try dsimp only); (try k_lift B'); (try k_fold)))
structure HlsOk (x y z : UInt64) : Prop where
  ne : (Float64.cmp (min3 x y z) (max3 x y z) == some .eq) = false
  z1 : ¬ Float64.isZero (Float64.add (max3 x y z) (min3 x y z)) = true
  z2 : ¬ Float64.isZero (Float64.sub (max3 x y z) (min3 x y z)) = true
  z3 : ¬ Float64.isZero (Float64.sub (Float64.sub f2 (max3 x y z)) (min3 x y z)) = true
abbrev startF (a0 a1 a2 : Int) : UInt64 := hueF (Float64.div (Float64.ofInt a0) f8) (Float64.div (Float64.ofInt a1) f8) (Float64.div (Float64.ofInt a2) f8)
abbrev wishF (a0 a1 a2 c0 c1 c2 way : Int) : UInt64 := goneF way (hueF (Float64.div (Float64.ofInt c0) f16) (Float64.div (Float64.ofInt c1) f16) (Float64.div (Float64.ofInt c2) f16)) (startF a0 a1 a2)
abbrev keyG (a0 a1 a2 b0 b1 b2 steps way : Int) (i : Int) : UInt64 := goneF way (hueF (partf ((steps - i) * a0 + i * b0) steps) (partf ((steps - i) * a1 + i * b1) steps) (partf ((steps - i) * a2 + i * b2) steps)) (startF a0 a1 a2)
theorem ints_at : ∀ {vs : List Value} {ns : List Int}, IntsAre vs ns → ∀ {i : Nat}, i < vs.length → ∃ n t, vs[i]? = some (.int n t) ∧ ns[i]? = some n
  | _, _, .nil, i, hi => absurd hi (Nat.not_lt_zero _)
  | _, _, .cons n t r, 0, _ => ⟨n, t, rfl, rfl⟩
  | _, _, .cons n t r, i + 1, hi => by
    obtain ⟨n', t', h1, h2⟩ := ints_at r (i := i) (by simpa using hi)
    exact ⟨n', t', by simpa using h1, by simpa using h2⟩
theorem row_len {vs : List Value} {steps : Int} (h : IntsAre vs (rangeKs 0 (steps + 1 - 0).toNat)) (h4 : 4 ≤ steps) : (vs.length : Int) = steps + 1 := by
  have e := IntsAre.length h
  rw [e]
  simp [rangeKs]
  omega
theorem row_at {vs : List Value} {steps : Int} (h : IntsAre vs (rangeKs 0 (steps + 1 - 0).toNat)) (h4 : 4 ≤ steps) : ∀ i : Nat, (i : Int) < steps + 1 → ∃ t, vs[i]? = some (.int (i : Int) t) := by
  intro i hi
  have e := IntsAre.length h
  rw [rangeKs_length] at e
  have h1 : i < vs.length := by omega
  obtain ⟨n, t, h2, h3⟩ := ints_at h (i := i) (by omega)
  refine ⟨t, ?_⟩
  rw [h2]
  rw [rangeKs, List.getElem?_map, List.getElem?_range (by omega)] at h3
  simp at h3
  rw [h3]
abbrev QL : Str := Str.ofString "_law_passed.<locals>.<lambda>"
set_option maxRecDepth 100000 in
set_option maxHeartbeats 1000000 in
theorem passed_c {w : World} {mean : ExcName → Option Value} {mg mb : Str → Option Value} {fa sa pa : Addr} {a0 a1 a2 b0 b1 b2 c0 c1 c2 : Int} {t0 t1 t2 u0 u1 u2 v0 v1 v2 t3 t4 : Tok} {n1 n2 n3 : Nat} {steps way : Int} {ps : Array Value}
   {dp un : Nat} {gd : Option (List Code)} {cn : Str} {cs : Scope} {a : Addr} {ccd : Value} {cl : List (Str × Addr)} {outer : List Env} {A₀ : Around} {base h₀ : Heap} {L : Addr} {m : Str → Option Value} {s : Shared} {Q E : Value → Shared → Prop} {rest cds : List (Addr × Obj)} 
   (ha0 : 0 ≤ a0 ∧ a0 ≤ 8) (ha1 : 0 ≤ a1 ∧ a1 ≤ 8) (ha2 : 0 ≤ a2 ∧ a2 ≤ 8) (hb0 : 0 ≤ b0 ∧ b0 ≤ 8) (hb1 : 0 ≤ b1 ∧ b1 ≤ 8) (hb2 : 0 ≤ b2 ∧ b2 ≤ 8) (hst : 4 ≤ steps ∧ steps ≤ 16) (hc0 : 0 ≤ c0 ∧ c0 ≤ 16) (hc1 : 0 ≤ c1 ∧ c1 ≤ 16) (hc2 : 0 ≤ c2 ∧ c2 ≤ 16) (hway : way = 1 ∨ way = -1)
   (ia0 : ¬ Float64.isInf (Float64.ofInt a0) = true) (ia1 : ¬ Float64.isInf (Float64.ofInt a1) = true) (ia2 : ¬ Float64.isInf (Float64.ofInt a2) = true) (ic0 : ¬ Float64.isInf (Float64.ofInt c0) = true) (ic1 : ¬ Float64.isInf (Float64.ofInt c1) = true) (ic2 : ¬ Float64.isInf (Float64.ofInt c2) = true)
   (his : ¬ Float64.isInf (Float64.ofInt steps) = true) (hiw : ¬ Float64.isInf (Float64.ofInt way) = true)
   (hA : HueOk (Float64.div (Float64.ofInt a0) f8) (Float64.div (Float64.ofInt a1) f8) (Float64.div (Float64.ofInt a2) f8))
   (hz : ¬ Float64.isZero (Float64.mul f8 (Float64.ofInt steps)) = true)
   (hpi : ∀ i, 0 ≤ i → i ≤ steps → ¬ Float64.isInf (Float64.ofInt ((steps - i) * a0 + i * b0)) = true ∧ ¬ Float64.isInf (Float64.ofInt ((steps - i) * a1 + i * b1)) = true ∧ ¬ Float64.isInf (Float64.ofInt ((steps - i) * a2 + i * b2)) = true ∧
      HueOk (partf ((steps - i) * a0 + i * b0) steps) (partf ((steps - i) * a1 + i * b1) steps) (partf ((steps - i) * a2 + i * b2) steps))
   (hP : HlsOk (Float64.div (Float64.ofInt c0) f16) (Float64.div (Float64.ofInt c1) f16) (Float64.div (Float64.ofInt c2) f16))
   {rl rr : Int} (hrl : 0 ≤ rl ∧ rl ≤ steps + 1) (hrr : 0 ≤ rr ∧ rr ≤ steps + 1)
   (hcl : ∀ i, 0 ≤ i → i < steps + 1 → (Float64.cmp (keyG a0 a1 a2 b0 b1 b2 steps way i) (wishF a0 a1 a2 c0 c1 c2 way) == some .lt) = decide (i < rl))
   (hcr : ∀ i, 0 ≤ i → i < steps + 1 → (Float64.cmp (wishF a0 a1 a2 c0 c1 c2 way) (keyG a0 a1 a2 b0 b1 b2 steps way i) == some .lt) = decide (rr ≤ i))
   (B : Below A₀ base outer h₀) (F : Fr h₀ L s.heap m) (X : (hd.heap_39 w.params).In h₀) (N : News h₀ L s.heap ((67, tabObj ps) :: rest)) (hm1 : (fa, listOf #[.int a0 t0, .int a1 t1, .int a2 t2] n1) ∈ rest) (hm2 : (sa, listOf #[.int b0 u0, .int b1 u1, .int b2 u2] n2) ∈ rest) (hm3 : (pa, listOf #[.int c0 v0, .int c1 v1, .int c2 v2] n3) ∈ rest) 
   (hne : ∀ p ∈ rest, p.1 ≠ 67) (hok : TabOk QL ps cds) (hcds : ∀ p ∈ cds, p ∈ rest) (T : Top topProg LS mean mg mb h₀) (hk : cs.kind = .function) (C : CodeHd base 71 67)
   (hwb : way * crossI a0 a1 a2 c0 c1 c2 + way * crossI c0 c1 c2 b0 b1 b2 < 1000000)
   (hans : ((way * crossI a0 a1 a2 c0 c1 c2 < 0 ∨ way * crossI c0 c1 c2 b0 b1 b2 < 0) ∧ rl = steps + 1 ∧ rr = steps + 1) ∨
     (0 ≤ way * crossI a0 a1 a2 c0 c1 c2 ∧ 0 ≤ way * crossI c0 c1 c2 b0 b1 b2 ∧ 0 < way * crossI a0 a1 a2 c0 c1 c2 + way * crossI c0 c1 c2 b0 b1 b2 ∧
      rl = (steps * (way * crossI a0 a1 a2 c0 c1 c2) + (way * crossI a0 a1 a2 c0 c1 c2 + way * crossI c0 c1 c2 b0 b1 b2) - 1).fdiv (way * crossI a0 a1 a2 c0 c1 c2 + way * crossI c0 c1 c2 b0 b1 b2) ∧
      rr = (steps * (way * crossI a0 a1 a2 c0 c1 c2)).fdiv (way * crossI a0 a1 a2 c0 c1 c2 + way * crossI c0 c1 c2 b0 b1 b2) + 1))
   (hdp : dp + 6 < recursionLimit) (hun : un + 48 < cLine)
   (hret : ∀ (h' : Heap) (tk' : Nat) (ps' : Array Value) (rest' cds' : List (Addr × Obj)), Fr h₀ L h' m → News h₀ L h' ((67, tabObj ps') :: rest') → (∀ p ∈ rest', p.1 ≠ 67) → TabOk QL ps' cds' → (∀ p ∈ cds', p ∈ rest') → CdsFresh cds cds' rest → (∀ p ∈ rest, p ∈ rest') → Q (.bool true) { s with heap := h', toks := tk' }) : 
   wpAny (model Challenge.rw_pe0103_01.row.prog w) (ktrTop dp un gd cn cs L a ccd cl outer) (call (.ref 72) [.ref fa, .ref sa, .int steps t3, .ref pa, .int way t4]) Q E s := by
  revert X; k_fill; intro X
  k_with_none
  k_with "mine call" => (refine Hold.mk ?_)
  k_with "mine lambda" => (refine Hold.mk ?_)
  refine wpAny_call ?_
  k_dflt cell_enter
  k_steps
  refine Hold.out ?_
  refine hsv_c hA.ne hA.z1 hA.z2 (by k_asm) (by k_asm) (by k_asm) (by k_asm) (by k_asm) rfl (by ktr_room) (by ktr_units) ?_
  intro xa1 tt1 s1 w1 h1 tk1 F1 N1 l1
  (try k_lt l1)
  (try dsimp only)
  k_steps
  refine Hold.out ?_
  refine hls_c hP.ne hP.z1 hP.z2 hP.z3 (by k_asm) (by k_asm) (by k_asm) (by k_asm) (by k_asm) rfl (by ktr_room) (by ktr_units) ?_
  intro xa2 tt2 s2 w2 h2 tk2 F2 N2 l2
  (try k_lt l2)
  (try dsimp only)
  k_steps
  refine Hold.out ?_
  refine lam_K [_, _, _, _, _, _, _, _] (q := QL) rfl (by k_asm) (by k_asm) (by k_asm) (by kn_code) rfl (by first | k_all | fail) hne hok hcds rfl rfl ?_
  intro fl1 cc1 oc1 vs1 tq1 ctv1 ps1 rest1 cds1 h3 tk3 F3 N3 lo1 lr1 lr1' lP1 hne1 hok1 hcds1 fr1 sub1 hcc1 hd1 hv1
  simp only [List.cons_append, List.nil_append] at N3
  replace hm1 := sub1 _ hm1
  replace hm2 := sub1 _ hm2
  replace hm3 := sub1 _ hm3
  clear hne hok hcds
  (try k_lt lo1)
  (try dsimp only)
  k_steps
  refine Hold.out ?_
  refine bl_c (n := steps + 1) (r := rl) (G := keyG a0 a1 a2 b0 b1 b2 steps way) (by omega) (by omega) (row_len (by assumption) hst.1) (row_at (by assumption) hst.1) hcl (by k_asm) (by k_asm) (by k_asm) (by k_asm) (by k_mem) (by k_mem) ?_ (by k_asm) rfl (by ktr_room) (by ktr_units) ?_
  · unfold KeyOk
    intro dp' un' gd' cn' cs' a' ccd' cl' outer' A₀' base' g₀ L₀ m₀ s₀ Q₀ E₀ i tki B₀ F₀ X₀ N₀ T₀ hk₀ hdp₀ hun₀ hi0 hi1 hret₀
    obtain ⟨q0, q1, q2, qH⟩ := hpi i hi0 (by omega)
    refine wpAny_call ?_
    k_dflt kla_enter
    k_steps
    refine Hold.out ?_
    refine gone_c ha0 ha1 ha2 hb0 hb1 hb2 hst (by omega) q0 q1 q2 his hiw hz qH (by k_asm) (by k_asm) (by k_asm) (by k_asm) (by k_mem) (by k_mem) (by k_asm) rfl (by ktr_room) (by ktr_units) ?_
    intro t9 h9 tk9 F9 N9
    (try dsimp only)
    k_steps
    exact hret₀ _ _ _ (by k_asm) (by k_asm)
  intro tl4 h4 tk4 F4 N4
  (try dsimp only)
  k_steps
  refine Hold.out ?_
  refine lam_K [_, _, _, _, _, _, _, _, _] (q := QL) rfl (by k_asm) (by k_asm) (by k_asm) (by kn_code) rfl (by first | k_all | fail) hne1 hok1 hcds1 rfl rfl ?_
  intro fl2 cc2 oc2 vs2 tq2 ctv2 ps2 rest2 cds2 h5 tk5 F5 N5 lo2 lr2 lr2' lP2 hne2 hok2 hcds2 fr2 sub2 hcc2 hd2 hv2
  simp only [List.cons_append, List.nil_append] at N5
  replace hm1 := sub2 _ hm1
  replace hm2 := sub2 _ hm2
  replace hm3 := sub2 _ hm3
  clear hne1 hok1 hcds1 hcc1 hd1 hv1
  (try k_lt lo2)
  (try dsimp only)
  k_steps
  refine Hold.out ?_
  refine br_c (n := steps + 1) (r := rr) (G := keyG a0 a1 a2 b0 b1 b2 steps way) (by omega) (by omega) (row_len (by assumption) hst.1) (row_at (by assumption) hst.1) hcr (by k_asm) (by k_asm) (by k_asm) (by k_asm) (by k_mem) (by k_mem) ?_ (by k_asm) rfl (by ktr_room) (by ktr_units) ?_
  · unfold KeyOk
    intro dp' un' gd' cn' cs' a' ccd' cl' outer' A₀' base' g₀ L₀ m₀ s₀ Q₀ E₀ i tki B₀ F₀ X₀ N₀ T₀ hk₀ hdp₀ hun₀ hi0 hi1 hret₀
    obtain ⟨q0, q1, q2, qH⟩ := hpi i hi0 (by omega)
    refine wpAny_call ?_
    k_dflt kla_enter
    k_steps
    refine Hold.out ?_
    refine gone_c ha0 ha1 ha2 hb0 hb1 hb2 hst (by omega) q0 q1 q2 his hiw hz qH (by k_asm) (by k_asm) (by k_asm) (by k_asm) (by k_mem) (by k_mem) (by k_asm) rfl (by ktr_room) (by ktr_units) ?_
    intro t9 h9 tk9 F9 N9
    (try dsimp only)
    k_steps
    exact hret₀ _ _ _ (by k_asm) (by k_asm)
  intro tl6 h6 tk6 F6 N6
  (try dsimp only)
  k_steps
  refine Hold.out ?_
  refine cross_c (a0 := a0) (a1 := a1) (a2 := a2) (b0 := c0) (b1 := c1) (b2 := c2) (by omega) (by omega) (by omega) (by omega) (by omega) (by omega) (by k_asm) (by k_asm) (by k_asm) (by k_asm) (by k_mem) (by k_mem) (by k_asm) rfl (by ktr_room) (by ktr_units) ?_
  intro tl7 h7 tk7 F7 N7
  (try dsimp only)
  k_steps
  refine Hold.out ?_
  refine cross_c (a0 := c0) (a1 := c1) (a2 := c2) (b0 := b0) (b1 := b1) (b2 := b2) (by omega) (by omega) (by omega) (by omega) (by omega) (by omega) (by k_asm) (by k_asm) (by k_asm) (by k_asm) (by k_mem) (by k_mem) (by k_asm) rfl (by ktr_room) (by ktr_units) ?_
  intro tl8 h8 tk8 F8 N8
  (try dsimp only)
  have hret2 : ∀ (b : Bool) (h' : Heap) (tk' : Nat), b = true → Fr h₀ L h' m → News h₀ L h' ((67, tabObj ps2) :: rest2) → Q (.bool b) { s with heap := h', toks := tk' } := by
    intro b h' tk' e F' N'
    subst e
    exact hret h' tk' ps2 rest2 cds2 F' N' hne2 hok2 hcds2 (fun p hp => (fr2 p hp).elim (fr1 p) (fun q => .inr fun r hr => q r (sub1 r hr))) (fun p hp => sub2 _ (sub1 _ hp))
  clear hret
  rcases hans with ⟨hA1, hA2, hA3⟩ | ⟨hA1, hA2, hA3, hA4, hA5⟩
  · k_steps
    all_goals exact hret2 _ _ _ (by first | (simp only [beq_iff_eq]; omega) | simp_all) (by k_asm) (cb_drop (by assumption) (fun p hp => by repeat (first | exact hp | apply List.Mem.tail)))
  · have hnz : way * crossI a0 a1 a2 c0 c1 c2 + way * crossI c0 c1 c2 b0 b1 b2 ≠ 0 := by omega
    have hna : (way * crossI a0 a1 a2 c0 c1 c2 + way * crossI c0 c1 c2 b0 b1 b2).natAbs < 1073741824 := by omega
    k_with "mine fdiv" => (k_dflt (refine floordiv_int hnz ?_ (Or.inl (PyProof.noPylong_small hna))); (try dsimp only))
    k_steps
    all_goals exact hret2 _ _ _ (by simp only [beq_iff_eq]; omega) (by k_asm) (cb_drop (by assumption) (fun p hp => by repeat (first | exact hp | apply List.Mem.tail)))
end Mine
end PassedPart
section PassOkPart
open PySem PySem.W PyProof.Rows PySem.Spec PySem.Calls PySem.Flt
namespace Mine
structure PassOk (a0 a1 a2 b0 b1 b2 c0 c1 c2 steps way rl rr : Int) : Prop where
  ia0 : ¬ Float64.isInf (Float64.ofInt a0) = true
  ia1 : ¬ Float64.isInf (Float64.ofInt a1) = true
  ia2 : ¬ Float64.isInf (Float64.ofInt a2) = true
  ic0 : ¬ Float64.isInf (Float64.ofInt c0) = true
  ic1 : ¬ Float64.isInf (Float64.ofInt c1) = true
  ic2 : ¬ Float64.isInf (Float64.ofInt c2) = true
  his : ¬ Float64.isInf (Float64.ofInt steps) = true
  hiw : ¬ Float64.isInf (Float64.ofInt way) = true
  hA : HueOk (Float64.div (Float64.ofInt a0) f8) (Float64.div (Float64.ofInt a1) f8) (Float64.div (Float64.ofInt a2) f8)
  hz : ¬ Float64.isZero (Float64.mul f8 (Float64.ofInt steps)) = true
  hpi : ∀ i, 0 ≤ i → i ≤ steps → ¬ Float64.isInf (Float64.ofInt ((steps - i) * a0 + i * b0)) = true ∧ ¬ Float64.isInf (Float64.ofInt ((steps - i) * a1 + i * b1)) = true ∧ ¬ Float64.isInf (Float64.ofInt ((steps - i) * a2 + i * b2)) = true ∧
      HueOk (partf ((steps - i) * a0 + i * b0) steps) (partf ((steps - i) * a1 + i * b1) steps) (partf ((steps - i) * a2 + i * b2) steps)
  hP : HlsOk (Float64.div (Float64.ofInt c0) f16) (Float64.div (Float64.ofInt c1) f16) (Float64.div (Float64.ofInt c2) f16)
  hrl : 0 ≤ rl ∧ rl ≤ steps + 1
  hrr : 0 ≤ rr ∧ rr ≤ steps + 1
  hcl : ∀ i, 0 ≤ i → i < steps + 1 → (Float64.cmp (keyG a0 a1 a2 b0 b1 b2 steps way i) (wishF a0 a1 a2 c0 c1 c2 way) == some .lt) = decide (i < rl)
  hcr : ∀ i, 0 ≤ i → i < steps + 1 → (Float64.cmp (wishF a0 a1 a2 c0 c1 c2 way) (keyG a0 a1 a2 b0 b1 b2 steps way i) == some .lt) = decide (rr ≤ i)
  hwb : way * crossI a0 a1 a2 c0 c1 c2 + way * crossI c0 c1 c2 b0 b1 b2 < 1000000
  hans : ((way * crossI a0 a1 a2 c0 c1 c2 < 0 ∨ way * crossI c0 c1 c2 b0 b1 b2 < 0) ∧ rl = steps + 1 ∧ rr = steps + 1) ∨
     (0 ≤ way * crossI a0 a1 a2 c0 c1 c2 ∧ 0 ≤ way * crossI c0 c1 c2 b0 b1 b2 ∧ 0 < way * crossI a0 a1 a2 c0 c1 c2 + way * crossI c0 c1 c2 b0 b1 b2 ∧
      rl = (steps * (way * crossI a0 a1 a2 c0 c1 c2) + (way * crossI a0 a1 a2 c0 c1 c2 + way * crossI c0 c1 c2 b0 b1 b2) - 1).fdiv (way * crossI a0 a1 a2 c0 c1 c2 + way * crossI c0 c1 c2 b0 b1 b2) ∧
      rr = (steps * (way * crossI a0 a1 a2 c0 c1 c2)).fdiv (way * crossI a0 a1 a2 c0 c1 c2 + way * crossI c0 c1 c2 b0 b1 b2) + 1)
/-- a colour of eighths -/
def Col8 (a0 a1 a2 : Int) : Prop := (0 ≤ a0 ∧ a0 ≤ 8) ∧ (0 ≤ a1 ∧ a1 ≤ 8) ∧ (0 ≤ a2 ∧ a2 ≤ 8)
def Col16 (a0 a1 a2 : Int) : Prop := (0 ≤ a0 ∧ a0 ≤ 16) ∧ (0 ≤ a1 ∧ a1 ≤ 16) ∧ (0 ≤ a2 ∧ a2 ≤ 16)
def Way (way : Int) (x : Int) : Prop := (way = 1 ∧ 0 < x) ∨ (way = -1 ∧ x < 0)
def Span (s : Int) : Prop := s = 4 ∨ s = 8 ∨ s = 16
theorem passed_k {w : World} {mean : ExcName → Option Value} {mg mb : Str → Option Value} {fa sa pa : Addr} {a0 a1 a2 b0 b1 b2 c0 c1 c2 : Int} {t0 t1 t2 u0 u1 u2 v0 v1 v2 t3 t4 : Tok} {n1 n2 n3 : Nat} {steps way : Int} {ps : Array Value}
   {dp un : Nat} {gd : Option (List Code)} {cn : Str} {cs : Scope} {a : Addr} {ccd : Value} {cl : List (Str × Addr)} {outer : List Env} {A₀ : Around} {base h₀ : Heap} {L : Addr} {m : Str → Option Value} {s : Shared} {Q E : Value → Shared → Prop} {rest cds : List (Addr × Obj)} 
   (pure : ∃ rl rr, PassOk a0 a1 a2 b0 b1 b2 c0 c1 c2 steps way rl rr) (ha : Col8 a0 a1 a2) (hb : Col8 b0 b1 b2) (hc : Col16 c0 c1 c2) (hst : Span steps) (hway : Way way (crossI a0 a1 a2 b0 b1 b2))
   (B : Below A₀ base outer h₀) (F : Fr h₀ L s.heap m) (X : (hd.heap_39 w.params).In h₀) (N : News h₀ L s.heap ((67, tabObj ps) :: rest)) (hm1 : (fa, listOf #[.int a0 t0, .int a1 t1, .int a2 t2] n1) ∈ rest) (hm2 : (sa, listOf #[.int b0 u0, .int b1 u1, .int b2 u2] n2) ∈ rest) (hm3 : (pa, listOf #[.int c0 v0, .int c1 v1, .int c2 v2] n3) ∈ rest) 
   (hne : ∀ p ∈ rest, p.1 ≠ 67) (hok : TabOk QL ps cds) (hcds : ∀ p ∈ cds, p ∈ rest) (T : Top topProg LS mean mg mb h₀) (hk : cs.kind = .function) (C : CodeHd base 71 67)
   (hdp : dp + 6 < recursionLimit) (hun : un + 48 < cLine)
   (hret : ∀ (h' : Heap) (tk' : Nat) (ps' : Array Value) (rest' cds' : List (Addr × Obj)), Fr h₀ L h' m → News h₀ L h' ((67, tabObj ps') :: rest') → (∀ p ∈ rest', p.1 ≠ 67) → TabOk QL ps' cds' → (∀ p ∈ cds', p ∈ rest') → CdsFresh cds cds' rest → (∀ p ∈ rest, p ∈ rest') → Q (.bool true) { s with heap := h', toks := tk' }) : 
   wpAny (model Challenge.rw_pe0103_01.row.prog w) (ktrTop dp un gd cn cs L a ccd cl outer) (call (.ref 72) [.ref fa, .ref sa, .int steps t3, .ref pa, .int way t4]) Q E s := by
  obtain ⟨rl, rr, o⟩ := pure
  exact passed_c ha.1 ha.2.1 ha.2.2 hb.1 hb.2.1 hb.2.2 (by rcases hst with rfl | rfl | rfl <;> omega) hc.1 hc.2.1 hc.2.2 (hway.imp (·.1) (·.1)) o.ia0 o.ia1 o.ia2 o.ic0 o.ic1 o.ic2 o.his o.hiw o.hA o.hz o.hpi o.hP o.hrl o.hrr o.hcl o.hcr B F X N hm1 hm2 hm3 hne hok hcds T hk C o.hwb o.hans hdp hun hret
end Mine
end PassOkPart
section LoopPart
open PySem PySem.W PyProof.Rows PySem.Spec PySem.Calls PySem.Flt
namespace Mine
def TurnEnd (h₀ : Heap) (L : Addr) (J : (Str → Option Value) → List (Addr × Obj) → Prop) (I : Addr) (oI : Obj) (s : Shared) (Q : Flow → Shared → Prop) (f : Flow) (s₂ : Shared) : Prop :=
  match f with
  | .ret v => Q (.ret v) s₂
  | .brk => Q .next s₂
  | _ => ∃ h' tk' m' nx', s₂ = { s with heap := h', toks := tk' } ∧ Fr h₀ L h' m' ∧ News h₀ L h' ((I, oI) :: nx') ∧ (∀ p ∈ nx', p.1 ≠ I) ∧ J m' nx'
section
variable {prog : Program} {w : World} {A : Around} {E : Value → Shared → Prop} {s : Shared} {env : Env} {h₀ : Heap} {x : Str} {body : List Stmt} {Q : Flow → Shared → Prop}
theorem iter_rangeJ {r : Addr} {b₀ : Int} {t₀ u₀ v₀ : Tok} {n : Nat} {m₀ : Str → Option Value} {news : List (Addr × Obj)} (J : (Str → Option Value) → List (Addr × Obj) → Prop)
    (hh : A.handled = none) (hr : IsRange s.heap r 0 b₀ 1 t₀ u₀ v₀) (hsmall : Builtin.Range.small 0 b₀ 1 = true) (hn : Builtin.Range.rangeSize 0 b₀ 1 = (n : Int)) (F : Fr h₀ env.locals s.heap m₀) (N : News h₀ env.locals s.heap news) (hJ : J m₀ news)
    (turn : ∀ (k : Int) (t : Tok) m₁ nx h tk I oI, 0 ≤ k → k < n → J m₁ nx → (∀ p ∈ nx, p.1 ≠ I) → Fr h₀ env.locals h (fun y => if y = x then some (.int k t) else m₁ y) → News h₀ env.locals h ((I, oI) :: nx) →
      wpAny (model prog w) A (execs body env) (TurnEnd h₀ env.locals J I oI { s with heap := h, toks := tk } Q) E { s with heap := h, toks := tk })
    (done : ∀ m₁ nx h tk, J m₁ nx → Fr h₀ env.locals h m₁ → News h₀ env.locals h nx → Q .next { s with heap := h, toks := tk }) :
    wpAny (model prog w) A (pyIter (.ref r)) (fun it s₂ => LoopAtV prog w A h₀ env x body Q E it s₂) E s := by
  refine wpAny_pyIter_range hr hsmall ?_
  have W : Walks prog w A s.heap.objs.size [s.heap.objs.size] [s.heap.objs.size] n (fun i v => i < n ∧ ∃ t, v = .int (0 + i * 1) t)
      (fun i h => IsRangeIter h s.heap.objs.size (0 + (i : Nat) * 1) ((n : Int) - (i : Nat)) 1) := (Walks.range hh _ 0 1 n).bound
  have hI₀ : h₀.get? s.heap.objs.size = none := next_is_new F
  refine ⟨_, _, _, n, _, _, m₀, news, fun _ m nx => J m nx, rfl, W, ?_, ?_, ?_, (by show IsRangeIter _ _ _ _ _; rw [hn]; simpa using Heap.get?_push_size _ rfl), F.push _, (fun p hp => ⟨Heap.get?_push_of_some _ (N p hp).1, (N p hp).2⟩), hJ, ?_, ?_⟩
  · intro hm
    exact absurd F.ns.lt ((List.mem_singleton.mp hm) ▸ Nat.lt_irrefl _)
  · intro b hb
    rw [List.mem_singleton.mp hb]
    exact hI₀
  · intro p hp hI
    exact absurd (Heap.lt_size (N p hp).1) ((List.mem_singleton.mp hI) ▸ Nat.lt_irrefl _)
  · rintro i v m₁ news₁ s₁ own ⟨hh', tk', rfl⟩ hin ⟨_, t, rfl⟩ hJ' hoff hown hget hall hst F₁ N₁
    obtain ⟨oI, hst'⟩ : ∃ oI, hh'.get? s.heap.objs.size = some oI := ⟨_, hst⟩
    have hm : (s.heap.objs.size, oI) ∈ own := hall s.heap.objs.size (List.mem_singleton.mpr rfl) hI₀ _ hst'
    refine wpAny_mono (turn (i : Int) t m₁ news₁ hh' tk' s.heap.objs.size oI (by omega) (by omega) hJ' (fun p hp e => hoff p hp (by rw [e]; exact List.mem_singleton.mpr rfl)) (by simpa using F₁) (fun p hp => ?_)) (fun f s₂ h₂ => ?_) fun _ _ e => e
    · rcases List.mem_cons.mp hp with rfl | hp
      · exact N₁ _ (List.mem_append_left _ hm)
      · exact N₁ p (List.mem_append_right _ hp)
    · have fin : (∃ h' tk'' m' nx', s₂ = { s with heap := h', toks := tk'' } ∧ Fr h₀ env.locals h' m' ∧ News h₀ env.locals h' ((s.heap.objs.size, oI) :: nx') ∧ (∀ p ∈ nx', p.1 ≠ s.heap.objs.size) ∧ J m' nx') →
          LoopStepU h₀ env.locals [s.heap.objs.size] own (fun m nx => J m nx) { s with heap := hh', toks := tk' } .next s₂ := by
        rintro ⟨h', tk'', m', nx', rfl, F', N', ho, hJ''⟩
        refine ⟨rfl, h', tk'', m', nx', rfl, F', fun p hp => ?_, fun p hp e => ho p hp (List.mem_singleton.mp e), hJ''⟩
        rcases List.mem_append.mp hp with hp | hp
        · have e1 : p.1 = s.heap.objs.size := List.mem_singleton.mp (hown p hp)
          have e2 := hget p hp
          rw [e1] at e2
          have e2' : hh'.get? s.heap.objs.size = some p.2 := e2
          have e3 := (N' _ List.mem_cons_self)
          rw [hst'] at e2'
          have e4 : p = (s.heap.objs.size, oI) := Prod.ext e1 (Option.some.inj e2').symm
          rw [e4]
          exact e3
        · exact N' p (List.mem_cons_of_mem _ hp)
      cases f with
      | ret v => exact .ret h₂
      | brk => exact .brk h₂
      | next => exact .next (fin h₂)
      | cont => exact .cont (fin h₂)
  · rintro h' tk m' news' F' N' _ hJ'
    exact done m' news' h' tk hJ' F' N'
theorem iter_listJ {l : Addr} {its : Array Value} {c : Nat} {m₀ : Str → Option Value} {news : List (Addr × Obj)} (J : (Str → Option Value) → List (Addr × Obj) → Prop) (hJl : ∀ m nx, J m nx → (l, W.listOf its c) ∈ nx)
    (hh : A.handled = none) (F : Fr h₀ env.locals s.heap m₀) (N : News h₀ env.locals s.heap news) (hJ : J m₀ news)
    (turn : ∀ (i : Nat) (v : Value) m₁ nx h tk I oI, its[i]? = some v → J m₁ nx → (∀ p ∈ nx, p.1 ≠ I) → Fr h₀ env.locals h (fun y => if y = x then some v else m₁ y) → News h₀ env.locals h ((I, oI) :: nx) →
      wpAny (model prog w) A (execs body env) (TurnEnd h₀ env.locals J I oI { s with heap := h, toks := tk } Q) E { s with heap := h, toks := tk })
    (done : ∀ m₁ nx h tk, J m₁ nx → Fr h₀ env.locals h m₁ → News h₀ env.locals h nx → Q .next { s with heap := h, toks := tk }) :
    wpAny (model prog w) A (pyIter (.ref l)) (fun it s₂ => LoopAtV prog w A h₀ env x body Q E it s₂) E s := by
  have hl0 := N _ (hJl _ _ hJ)
  have hls : s.heap.IsList l its := ⟨_, hl0.1, rfl, c, rfl⟩
  have hlt : l < s.heap.objs.size := Heap.lt_size hl0.1
  refine wpAny_pyIter_list hls ?_
  have Wk := Walks.list (prog := prog) (w := w) hh s.heap.objs.size l (Nat.ne_of_lt hlt) its
  have hI₀ : h₀.get? s.heap.objs.size = none := next_is_new F
  refine ⟨_, _, _, its.size, _, _, m₀, news, fun _ m nx => J m nx, rfl, Wk, ?_, ?_, ?_, ⟨⟨_, Heap.get?_push_size _ rfl, rfl, rfl⟩, hls.at fun o e => Heap.get?_push_of_some _ e⟩, F.push _, (fun p hp => ⟨Heap.get?_push_of_some _ (N p hp).1, (N p hp).2⟩), hJ, ?_, ?_⟩
  · intro hm
    rcases List.mem_cons.mp hm with e | hm
    · exact absurd F.ns.lt (e ▸ Nat.lt_irrefl _)
    · exact hl0.2.1 (List.mem_singleton.mp hm).symm
  · intro b hb
    rw [List.mem_singleton.mp hb]
    exact hI₀
  · intro p hp hI
    exact absurd (Heap.lt_size (N p hp).1) ((List.mem_singleton.mp hI) ▸ Nat.lt_irrefl _)
  · rintro i v m₁ news₁ s₁ own ⟨hh', tk', rfl⟩ hin hP hJ' hoff hown hget hall hst F₁ N₁
    obtain ⟨oI, hst', _⟩ := hst.1
    have hst' : hh'.get? s.heap.objs.size = some oI := hst'
    have hm : (s.heap.objs.size, oI) ∈ own := hall s.heap.objs.size (List.mem_cons_self) hI₀ _ hst'
    have hl1 : hh'.get? l = some (W.listOf its c) := (N₁ _ (List.mem_append_right _ (hJl _ _ hJ'))).1
    refine wpAny_mono (turn i v m₁ news₁ hh' tk' s.heap.objs.size oI hP hJ' (fun p hp e => hoff p hp (by rw [e]; exact List.mem_singleton.mpr rfl)) F₁ (fun p hp => ?_)) (fun f s₂ h₂ => ?_) fun _ _ e => e
    · rcases List.mem_cons.mp hp with rfl | hp
      · exact N₁ _ (List.mem_append_left _ hm)
      · exact N₁ p (List.mem_append_right _ hp)
    · have fin : (∃ h' tk'' m' nx', s₂ = { s with heap := h', toks := tk'' } ∧ Fr h₀ env.locals h' m' ∧ News h₀ env.locals h' ((s.heap.objs.size, oI) :: nx') ∧ (∀ p ∈ nx', p.1 ≠ s.heap.objs.size) ∧ J m' nx') →
          LoopStepU h₀ env.locals [s.heap.objs.size] own (fun m nx => J m nx) { s with heap := hh', toks := tk' } .next s₂ := by
        rintro ⟨h', tk'', m', nx', rfl, F', N', ho, hJ''⟩
        refine ⟨rfl, h', tk'', m', nx', rfl, F', fun p hp => ?_, fun p hp e => ho p hp (List.mem_singleton.mp e), hJ''⟩
        rcases List.mem_append.mp hp with hp | hp
        · have e2 := hget p hp
          have e2' : hh'.get? p.1 = some p.2 := e2
          rcases List.mem_cons.mp (hown p hp) with e1 | e1
          · have e1 : p.1 = s.heap.objs.size := e1
            rw [e1, hst'] at e2'
            have e4 : p = (s.heap.objs.size, oI) := Prod.ext e1 (Option.some.inj e2').symm
            rw [e4]
            exact N' _ List.mem_cons_self
          · have e1 : p.1 = l := List.mem_singleton.mp e1
            rw [e1, hl1] at e2'
            have e4 : p = (l, W.listOf its c) := Prod.ext e1 (Option.some.inj e2').symm
            rw [e4]
            exact N' _ (List.mem_cons_of_mem _ (hJl _ _ hJ''))
        · exact N' p (List.mem_cons_of_mem _ hp)
      cases f with
      | ret v => exact .ret h₂
      | brk => exact .brk h₂
      | next => exact .next (fin h₂)
      | cont => exact .cont (fin h₂)
  · rintro h' tk m' news' F' N' _ hJ'
    exact done m' news' h' tk hJ' F' N'
end
end Mine
end LoopPart
section FadesPart
open PySem PySem.W PyProof.Rows PySem.Spec PySem.Calls PySem.Flt
namespace Mine
def ColsIn (n : Nat) (ca spa : Addr) (rest : List (Addr × Obj)) : Prop :=
  ∃ (vs ws : List Value) (k1 k2 : Nat), (ca, listOf vs.toArray k1) ∈ rest ∧ vs.length = n ∧ (spa, listOf ws.toArray k2) ∈ rest ∧
    (∀ i : Nat, i < n → ∃ (ad : Addr) (r g b : Int) (tr tg tb : Tok) (k : Nat), vs[i]? = some (.ref ad) ∧ (ad, listOf #[.int r tr, .int g tg, .int b tb] k) ∈ rest ∧ Col8 r g b ∧ ¬ (r = g ∧ g = b)) ∧
    (∀ i : Nat, i < n → ∃ (s : Int) (t : Tok), ws[i]? = some (.int s t) ∧ Span s)
theorem ColsIn.mono {n : Nat} {ca spa : Addr} {rest rest' : List (Addr × Obj)} (h : ColsIn n ca spa rest) (hs : ∀ p ∈ rest, p ∈ rest') : ColsIn n ca spa rest' := by
  obtain ⟨vs, ws, k1, k2, h1, h2, h3, h4, h5⟩ := h
  exact ⟨vs, ws, k1, k2, hs _ h1, h2, hs _ h3, fun i hi => let ⟨ad, r, g, b, tr, tg, tb, k, e, hm, q⟩ := h4 i hi; ⟨ad, r, g, b, tr, tg, tb, k, e, hs _ hm, q⟩, h5⟩
section
variable {prog : Program} {w : World} {A : Around} {E : Value → Shared → Prop} {s : Shared} {Q : Value → Shared → Prop} {h₀ : Heap} {L : Addr} {news rest : List (Addr × Obj)}
theorem item_col {value slice : PySem.Expr} {ca spa : Addr} {n : Nat} {k : Int} {u : Tok} (N : News h₀ L s.heap news) (hsub : ∀ p ∈ rest, p ∈ news) (hc : ColsIn n ca spa rest) (h0 : 0 ≤ k) (hk : k < n) (hn : n < 1000)
    (h : ∀ (ad : Addr) (r g b : Int) (tr tg tb : Tok) (kk : Nat), (ad, W.listOf #[.int r tr, .int g tg, .int b tb] kk) ∈ rest → Col8 r g b → ¬ (r = g ∧ g = b) → Q (.ref ad) s)
    (hs : subscripted slice false (.ref ca) (.int k u) = operate [.ref ca, .int k u] (getItem (.ref ca) (.int k u)) := by with_unfolding_all rfl) :
    wpAny (model prog w) A (subscriptTail value slice (.ref ca) (.int k u)) Q E s := by
  obtain ⟨vs, ws, k1, k2, h1, h2, h3, h4, h5⟩ := hc
  obtain ⟨ad, r, g, b, tr, tg, tb, kk, e, hm, hc8, hng⟩ := h4 k.toNat (by omega)
  exact item_litK (vs := vs) ⟨_, (N _ (hsub _ h1)).1, rfl, k1, rfl⟩ h0 (by omega) e (h ad r g b tr tg tb kk hm hc8 hng) hs
theorem item_span {value slice : PySem.Expr} {ca spa : Addr} {n : Nat} {k : Int} {u : Tok} (N : News h₀ L s.heap news) (hsub : ∀ p ∈ rest, p ∈ news) (hc : ColsIn n ca spa rest) (h0 : 0 ≤ k) (hk : k < n) (hn : n < 1000)
    (h : ∀ (sp : Int) (t : Tok), Span sp → Q (.int sp t) s)
    (hs : subscripted slice false (.ref spa) (.int k u) = operate [.ref spa, .int k u] (getItem (.ref spa) (.int k u)) := by with_unfolding_all rfl) :
    wpAny (model prog w) A (subscriptTail value slice (.ref spa) (.int k u)) Q E s := by
  obtain ⟨vs, ws, k1, k2, h1, h2, h3, h4, h5⟩ := hc
  obtain ⟨sp, t, e, hsp⟩ := h5 k.toNat (by omega)
  exact item_litK (vs := ws) ⟨_, (N _ (hsub _ h3)).1, rfl, k2, rfl⟩ h0 (by omega) e (h sp t hsp) hs
end
abbrev mapF (ca spa : Addr) (n : Int) (tc : Tok) (vp vf vs vw ve vo : Option Value) : Str → Option Value := fun y =>
  if y = Str.ofString "colours" then some (.ref ca) else if y = Str.ofString "spans" then some (.ref spa) else if y = Str.ofString "count" then some (.int n tc) else
  if y = Str.ofString "place" then vp else if y = Str.ofString "first" then vf else if y = Str.ofString "second" then vs else if y = Str.ofString "way" then vw else if y = Str.ofString "ends" then ve else
  if y = Str.ofString "post" then vo else none
theorem mapF_init {ca spa : Addr} {n : Int} {tc : Tok} :
    (fun y => if y = Str.ofString "count" then some (Value.int n tc) else List.lookup y [(Str.ofString "spans", Value.ref spa), (Str.ofString "colours", Value.ref ca)]) = mapF ca spa n tc none none none none none none := by
  funext y
  by_cases h1 : y = Str.ofString "colours"
  · subst h1; rfl
  by_cases h2 : y = Str.ofString "spans"
  · subst h2; rfl
  by_cases h3 : y = Str.ofString "count"
  · subst h3; rfl
  simp only [mapF, h1, h2, h3, if_false, List.lookup, beq_eq_false_iff_ne.mpr h1, beq_eq_false_iff_ne.mpr h2, ite_self]
theorem mapF_of {ca spa : Addr} {n : Int} {tc : Tok} {m' : Str → Option Value} (h1 : m' (Str.ofString "colours") = some (.ref ca)) (h2 : m' (Str.ofString "spans") = some (.ref spa)) (h3 : m' (Str.ofString "count") = some (.int n tc))
    (h0 : ∀ y, y ≠ Str.ofString "place" → y ≠ Str.ofString "first" → y ≠ Str.ofString "second" → y ≠ Str.ofString "way" → y ≠ Str.ofString "ends" → y ≠ Str.ofString "post" → y ≠ Str.ofString "colours" → y ≠ Str.ofString "spans" → y ≠ Str.ofString "count" → m' y = none) :
    m' = mapF ca spa n tc (m' (Str.ofString "place")) (m' (Str.ofString "first")) (m' (Str.ofString "second")) (m' (Str.ofString "way")) (m' (Str.ofString "ends")) (m' (Str.ofString "post")) := by
  funext y
  by_cases e1 : y = Str.ofString "colours"
  · subst e1; exact h1
  by_cases e2 : y = Str.ofString "spans"
  · subst e2; exact h2
  by_cases e3 : y = Str.ofString "count"
  · subst e3; exact h3
  by_cases e4 : y = Str.ofString "place"
  · subst e4; rfl
  by_cases e5 : y = Str.ofString "first"
  · subst e5; rfl
  by_cases e6 : y = Str.ofString "second"
  · subst e6; rfl
  by_cases e7 : y = Str.ofString "way"
  · subst e7; rfl
  by_cases e8 : y = Str.ofString "ends"
  · subst e8; rfl
  by_cases e9 : y = Str.ofString "post"
  · subst e9; rfl
  rw [h0 y e4 e5 e6 e7 e8 e9 e1 e2 e3]
  simp only [mapF, e1, e2, e3, e4, e5, e6, e7, e8, e9, if_false]
theorem fr_mapF {g h : Heap} {L : Addr} {ca spa : Addr} {n : Int} {tc : Tok} {m' : Str → Option Value} {vp vf vs vw ve vo : Option Value} (F : Fr g L h m') (h1 : m' (Str.ofString "colours") = some (.ref ca)) (h2 : m' (Str.ofString "spans") = some (.ref spa)) (h3 : m' (Str.ofString "count") = some (.int n tc))
    (h4 : m' (Str.ofString "place") = vp) (h5 : m' (Str.ofString "first") = vf) (h6 : m' (Str.ofString "second") = vs) (h7 : m' (Str.ofString "way") = vw) (h8 : m' (Str.ofString "ends") = ve) (h9 : m' (Str.ofString "post") = vo)
    (h0 : ∀ y, y ≠ Str.ofString "place" → y ≠ Str.ofString "first" → y ≠ Str.ofString "second" → y ≠ Str.ofString "way" → y ≠ Str.ofString "ends" → y ≠ Str.ofString "post" → y ≠ Str.ofString "colours" → y ≠ Str.ofString "spans" → y ≠ Str.ofString "count" → m' y = none) :
    Fr g L h (mapF ca spa n tc vp vf vs vw ve vo) := by
  subst h4 h5 h6 h7 h8 h9
  rw [← mapF_of h1 h2 h3 h0]
  exact F
theorem posdef {x y : Int} (h : ¬ (x = 0 ∧ y = 0)) : 0 < x * x + y * y - x * y := by
  have e : 4 * (x * x + y * y - x * y) = (2 * x - y) * (2 * x - y) + 3 * (y * y) := by grind
  have h1 : 0 ≤ (2 * x - y) * (2 * x - y) := by
    rcases Int.le_total 0 (2 * x - y) with q | q
    · exact Int.mul_nonneg q q
    · exact Int.mul_nonneg_of_nonpos_of_nonpos q q
  have h2 : 0 ≤ y * y := by
    rcases Int.le_total 0 y with q | q
    · exact Int.mul_nonneg q q
    · exact Int.mul_nonneg_of_nonpos_of_nonpos q q
  by_cases hy : y = 0
  · subst hy
    have hx : x ≠ 0 := fun q => h ⟨q, rfl⟩
    have : 0 < x * x := by
      rcases Int.lt_or_gt_of_ne hx with q | q
      · exact Int.mul_pos_of_neg_of_neg q q
      · exact Int.mul_pos q q
    simpa using this
  · have : 0 < y * y := by
      rcases Int.lt_or_gt_of_ne hy with q | q
      · exact Int.mul_pos_of_neg_of_neg q q
      · exact Int.mul_pos q q
    omega
theorem cross_rot {a0 a1 a2 b0 b1 b2 : Int} (ha : ¬ (a0 = a1 ∧ a1 = a2)) (hb : ¬ (b0 = b1 ∧ b1 = b2)) (h : crossI a0 a1 a2 b0 b1 b2 = 0) : crossI a0 a1 a2 b1 b2 b0 ≠ 0 := by
  intro h2
  unfold crossI at h h2
  have p := posdef (x := a0 - a2) (y := a1 - a2) (fun q => ha ⟨by omega, by omega⟩)
  have e1 : (b0 - b2) * ((a0 - a2) * (a0 - a2) + (a1 - a2) * (a1 - a2) - (a0 - a2) * (a1 - a2)) = 0 := by grind
  have e2 : (b1 - b2) * ((a0 - a2) * (a0 - a2) + (a1 - a2) * (a1 - a2) - (a0 - a2) * (a1 - a2)) = 0 := by grind
  rcases Int.mul_eq_zero.mp e1 with q1 | q1
  · rcases Int.mul_eq_zero.mp e2 with q2 | q2
    · exact hb ⟨by omega, by omega⟩
    · omega
  · omega
def JF (ca spa : Addr) (n : Nat) (tc : Tok) (rest₀ : List (Addr × Obj)) (m₁ : Str → Option Value) (news₁ : List (Addr × Obj)) : Prop :=
  ∃ vp vf vs vw ve vo ps rest cds, m₁ = mapF ca spa n tc vp vf vs vw ve vo ∧ news₁ = (67, tabObj ps) :: rest ∧ (∀ p ∈ rest, p.1 ≠ 67) ∧ TabOk QL ps cds ∧ (∀ p ∈ cds, p ∈ rest) ∧ (∀ p ∈ rest₀, p ∈ rest)
def JP (ca spa : Addr) (n : Nat) (tc : Tok) (k : Int) (tk : Tok) (fa sa : Addr) (way : Int) (tw : Tok) (De : Addr) (I : Addr) (restP : List (Addr × Obj)) (m₁ : Str → Option Value) (news₁ : List (Addr × Obj)) : Prop :=
  ∃ vo ps rest cds, m₁ = mapF ca spa n tc (some (.int k tk)) (some (.ref fa)) (some (.ref sa)) (some (.int way tw)) (some (.ref De)) vo ∧ news₁ = (67, tabObj ps) :: rest ∧ (∀ p ∈ rest, p.1 ≠ 67) ∧ TabOk QL ps cds ∧ (∀ p ∈ cds, p ∈ rest) ∧ (∀ p ∈ cds, p.1 ≠ I) ∧ (∀ p ∈ restP, p ∈ rest)
def Pure : Prop := ∀ a0 a1 a2 b0 b1 b2 c0 c1 c2 steps way : Int, Col8 a0 a1 a2 → Col8 b0 b1 b2 → Col16 c0 c1 c2 → Span steps → Way way (crossI a0 a1 a2 b0 b1 b2) → ¬ (c0 = c1 ∧ c1 = c2) → ∃ rl rr, PassOk a0 a1 a2 b0 b1 b2 c0 c1 c2 steps way rl rr
theorem Col8.to16 {a0 a1 a2 : Int} (h : Col8 a0 a1 a2) : Col16 a0 a1 a2 := by unfold Col8 at h; unfold Col16; omega
theorem Col8.add {a0 a1 a2 b0 b1 b2 : Int} (h : Col8 a0 a1 a2) (h' : Col8 b0 b1 b2) : Col16 (a0 + b0) (a1 + b1) (a2 + b2) := by unfold Col8 at h h'; unfold Col16; omega
theorem ends_ng {a0 a1 a2 b0 b1 b2 : Int} (h : crossI a0 a1 a2 b0 b1 b2 ≠ 0) : ¬ (a0 + b0 = a1 + b1 ∧ a1 + b1 = a2 + b2) := by
  rintro ⟨h1, h2⟩
  refine h ?_
  have e1 : b1 - b2 = -(a1 - a2) := by omega
  have e2 : b0 - b2 = -(a0 - a2) := by omega
  unfold crossI
  rw [e1, e2]
  grind
theorem posts_are {pa qa De : Addr} {c0 c1 c2 d0 d1 d2 g0 g1 g2 : Int} {tc0 tc1 tc2 td0 td1 td2 e0 e1 e2 : Tok} {kc kd ke : Nat} {restP : List (Addr × Obj)}
    (hmp : (pa, listOf #[.int c0 tc0, .int c1 tc1, .int c2 tc2] kc) ∈ restP) (hmq : (qa, listOf #[.int d0 td0, .int d1 td1, .int d2 td2] kd) ∈ restP) (hme : (De, listOf #[.int g0 e0, .int g1 e1, .int g2 e2] ke) ∈ restP)
    (hc : Col16 c0 c1 c2) (hd : Col16 d0 d1 d2) (he : Col16 g0 g1 g2) (hcn : ¬ (c0 = c1 ∧ c1 = c2)) (hdn : ¬ (d0 = d1 ∧ d1 = d2)) (hen : ¬ (g0 = g1 ∧ g1 = g2)) :
    ∀ (i : Nat) (v : Value), (#[Value.ref pa, Value.ref qa, Value.ref De] : Array Value)[i]? = some v → ∃ (ad : Addr) (x0 x1 x2 : Int) (y0 y1 y2 : Tok) (kk : Nat), v = .ref ad ∧ (ad, listOf #[.int x0 y0, .int x1 y1, .int x2 y2] kk) ∈ restP ∧ Col16 x0 x1 x2 ∧ ¬ (x0 = x1 ∧ x1 = x2)
  | 0, v, h => by cases h; exact ⟨_, _, _, _, _, _, _, _, rfl, hmp, hc, hcn⟩
  | 1, v, h => by cases h; exact ⟨_, _, _, _, _, _, _, _, rfl, hmq, hd, hdn⟩
  | 2, v, h => by cases h; exact ⟨_, _, _, _, _, _, _, _, rfl, hme, he, hen⟩
  | i + 3, v, h => by simp at h
/-- behind the first if: the second end, and it is of another hue -/
def Mid1 (g : Heap) (L : Addr) (s : Shared) (ca spa : Addr) (n : Int) (tc : Tok) (k : Int) (tk : Tok) (fa : Addr) (vw ve vo : Option Value) (a0 a1 a2 : Int) (ps : Array Value) (rest₁ : List (Addr × Obj)) (fl : Flow) (s' : Shared) : Prop :=
  fl = .next ∧ ∃ (h' : Heap) (tk' : Nat) (sa : Addr) (b0 b1 b2 : Int) (u0 u1 u2 : Tok) (kb : Nat) (rest₂ : List (Addr × Obj)), s' = { s with heap := h', toks := tk' } ∧
    Fr g L h' (mapF ca spa n tc (some (.int k tk)) (some (.ref fa)) (some (.ref sa)) vw ve vo) ∧ News g L h' ((67, tabObj ps) :: rest₂) ∧ (sa, listOf #[.int b0 u0, .int b1 u1, .int b2 u2] kb) ∈ rest₂ ∧ Col8 b0 b1 b2 ∧ crossI a0 a1 a2 b0 b1 b2 ≠ 0 ∧
    (∀ p ∈ rest₁, p ∈ rest₂) ∧ (∀ p ∈ rest₂, p.1 ≠ 67)
def Mid2 (g : Heap) (L : Addr) (s : Shared) (ca spa : Addr) (n : Int) (tc : Tok) (k : Int) (tk : Tok) (fa sa : Addr) (ve vo : Option Value) (x : Int) (ps : Array Value) (rest₁ : List (Addr × Obj)) (fl : Flow) (s' : Shared) : Prop :=
  fl = .next ∧ ∃ (h' : Heap) (tk' : Nat) (way : Int) (tw : Tok) (rest₂ : List (Addr × Obj)), s' = { s with heap := h', toks := tk' } ∧
    Fr g L h' (mapF ca spa n tc (some (.int k tk)) (some (.ref fa)) (some (.ref sa)) (some (.int way tw)) ve vo) ∧ News g L h' ((67, tabObj ps) :: rest₂) ∧ Way way x ∧ (∀ p ∈ rest₁, p ∈ rest₂) ∧ (∀ p ∈ rest₂, p.1 ≠ 67)
theorem mid1_mono {M : Model} {A : Around} {E : Value → Shared → Prop} {s₀ : Shared} {t : Sem Flow} {Q : Flow → Shared → Prop} {g h : Heap} {L : Addr} {mm : Str → Option Value} (_F : Fr g L h mm) (s : Shared) (ca spa : Addr) (n : Int) (tc : Tok) (k : Int) (tk : Tok) (fa : Addr) (vw ve vo : Option Value) (a0 a1 a2 : Int) (ps : Array Value) (rest₁ : List (Addr × Obj))
    (h1 : wpAny M A t (Mid1 g L s ca spa n tc k tk fa vw ve vo a0 a1 a2 ps rest₁) E s₀) (h2 : ∀ s', Mid1 g L s ca spa n tc k tk fa vw ve vo a0 a1 a2 ps rest₁ .next s' → Q .next s') : wpAny M A t Q E s₀ :=
  wpAny_mono h1 (fun fl s' hm => by obtain ⟨rfl, r⟩ := hm; exact h2 s' ⟨rfl, r⟩) (fun _ _ e => e)
theorem mid2_mono {M : Model} {A : Around} {E : Value → Shared → Prop} {s₀ : Shared} {t : Sem Flow} {Q : Flow → Shared → Prop} {g h : Heap} {L : Addr} {mm : Str → Option Value} (_F : Fr g L h mm) (s : Shared) (ca spa : Addr) (n : Int) (tc : Tok) (k : Int) (tk : Tok) (fa sa : Addr) (ve vo : Option Value) (x : Int) (ps : Array Value) (rest₁ : List (Addr × Obj))
    (h1 : wpAny M A t (Mid2 g L s ca spa n tc k tk fa sa ve vo x ps rest₁) E s₀) (h2 : ∀ s', Mid2 g L s ca spa n tc k tk fa sa ve vo x ps rest₁ .next s' → Q .next s') : wpAny M A t Q E s₀ :=
  wpAny_mono h1 (fun fl s' hm => by obtain ⟨rfl, r⟩ := hm; exact h2 s' ⟨rfl, r⟩) (fun _ _ e => e)
local macro_rules | `(tactic| k_mem) => `(tactic| assumption)
local macro_rules | `(tactic| walk_at "call builtin:len") => `(tactic| k_extra "mine len")
local macro_rules | `(tactic| walk_at "pyIter ref") => `(tactic| k_extra "mine iter")
local macro_rules | `(tactic| walk_at "subscriptTail Name Name ref int") => `(tactic| k_extra "mine item")
local macro_rules | `(tactic| walk_at "subscriptTail Name BinOp ref int") => `(tactic| k_extra "mine item")
local macro_rules | `(tactic| walk_at "call ref") => `(tactic| k_extra "mine call")
local macro_rules | `(tactic| walk_at "call type:zip") => `(tactic| k_extra "mine zip")
local macro_rules | `(tactic| walk_at "exec Assign cons ListComp") => `(tactic| (k_here; k_dflt (refine Assign_zip (F₀ := by k_asm) (by rfl) (by with_unfolding_all rfl) (by with_unfolding_all rfl) (by decide) (by rfl) (by decide) (by rfl) (by rfl) (by decide) (by rfl) (by rfl) ?_)))
local macro_rules | `(tactic| walk_at "subscriptTail Name Slice ref ref") => `(tactic| k_extra "mine slice")
local macro_rules | `(tactic| walk_at "exec For Name List cons nil") => `(tactic| (k_here; k_dflt (refine' For_invVF ?F ?k1 ?k2 ?_; (case F => k_asm); (case k1 => exact rfl); (case k2 => exact rfl); k_whole)))
local macro_rules | `(tactic| walk_at "exec If") => `(tactic| k_extra "mine if")
local macro_rules | `(tactic| walk_at "Mid1") => `(tactic| k_extra "mine end")
local macro_rules | `(tactic| walk_at "Mid2") => `(tactic| k_extra "mine end")
local macro_rules | `(tactic| ktr_rel) => `(tactic| (refine' fr_mapF ?F ?e1 ?e2 ?e3 ?e4 ?e5 ?e6 ?e7 ?e8 ?e9 ?e0; (case F => k_asm); (case e1 => rfl); (case e2 => rfl); (case e3 => rfl); (case e4 => rfl); (case e5 => rfl); (case e6 => rfl); (case e7 => rfl); (case e8 => rfl); (case e9 => rfl); (case e0 => (intro y q4 q5 q6 q7 q8 q9 q1 q2 q3; simp only [mapF, q1, q2, q3, q4, q5, q6, q7, q8, q9, if_false]))))
local macro_rules | `(tactic| walk_at "TurnEnd") => `(tactic| k_extra "mine end")
set_option maxRecDepth 100000 in
set_option maxHeartbeats 1000000 in
theorem fades_c {w : World} {mean : ExcName → Option Value} {mg mb : Str → Option Value} {ca spa : Addr} {n : Nat} {ps : Array Value}
   {dp un : Nat} {gd : Option (List Code)} {cn : Str} {cs : Scope} {a : Addr} {ccd : Value} {cl : List (Str × Addr)} {outer : List Env} {A₀ : Around} {base h₀ : Heap} {L : Addr} {m : Str → Option Value} {s : Shared} {Q E : Value → Shared → Prop} {rest cds : List (Addr × Obj)} 
   (hpure : Pure) (hn : 3 ≤ n ∧ n ≤ 5) (hcols : ColsIn n ca spa rest)
   (B : Below A₀ base outer h₀) (F : Fr h₀ L s.heap m) (X : (hd.heap_39 w.params).In h₀) (N : News h₀ L s.heap ((67, tabObj ps) :: rest)) 
   (hne : ∀ p ∈ rest, p.1 ≠ 67) (hok : TabOk QL ps cds) (hcds : ∀ p ∈ cds, p ∈ rest) (T : Top topProg LS mean mg mb h₀) (hk : cs.kind = .function) (C : CodeHd base 71 67)
   (hdp : dp + 8 < recursionLimit) (hun : un + 64 < cLine)
   (hret : ∀ (h' : Heap) (tk' : Nat) (ps' : Array Value) (rest' : List (Addr × Obj)), Fr h₀ L h' m → News h₀ L h' ((67, tabObj ps') :: rest') → (∀ p ∈ rest', p.1 ≠ 67) → (∀ p ∈ rest, p ∈ rest') → Q (.bool true) { s with heap := h', toks := tk' }) : 
   wpAny (model Challenge.rw_pe0103_01.row.prog w) (ktrTop dp un gd cn cs L a ccd cl outer) (call (.ref 77) [.ref ca, .ref spa]) Q E s := by
  revert X; k_fill; intro X
  k_with_none
  obtain ⟨vs, ws, k1, k2, g1, g2, g3, g4, g5⟩ := id hcols
  k_with "mine len" => (k_dflt (refine len_m (by k_asm) (by k_mem) (n := (n : Int)) (by simp [g2]) (by omega) ?_); intro tok9 tk9; (try dsimp only))
  k_with "mine iter" => (refine Hold.mk ?_)
  k_with "mine call" => (refine Hold.mk ?_)
  k_with "mine item" => (refine Hold.mk ?_)
  k_with "mine slice" => (refine Hold.mk ?_)
  k_with "mine zip" => (refine Hold.mk ?_)
  k_with "mine end" => (refine Hold.mk ?_)
  refine wpAny_call ?_
  k_dflt cell_enter
  k_steps
  refine Hold.out ?_
  refine iter_rangeJ (JF ca spa n tok9 rest) (n := n) (b₀ := (n : Int)) rfl (by assumption) (small_one (by omega) (by omega) (by omega) (by omega)) (by rw [rangeSize_nat]; omega) (by k_asm) (by k_asm) ?_ ?_ ?_
  · exact ⟨_, _, _, _, _, _, _, _, _, mapF_init, rfl, hne, hok, hcds, fun _ h => h⟩
  · intro k tk₁ m₁ nx h₁ tkk I oI hk0 hkn hJ hI F₁ N₁
    obtain ⟨vp, vf, vs', vw, ve, vo, ps₁, rest₁, cds₁, rfl, rfl, hne₁, hok₁, hcds₁, hsub₁⟩ := hJ
    have hcols₁ := hcols.mono hsub₁
    have hin : ∀ p ∈ rest₁, p ∈ (I, oI) :: (67, tabObj ps₁) :: rest₁ := fun p hp => .tail _ (.tail _ hp)
    k_with_none
    k_with "mine call" => (refine Hold.mk ?_)
    k_with "mine item" => (refine Hold.mk ?_)
    k_with "mine slice" => (refine Hold.mk ?_)
    k_with "mine zip" => (refine Hold.mk ?_)
    k_with "mine end" => (refine Hold.mk ?_)
    k_with "mine if" => (refine Hold.mk ?_)
    k_steps
    refine Hold.out ?_
    refine item_col (by k_asm) hin hcols₁ hk0 (by omega) (by omega) ?_
    intro fa a0 a1 a2 ta0 ta1 ta2 kf hmf ha hang
    k_steps
    have hj1 := (fdiv_fmod_facts (k + 1) (n : Int)).2.2.1 (by omega)
    refine Hold.out ?_
    refine item_col (by k_asm) hin hcols₁ hj1.1 hj1.2 (by omega) ?_
    intro sa b0 b1 b2 tb0 tb1 tb2 kb hms hb hbng
    k_steps
    refine Hold.out ?_
    refine mid1_mono (by k_asm) s ca spa n tok9 k tk₁ fa vw ve vo a0 a1 a2 ps₁ ((I, oI) :: rest₁) ?_ ?_
    · k_with_none
      k_with "mine call" => (refine Hold.mk ?_)
      k_with "mine slice" => (refine Hold.mk ?_)
      k_with "mine end" => (refine Hold.mk ?_)
      k_steps
      refine Hold.out ?_
      refine cross_c (a0 := a0) (a1 := a1) (a2 := a2) (b0 := b0) (b1 := b1) (b2 := b2) (by have := ha.1; omega) (by have := ha.2.1; omega) (by have := ha.2.2; omega) (by have := hb.1; omega) (by have := hb.2.1; omega) (by have := hb.2.2; omega) (by k_asm) (by k_asm) (by k_asm) (by k_asm) (hin _ hmf) (hin _ hms) (by k_asm) rfl (by ktr_room) (by ktr_units) ?_
      intro tl7 h7 tk7 F7 N7
      (try dsimp only)
      k_steps
      · have hcz : crossI a0 a1 a2 b0 b1 b2 = 0 := by first | assumption | (simpa using (by assumption : (crossI a0 a1 a2 b0 b1 b2 == 0) = true))
        refine Hold.out ?_
        refine kms_slice_lit (its := #[.int b0 tb0, .int b1 tb1, .int b2 tb2]) (zs := [.int b1 tb1, .int b2 tb2]) (by k_asm) (by k_asm) ⟨_, (N7 _ (hin _ hms)).1, rfl, kb, rfl⟩ (by kmk_part) (by kmk_part) (by rfl) ?_ (by with_unfolding_all rfl) (by kmk_pure) (by kmk_size)
        intro D1 hd1 FD1 ND1 ld1
        (try dsimp only)
        k_steps
        refine Hold.out ?_
        refine kms_slice_lit (its := #[.int b0 tb0, .int b1 tb1, .int b2 tb2]) (zs := [.int b0 tb0]) (by k_asm) (by k_asm) ⟨_, (ND1 _ (.tail _ (hin _ hms))).1, rfl, kb, rfl⟩ (by kmk_part) (by kmk_part) (by rfl) ?_ (by with_unfolding_all rfl) (by kmk_pure) (by kmk_size)
        intro D2 hd2 FD2 ND2 ld2
        (try dsimp only)
        have m67 : 67 < D1 := ld1 (67, tabObj ps₁) (.tail _ (.head _))
        have m67' : D1 < D2 := ld2 (D1, _) (.head _)
        k_steps
        rename News _ _ _ _ => N9
        refine Hold.out ⟨rfl, _, _, _, b1, b2, b0, tb1, tb2, tb0, 0, _ :: (I, oI) :: rest₁, rfl, by ktr_rel, fun p hp => ?_, .head _, ⟨hb.2.1, hb.2.2, hb.1⟩, cross_rot hang hbng hcz, fun p hp => .tail _ hp, fun p hp => ?_⟩
        · refine N9 p ?_
          rcases List.mem_cons.mp hp with rfl | hp
          · exact .tail _ (.tail _ (.tail _ (.tail _ (.head _))))
          · rcases List.mem_cons.mp hp with rfl | hp
            · exact .head _
            · rcases List.mem_cons.mp hp with rfl | hp
              · exact .tail _ (.tail _ (.tail _ (.head _)))
              · exact .tail _ (.tail _ (.tail _ (.tail _ (.tail _ hp))))
        · rcases List.mem_cons.mp hp with rfl | hp
          · exact neN (by dsimp only; omega)
          · rcases List.mem_cons.mp hp with rfl | hp
            · exact fun e => hI (67, tabObj ps₁) (.head _) e.symm
            · exact hne₁ p hp
      · have hcz : crossI a0 a1 a2 b0 b1 b2 ≠ 0 := by first | assumption | (simpa using (by assumption : (crossI a0 a1 a2 b0 b1 b2 == 0) = false))
        refine Hold.out ⟨rfl, _, _, sa, b0, b1, b2, tb0, tb1, tb2, kb, (I, oI) :: rest₁, rfl, by ktr_rel, fun p hp => ?_, .tail _ hms, hb, hcz, fun p hp => hp, fun p hp => ?_⟩
        · refine N7 p ?_
          rcases List.mem_cons.mp hp with rfl | hp
          · exact .tail _ (.head _)
          · rcases List.mem_cons.mp hp with rfl | hp
            · exact .head _
            · exact .tail _ (.tail _ hp)
        · rcases List.mem_cons.mp hp with rfl | hp
          · exact fun e => hI (67, tabObj ps₁) (.head _) e.symm
          · exact hne₁ p hp
    · rintro s' ⟨-, h₂, tk₂, sa, b0, b1, b2, tb0, tb1, tb2, kb, rest₂, rfl, F₂, N₂, hms, hb, hcr, hsub₂, hne₂⟩
      (try dsimp only)
      k_with_none
      k_with "mine if" => (refine Hold.mk ?_)
      k_steps
      refine Hold.out ?_
      refine mid2_mono (by k_asm) s ca spa n tok9 k tk₁ fa sa ve vo (crossI a0 a1 a2 b0 b1 b2) ps₁ rest₂ ?_ ?_
      · k_with_none
        k_with "mine call" => (refine Hold.mk ?_)
        k_with "mine end" => (refine Hold.mk ?_)
        k_steps
        refine Hold.out ?_
        refine cross_c (a0 := a0) (a1 := a1) (a2 := a2) (b0 := b0) (b1 := b1) (b2 := b2) (by have := ha.1; omega) (by have := ha.2.1; omega) (by have := ha.2.2; omega) (by have := hb.1; omega) (by have := hb.2.1; omega) (by have := hb.2.2; omega) (by k_asm) (by k_asm) (by k_asm) (by k_asm) (.tail _ (hsub₂ _ (.tail _ hmf))) (.tail _ hms) (by k_asm) rfl (by ktr_room) (by ktr_units) ?_
        intro tl8 h8 tk8 F8 N8
        (try dsimp only)
        k_steps
        · have hneg : crossI a0 a1 a2 b0 b1 b2 < 0 := by first | assumption | (apply of_decide_eq_true; assumption)
          exact Hold.out ⟨rfl, _, _, -1, _, rest₂, rfl, by ktr_rel, by k_asm, .inr ⟨rfl, hneg⟩, fun p hp => hp, hne₂⟩
        · have hneg : ¬ crossI a0 a1 a2 b0 b1 b2 < 0 := by first | assumption | (apply of_decide_eq_false; assumption)
          exact Hold.out ⟨rfl, _, _, 1, _, rest₂, rfl, by ktr_rel, by k_asm, .inl ⟨rfl, by omega⟩, fun p hp => hp, hne₂⟩
      · rintro s' ⟨-, h₃, tk₃, way, tw, rest₃, rfl, F₃, N₃, hway, hsub₃, hne₃⟩
        (try dsimp only)
        k_with_none
        k_with "mine call" => (refine Hold.mk ?_)
        k_with "mine item" => (refine Hold.mk ?_)
        k_with "mine zip" => (refine Hold.mk ?_)
        k_with "mine iter" => (refine Hold.mk ?_)
        k_with "mine end" => (refine Hold.mk ?_)
        have hmf₃ := hsub₃ _ (hsub₂ _ (.tail _ hmf))
        have hms₃ := hsub₃ _ hms
        have hin₁ : ∀ p ∈ rest₁, p ∈ rest₃ := fun p hp => hsub₃ _ (hsub₂ _ (.tail _ hp))
        have hcols₃ := hcols₁.mono hin₁
        have hI₃ := hsub₃ _ (hsub₂ _ (.head _))
        k_steps
        refine Hold.out ?_
        refine zip_src (fun p q => p + q) rfl (by k_asm) (by k_asm) (.tail _ hmf₃) (.tail _ hms₃) ha hb ?_ ?_
        · unfold EltZ
          intro p q tp tq s₂ h tk C oC m₂ Q' E' hp0 hp8 hq0 hq8 hC' hx' hy' F' N' off' hQ'
          k_steps
          exact hQ' _ _
        intro De h₄ tk₄ e0 e1 e2 F₄ N₄ le
        (try dsimp only)
        have hj2 := (fdiv_fmod_facts (k + 2) (n : Int)).2.2.1 (by omega)
        have hj3 := (fdiv_fmod_facts (k + 3) (n : Int)).2.2.1 (by omega)
        have hin₄ : ∀ p ∈ rest₃, p ∈ (De, listOf #[.int (a0 + b0) e0, .int (a1 + b1) e1, .int (a2 + b2) e2] 3) :: (67, tabObj ps₁) :: rest₃ := fun p hp => .tail _ (.tail _ hp)
        k_steps
        refine Hold.out ?_
        refine item_col (by k_asm) hin₄ hcols₃ hj2.1 hj2.2 (by omega) ?_
        intro pa c0 c1 c2 tc0 tc1 tc2 kc hmp hpc hpng
        k_steps
        refine Hold.out ?_
        refine item_col (by k_asm) hin₄ hcols₃ hj3.1 hj3.2 (by omega) ?_
        intro qa d0 d1 d2 td0 td1 td2 kd hmq hqc hqng
        k_steps
        refine Hold.out ?_
        have hDe : 67 < De := le (67, tabObj ps₁) (.head _)
        rename Addr => lp
        rename News _ _ _ _ => N9
        have hl67 : lp ≠ 67 := neN (by omega)
        refine iter_listJ (its := #[.ref pa, .ref qa, .ref De]) (c := 0) (JP ca spa n tok9 k tk₁ fa sa way tw De I ((lp, listOf #[.ref pa, .ref qa, .ref De] 0) :: (De, listOf #[.int (a0 + b0) e0, .int (a1 + b1) e1, .int (a2 + b2) e2] 3) :: rest₃)) ?_ rfl (by k_asm) (m₀ := _) (news := (67, tabObj ps₁) :: (lp, listOf #[.ref pa, .ref qa, .ref De] 0) :: (De, listOf #[.int (a0 + b0) e0, .int (a1 + b1) e1, .int (a2 + b2) e2] 3) :: rest₃) ?_ ?_ ?_ ?_
        · rintro m nx ⟨vo', ps', rest', cds', rfl, rfl, _, _, _, _, hs⟩
          exact .tail _ (hs _ (.head _))
        · intro p hp
          refine N9 p ?_
          rcases List.mem_cons.mp hp with rfl | hp
          · exact .tail _ (.tail _ (.head _))
          · rcases List.mem_cons.mp hp with rfl | hp
            · exact .head _
            · rcases List.mem_cons.mp hp with rfl | hp
              · exact .tail _ (.head _)
              · exact .tail _ (.tail _ (.tail _ hp))
        · refine ⟨vo, ps₁, _, cds₁, ?_, rfl, fun p hp => ?_, hok₁, fun p hp => .tail _ (.tail _ (hin₁ _ (hcds₁ p hp))), fun p hp => hI p (.tail _ (hcds₁ p hp)), fun p hp => hp⟩
          · refine (mapF_of (ca := ca) (spa := spa) (n := n) (tc := tok9) rfl rfl rfl ?_).trans rfl
            intro y q4 q5 q6 q7 q8 q9 q1 q2 q3
            simp only [mapF, q1, q2, q3, q4, q5, q6, q7, q8, q9, if_false]
          · rcases List.mem_cons.mp hp with rfl | hp
            · exact hl67
            · rcases List.mem_cons.mp hp with rfl | hp
              · exact Nat.ne_of_gt hDe
              · exact hne₃ p hp
        · intro i v m₁ nx h₅ tk₅ I₂ oI₂ hv hJ hI₂ F₅ N₅
          obtain ⟨vo₅, ps₅, rest₅, cds₅, rfl, rfl, hne₅, hok₅, hcds₅, hcI₅, hsub₅⟩ := hJ
          have hsub₅' : ∀ p ∈ rest₃, p ∈ rest₅ := fun p hp => hsub₅ p (.tail _ (.tail _ hp))
          obtain ⟨pad, x0, x1, x2, y0, y1, y2, kk, rfl, hmx, hx16, hxng⟩ := posts_are (restP := rest₅) (hsub₅' _ hmp) (hsub₅' _ hmq) (hsub₅ _ (.tail _ (.head _))) hpc.to16 hqc.to16 (ha.add hb) hpng hqng (ends_ng hcr) i v hv
          k_with_none
          k_with "mine call" => (refine Hold.mk ?_)
          k_with "mine item" => (refine Hold.mk ?_)
          k_with "mine end" => (refine Hold.mk ?_)
          k_steps
          refine Hold.out ?_
          refine item_span (by k_asm) (rest := rest₅) (fun p hp => .tail _ (.tail _ hp)) (hcols₃.mono hsub₅') hk0 (by omega) (by omega) ?_
          intro sp tsp hsp
          k_steps
          refine Hold.out ?_
          refine passed_k (rest := (I₂, oI₂) :: rest₅) (cds := cds₅) (hpure _ _ _ _ _ _ _ _ _ _ _ ha hb hx16 hsp hway hxng) ha hb hx16 hsp hway (by k_asm) (by k_asm) (by k_asm) (fun p hp => ?_) (.tail _ (hsub₅' _ hmf₃)) (.tail _ (hsub₅' _ hms₃)) (.tail _ hmx) (fun p hp => ?_) hok₅ (fun p hp => .tail _ (hcds₅ p hp)) (by k_asm) rfl C (by ktr_room) (by ktr_units) ?_
          · refine N₅ p ?_
            rcases List.mem_cons.mp hp with rfl | hp
            · exact .tail _ (.head _)
            · rcases List.mem_cons.mp hp with rfl | hp
              · exact .head _
              · exact .tail _ (.tail _ hp)
          · rcases List.mem_cons.mp hp with rfl | hp
            · exact fun e => hI₂ (67, tabObj ps₅) (.head _) e.symm
            · exact hne₅ p hp
          intro h₆ tk₆ ps₆ rest₆ cds₆ F₆ N₆ hne₆ hok₆ hcds₆ hfr₆ hsub₆
          (try dsimp only)
          k_steps
          have hc1 : ∀ p ∈ cds₆, p.1 ≠ I₂ := fun p hp => (hfr₆ p hp).elim (fun q => hI₂ p (.tail _ (hcds₅ p q))) (fun q => q (I₂, oI₂) (.head _))
          have hc2 : ∀ p ∈ cds₆, p.1 ≠ I := fun p hp => (hfr₆ p hp).elim (fun q => hcI₅ p q) (fun q => q (I, oI) (.tail _ (hsub₅' _ hI₃)))
          refine Hold.out ⟨_, _, _, (67, tabObj ps₆) :: rest₆.filter (fun p => p.1 ≠ I₂), rfl, by k_asm, fun p hp => ?_, fun p hp => ?_, ⟨some (.ref pad), ps₆, _, cds₆, ?_, rfl, fun p hp => ?_, hok₆, fun p hp => ?_, hc2, fun p hp => ?_⟩⟩
          · refine N₆ p ?_
            rcases List.mem_cons.mp hp with rfl | hp
            · exact .tail _ (hsub₆ _ (.head _))
            · rcases List.mem_cons.mp hp with rfl | hp
              · exact .head _
              · exact .tail _ ((List.mem_filter.mp hp).1)
          · rcases List.mem_cons.mp hp with rfl | hp
            · exact hI₂ (67, tabObj ps₅) (.head _)
            · simpa using (List.mem_filter.mp hp).2
          · refine (mapF_of (ca := ca) (spa := spa) (n := n) (tc := tok9) rfl rfl rfl ?_).trans rfl
            intro y q4 q5 q6 q7 q8 q9 q1 q2 q3
            simp only [mapF, q1, q2, q3, q4, q5, q6, q7, q8, q9, if_false]
          · exact hne₆ p ((List.mem_filter.mp hp).1)
          · exact List.mem_filter.mpr ⟨hcds₆ p hp, by simpa using hc1 p hp⟩
          · exact List.mem_filter.mpr ⟨hsub₆ p (.tail _ (hsub₅ p hp)), by simpa using hI₂ p (.tail _ (hsub₅ p hp))⟩
        · intro m₁ nx h₇ tk₇ hJ F₇ N₇
          obtain ⟨vo₇, ps₇, rest₇, cds₇, rfl, rfl, hne₇, hok₇, hcds₇, hcI₇, hsub₇⟩ := hJ
          have hsub₇' : ∀ p ∈ rest₃, p ∈ rest₇ := fun p hp => hsub₇ p (.tail _ (.tail _ hp))
          k_with_none
          k_with "mine end" => (refine Hold.mk ?_)
          (try dsimp only)
          k_steps
          refine Hold.out ⟨_, _, _, (67, tabObj ps₇) :: rest₇.filter (fun p => p.1 ≠ I), rfl, by k_asm, fun p hp => ?_, fun p hp => ?_, ⟨_, _, _, _, _, _, ps₇, _, cds₇, rfl, rfl, fun p hp => ?_, hok₇, fun p hp => ?_, fun p hp => ?_⟩⟩
          · refine N₇ p ?_
            rcases List.mem_cons.mp hp with rfl | hp
            · exact .tail _ (hsub₇' _ hI₃)
            · rcases List.mem_cons.mp hp with rfl | hp
              · exact .head _
              · exact .tail _ ((List.mem_filter.mp hp).1)
          · rcases List.mem_cons.mp hp with rfl | hp
            · exact hI (67, tabObj ps₁) (.head _)
            · simpa using (List.mem_filter.mp hp).2
          · exact hne₇ p ((List.mem_filter.mp hp).1)
          · exact List.mem_filter.mpr ⟨hcds₇ p hp, by simpa using hcI₇ p hp⟩
          · exact List.mem_filter.mpr ⟨hsub₇' p (hin₁ p (hsub₁ p hp)), by simpa using hI p (.tail _ (hsub₁ p hp))⟩
  · intro m₁ nx h₁ tkk hJ F₁ N₁
    obtain ⟨vp, vf, vs', vw, ve, vo, ps₁, rest₁, cds₁, rfl, rfl, hne₁, hok₁, hcds₁, hsub₁⟩ := hJ
    (try dsimp only)
    k_steps
    exact hret _ _ _ _ (by k_asm) (by k_asm) hne₁ hsub₁
end Mine
end FadesPart
section ColourPart
open PySem PySem.W PyProof.Rows PySem.Spec PySem.Calls PySem.Flt
namespace Mine
theorem fm9 (x : Int) : 0 ≤ x.fmod 9 ∧ x.fmod 9 ≤ 8 := by
  have := (fdiv_fmod_facts x 9).2.2.1 (by omega)
  omega
theorem fm9_ne {r : Int} (h : 0 ≤ r ∧ r ≤ 8) : (r + 1).fmod 9 ≠ r := by
  rw [Int.fmod_eq_emod_of_nonneg _ (by omega)]
  omega
theorem allLt_mem {d : Addr} : ∀ {l : List (Addr × Obj)}, AllLt d l → ∀ p ∈ l, p.1 < d
  | [], _, p, hp => nomatch hp
  | q :: r, h, p, hp => by
    rcases List.mem_cons.mp hp with rfl | hp
    · exact h.1
    · exact allLt_mem h.2 p hp
set_option maxRecDepth 100000 in
set_option maxHeartbeats 1000000 in
theorem colour_c {w : World} {mean : ExcName → Option Value} {mg mb : Str → Option Value} {num : Int} {t0 : Tok}
   {dp un : Nat} {gd : Option (List Code)} {cn : Str} {cs : Scope} {a : Addr} {ccd : Value} {cl : List (Str × Addr)} {outer : List Env} {A₀ : Around} {base h₀ : Heap} {L : Addr} {m : Str → Option Value} {s : Shared} {Q E : Value → Shared → Prop} {news : List (Addr × Obj)} 
   (hn : 0 ≤ num ∧ num < 1000000)
   (B : Below A₀ base outer h₀) (F : Fr h₀ L s.heap m) (X : (hd.heap_39 w.params).In h₀) (N : News h₀ L s.heap news) (T : Top topProg LS mean mg mb h₀) (hk : cs.kind = .function)
   (hdp : dp + 1 < recursionLimit) (hun : un + 8 < cLine)
   (hret : ∀ (D : Addr) (r g b : Int) (tr tg tb : Tok) (h' : Heap) (tk' : Nat), Col8 r g b → ¬ (r = g ∧ g = b) → Fr h₀ L h' m → News h₀ L h' ((D, listOf #[.int r tr, .int g tg, .int b tb] 0) :: news) → (∀ p ∈ news, p.1 < D) → Q (.ref D) { s with heap := h', toks := tk' }) : 
   wpAny (model Challenge.rw_pe0103_01.row.prog w) (ktrTop dp un gd cn cs L a ccd cl outer) (call (.ref 53) [.int num t0]) Q E s := by
  revert X; k_fill; intro X
  k_with_none
  have f0 := fm9 num
  have f1 := fm9 (num.fdiv 9)
  have f2 := fm9 (num.fdiv 81)
  refine wpAny_call ?_
  k_dflt cell_enter
  k_steps
  · rename _ ∧ AllLt _ _ => lq
    have h1 : num.fmod 9 = (num.fdiv 9).fmod 9 := by first | assumption | (simpa using (by assumption : (num.fmod 9 == (num.fdiv 9).fmod 9) = true))
    have f3 := fm9 (num.fmod 9 + 1)
    exact hret _ _ _ _ _ _ _ _ _ ⟨f3, f1, f2⟩ (fun q => fm9_ne f0 (by omega)) (by k_asm) (cb_drop (by assumption) (fun p hp => by rcases List.mem_cons.mp hp with rfl | hp; exact .head _; exact .tail _ (.tail _ hp))) (allLt_mem lq.2)
  · rename _ ∧ AllLt _ _ => lq
    have h1 : (num.fdiv 9).fmod 9 ≠ (num.fdiv 81).fmod 9 := by first | assumption | (simpa using (by assumption : ((num.fdiv 9).fmod 9 == (num.fdiv 81).fmod 9) = false))
    exact hret _ _ _ _ _ _ _ _ _ ⟨f0, f1, f2⟩ (fun q => h1 q.2) (by k_asm) (cb_drop (by assumption) (fun p hp => by rcases List.mem_cons.mp hp with rfl | hp; exact .head _; exact .tail _ (.tail _ hp))) (allLt_mem lq.2)
  · rename _ ∧ AllLt _ _ => lq
    have h1 : num.fmod 9 ≠ (num.fdiv 9).fmod 9 := by first | assumption | (simpa using (by assumption : (num.fmod 9 == (num.fdiv 9).fmod 9) = false))
    exact hret _ _ _ _ _ _ _ _ _ ⟨f0, f1, f2⟩ (fun q => h1 q.1) (by k_asm) (cb_drop (by assumption) (fun p hp => by rcases List.mem_cons.mp hp with rfl | hp; exact .head _; exact .tail _ (.tail _ hp))) (allLt_mem lq.2)
end Mine
end ColourPart
section CompPart
open PySem PySem.W PyProof.Rows PySem.Spec PySem.Calls PySem.Flt PyProof.Rows.LCg
namespace Mine
section
variable {prog : Program} {w : World} {A : Around} {E : Value → Shared → Prop} {s : Shared} {h₀ : Heap} {L : Addr} {m : Str → Option Value} {env : Env}
theorem compRest_inv {elt : Expr} {x : Str} {scope : Scope} {cl : List (Str × Addr)} {S : List (Addr × Obj) → Prop} {P : Nat → Value → Prop} {Fin : List Value → List (Addr × Obj) → Prop} (Inv : Nat → List Value → List (Addr × Obj) → Prop) {n : Nat}
    (step : ∀ i ys news v I oI C oC D m₂ h tk (E' : Value → Shared → Prop), i < n → Inv i ys news → P i v → NsObj oC m₂ → m₂ x = some v → Fr h₀ L h m → News h₀ L h ((I, oI) :: (C, oC) :: (D, lst ys) :: news) → Off3 I C D news → ((@Ne Nat I C) ∧ (@Ne Nat I D) ∧ (@Ne Nat C D)) →
      wpAny (model prog w) A (eval elt (compEnvC scope cl C env)) (CompEnd h₀ L m { s with heap := h, toks := tk } I oI C oC D (lst ys) S (fun y news' => Inv (i + 1) (ys ++ [y]) news')) E' { s with heap := h, toks := tk })
    (fin : ∀ ys news, Inv n ys news → Fin ys news) :
    ∀ k i ys news, i + k = n → Inv i ys news → CompRest prog w A h₀ L m env elt x scope cl s S P Fin k i ys news := by
  intro k
  induction k with
  | zero => intro i ys news e h; exact CompRest.zero (fin _ _ (by rw [← e]; exact h))
  | succ k ih =>
    intro i ys news e h
    refine CompRest.succ fun v I oI C oC D m₂ h' tk E' hP hC hx F N off ne => ?_
    refine wpAny_mono (step i ys news v I oI C oC D m₂ h' tk E' (by omega) h hP hC hx F N off ne) (fun y s₂ h₂ => ?_) (fun _ _ e => e)
    obtain ⟨h'', tk'', news', e1, F', N', off', hS, hI⟩ := h₂
    exact ⟨h'', tk'', news', e1, F', N', off', hS, ih (i + 1) (ys ++ [y]) news' (by omega) hI⟩
/-- all ints of a list within a bound -/
def AllI (PI : Int → Prop) (vs : List Value) : Prop := ∀ i : Nat, i < vs.length → ∃ (n : Int) (t : Tok), vs[i]? = some (.int n t) ∧ PI n
def EltP (prog : Program) (w : World) (A : Around) (h₀ : Heap) (L : Addr) (m : Str → Option Value) (env : Env) (elt : Expr) (x : Str) (scope : Scope) (cl : List (Str × Addr)) (P0 PI : Int → Prop) : Prop :=
  ∀ (num : Int) (t : Tok) (s₂ : Shared) (h : Heap) (tk : Nat) (C : Addr) (oC : Obj) (led : List (Addr × Obj)) (m₂ : Str → Option Value) (Q' E' : Value → Shared → Prop), P0 num → NsObj oC m₂ → m₂ x = some (.int num t) → Fr h₀ L h m → News h₀ L h led → (C, oC) ∈ led →
    (∀ res tok tk', PI res → Q' (.int res tok) { s₂ with heap := h, toks := tk' }) → wpAny (model prog w) A (eval elt (compEnvC scope cl C env)) Q' E' { s₂ with heap := h, toks := tk }
theorem compSrc_pure {elt : Expr} {x : Str} {scope : Scope} {cl : List (Str × Addr)} {Fin : Shared → List Value → List (Addr × Obj) → Prop} {ax : Addr} {vs : List Value} {k : Nat} {news : List (Addr × Obj)} {P0 PI : Int → Prop}
    (hh : A.handled = none) (F : Fr h₀ L s.heap m) (N : News h₀ L s.heap news) (hm : (ax, W.listOf vs.toArray k) ∈ news) (hsz : vs.length ≤ 100) (hvs : AllI P0 vs)
    (helt : EltP prog w A h₀ L m env elt x scope cl P0 PI)
    (hfin : ∀ g ys, ys.length = vs.length → AllI PI ys → Fin { s with heap := g } ys news) :
    CompSrc prog w A h₀ L m env elt x scope cl Fin (.ref ax) s := by
  refine CompSrc.ledger hh F N hm (by rw [List.size_toArray, sizeLine_eq]; omega) fun g => ?_
  refine compRest_inv (n := vs.toArray.size) (fun i ys nx => nx = news ∧ ys.length = i ∧ AllI PI ys) ?_ ?_ _ 0 [] news (by simp) ⟨rfl, rfl, fun i hi => absurd hi (Nat.not_lt_zero _)⟩
  · rintro i ys nx v I oI C oC D m₂ h tk E' hi ⟨rfl, hl, hall⟩ hP hC hx F' N' off ne
    obtain ⟨num, t, e, hp⟩ := hvs i (by simpa using hi)
    have hv : v = .int num t := by
      have hP' : vs[i]? = some v := by simpa using hP
      rw [e] at hP'; exact (Option.some.inj hP').symm
    subst hv
    refine helt num t _ h tk C oC _ m₂ _ _ hp hC hx F' N' (.tail _ (.head _)) fun res tok tk' hr => ?_
    refine ⟨h, tk', nx, rfl, F', N', off, .inr ⟨_, hm, rfl, _, rfl⟩, rfl, by simp [hl], fun j hj => ?_⟩
    by_cases hj' : j < ys.length
    · obtain ⟨n', t', e', hp'⟩ := hall j hj'
      exact ⟨n', t', by rw [List.getElem?_append_left hj']; exact e', hp'⟩
    · have : j = ys.length := by simp at hj; omega
      subst this
      exact ⟨res, tok, by simp, hr⟩
  · rintro ys nx ⟨rfl, hl, hall⟩
    exact hfin g ys (by simpa using hl) hall
end
end Mine
end CompPart
section FltAPart
open PySem PySem.W PyProof.Rows PySem.Spec PySem.Calls PySem.Flt
namespace Mine
open PySem.Float64 (val V dist Right decode pack infMag sgn)
/-- 2^1024, the error of one operation in units of 2^-1074 -/
def EE : Nat := 2 ^ 1024
theorem EE_pos : 0 < EE := Nat.two_pow_pos _
theorem U_eq : (2 : Nat) ^ 1074 = 2 ^ 50 * EE := by unfold EE; rw [← Nat.pow_add]
theorem big_eq : (2 : Nat) ^ 2045 = 2 ^ 971 * (2 ^ 50 * EE) := by rw [← U_eq, ← Nat.pow_add]
theorem ac1 (d a b c : Nat) : d * (a * (b * c)) = a * b * (c * d) := by ac_rfl
theorem ac2 (a b c d : Nat) : a * (b * c) * d = a * b * (d * c) := by ac_rfl
theorem grid : ∀ (k q : Nat), q < 2 ^ 53 → ∃ t, V t = q * 2 ^ k
  | 0, q, h => ⟨q, by have := Float64.V_at (k := 0) (q := q) (by omega) (.inr rfl); simpa using this⟩
  | k + 1, q, h => by
    by_cases hq : 2 ^ 52 ≤ q
    · exact ⟨_, Float64.V_at (k := k + 1) (q := q) (by omega) (.inl hq)⟩
    · obtain ⟨t, ht⟩ := grid k (2 * q) (by omega)
      exact ⟨t, by rw [ht, Nat.pow_succ]; ac_rfl⟩
def Fin (x : UInt64) : Prop := ∃ a m e, decode x = .fin a m e
theorem fin_pack (neg : Bool) {t : Nat} (h : t < infMag) : Fin (pack neg t) := by
  obtain ⟨m, e, hd, _⟩ := Float64.decode_pack neg h
  exact ⟨_, _, _, hd⟩
theorem right_fin {r : UInt64} {neg : Bool} {W D : Nat} (h : Right r neg W D) (hD : 0 < D) (hb : W ≤ 7 * (2 ^ 50 * EE) * D) :
    ∃ t, r = pack neg t ∧ t < infMag ∧ ∀ t', dist W (D * V t) ≤ dist W (D * V t') := by
  obtain ⟨t, e, hle, hov, hn⟩ := h
  have hlt : t < infMag := by
    refine Nat.lt_of_le_of_ne hle fun q => ?_
    have := hov.mp q
    rw [big_eq] at this
    have hE := EE_pos
    have h1 : D * ((2 ^ 54 - 1) * (2 ^ 971 * (2 ^ 50 * EE))) = (2 ^ 54 - 1) * 2 ^ 971 * ((2 ^ 50 * EE) * D) := ac1 _ _ _ _
    have h2 : 7 * (2 ^ 50 * EE) * D = 7 * ((2 ^ 50 * EE) * D) := Nat.mul_assoc _ _ _
    rw [h1] at this
    rw [h2] at hb
    have hp : 0 < (2 ^ 50 * EE) * D := Nat.mul_pos (Nat.mul_pos (by decide) hE) hD
    generalize (2 ^ 50 * EE) * D = P at *
    have h3 : 15 * P ≤ (2 ^ 54 - 1) * 2 ^ 971 * P := Nat.mul_le_mul_right _ (by decide +kernel)
    omega
  exact ⟨t, e, hlt, fun t' => (hn hlt t').1⟩
theorem right_near {r : UInt64} {neg : Bool} {W D : Nat} (h : Right r neg W D) (hD : 0 < D) (hb : W ≤ 7 * (2 ^ 50 * EE) * D) :
    ∃ t, r = pack neg t ∧ t < infMag ∧ D * V t ≤ W + D * EE ∧ W ≤ D * V t + D * EE := by
  obtain ⟨t, e, hlt, hn⟩ := right_fin h hD hb
  have hDE : 0 < D * EE := Nat.mul_pos hD EE_pos
  have hq : W / (D * EE) < 2 ^ 53 := by
    rw [Nat.div_lt_iff_lt_mul hDE]
    have h2 : 7 * (2 ^ 50 * EE) * D = 7 * 2 ^ 50 * (D * EE) := ac2 _ _ _ _
    rw [h2] at hb
    generalize D * EE = P at *
    omega
  obtain ⟨t', ht'⟩ := grid 1024 _ hq
  have h1 := hn t'
  have h3 : D * V t' = W / (D * EE) * (D * EE) := by rw [ht']; exact Nat.mul_left_comm _ _ _
  rw [h3] at h1
  have h4 := Nat.div_add_mod W (D * EE)
  have h5 := Nat.mod_lt W hDE
  rw [Nat.mul_comm] at h4
  refine ⟨t, e, hlt, ?_⟩
  unfold dist at h1
  generalize W / (D * EE) * (D * EE) = a at *
  generalize W % (D * EE) = b at *
  omega
theorem right_exact {r : UInt64} {neg : Bool} {W D : Nat} (h : Right r neg W D) (hD : 0 < D) (hb : W ≤ 7 * (2 ^ 50 * EE) * D) {t' : Nat} (ht : D * V t' = W) :
    ∃ t, r = pack neg t ∧ t < infMag ∧ V t = V t' := by
  obtain ⟨t, e, hlt, hn⟩ := right_fin h hD hb
  refine ⟨t, e, hlt, ?_⟩
  have h1 := hn t'
  rw [ht] at h1
  unfold dist at h1
  have : D * V t = W := by omega
  exact Nat.eq_of_mul_eq_mul_left hD (by omega)
theorem V_inj {t t' : Nat} (h : V t = V t') : t = t' := by
  rcases Nat.lt_trichotomy t t' with q | q | q
  · have := Float64.V_lt q; omega
  · exact q
  · have := Float64.V_lt q; omega
/-- the nearest is one: equal quotients give equal floats -/
theorem right_unique {r r' : UInt64} {neg : Bool} {W D W' D' : Nat} (h : Right r neg W D) (h' : Right r' neg W' D') (hD : 0 < D) (hD' : 0 < D') (hb : W ≤ 7 * (2 ^ 50 * EE) * D) (e : W * D' = W' * D) : r = r' := by
  have hb' : W' ≤ 7 * (2 ^ 50 * EE) * D' := by
    refine Nat.le_of_mul_le_mul_right (c := D) ?_ hD
    rw [← e]
    calc W * D' ≤ 7 * (2 ^ 50 * EE) * D * D' := Nat.mul_le_mul_right _ hb
      _ = 7 * (2 ^ 50 * EE) * D' * D := Nat.mul_right_comm _ _ _
  obtain ⟨t, e1, hlt, hn⟩ := right_fin h hD hb
  obtain ⟨t', e1', hlt', hn'⟩ := right_fin h' hD' hb'
  have sc : ∀ v, D' * dist W (D * v) = D * dist W' (D' * v) := fun v => by
    rw [← Float64.dist_mul, ← Float64.dist_mul, Nat.mul_comm D' W, e, Nat.mul_comm W' D, show D' * (D * v) = D * (D' * v) by ac_rfl]
  have k1 : dist W (D * V t) ≤ dist W (D * V t') := hn t'
  have k2 : dist W (D * V t') ≤ dist W (D * V t) := by
    refine Nat.le_of_mul_le_mul_left (c := D') ?_ hD'
    rw [sc, sc]
    exact Nat.mul_le_mul_left _ (hn' t)
  suffices t = t' by rw [e1, e1', this]
  obtain ⟨s, es, _, _, hs⟩ := h
  obtain ⟨s', es', _, _, hs'⟩ := h'
  have inj : ∀ {a b : Nat}, a ≤ infMag → b ≤ infMag → pack neg a = pack neg b → a = b := fun {a b} ha hb hab => by
    have h1 := Float64.pack_toNat neg (t := a) (by unfold infMag at ha; omega)
    have h2 := Float64.pack_toNat neg (t := b) (by unfold infMag at hb; omega)
    rw [hab] at h1
    omega
  have : s = t := inj (by assumption) (Nat.le_of_lt hlt) (by rw [← es, e1])
  subst this
  have : s' = t' := inj (by assumption) (Nat.le_of_lt hlt') (by rw [← es', e1'])
  subst this
  refine Classical.byContradiction fun hne => ?_
  have hV : V s' ≠ V s := fun q => hne (V_inj q).symm
  have ev : s % 2 = 0 := (hs hlt s').2 hV (Nat.le_antisymm k1 k2)
  have ev' : s' % 2 = 0 := (hs' hlt' s).2 (fun q => hV q.symm) (by
    refine Nat.eq_of_mul_eq_mul_left hD ?_
    rw [← sc, ← sc]
    exact congrArg (D' * ·) (Nat.le_antisymm k2 k1))
  have key : ∀ {a b : Nat}, a < b → a % 2 = 0 → b % 2 = 0 → dist W (D * V a) = dist W (D * V b) → (∀ c, dist W (D * V a) ≤ dist W (D * V c)) → False := fun {a b} hab h1 h2 he hc => by
    have m1 : D * V a < D * V (a + 1) := Nat.mul_lt_mul_of_pos_left (Float64.V_succ a) hD
    have m2 : D * V (a + 1) < D * V b := Nat.mul_lt_mul_of_pos_left (Float64.V_lt (by omega)) hD
    have := hc (a + 1)
    unfold dist at *
    omega
  rcases Nat.lt_or_gt_of_ne hne with q | q
  · exact key q ev ev' (by omega) hn
  · exact key q ev' ev (by omega) (fun c => by have := hn c; omega)
end Mine
end FltAPart
section FltBPart
open PySem PySem.W PyProof.Rows PySem.Spec PySem.Calls PySem.Flt
namespace Mine
open PySem.Float64 (val V dist Right decode pack infMag sgn)
def Uq : Rat := ((2 ^ 50 * EE : Nat) : Rat)
theorem Uq_pos : 0 < Uq := Rat.natCast_pos.mpr (Nat.mul_pos (by decide) EE_pos)
theorem Uq_ne : Uq ≠ 0 := fun h => by have := Uq_pos; rw [h] at this; exact absurd this (by decide)
def u50 : Rat := 1 / 1125899906842624
theorem u50_Uq : u50 * Uq = (EE : Rat) := by
  unfold u50 Uq
  rw [Rat.natCast_mul]
  have : ((2 ^ 50 : Nat) : Rat) = 1125899906842624 := by decide +kernel
  rw [this]
  grind
def rv (x : UInt64) : Rat := (val x : Rat) / Uq
theorem rv_val (x : UInt64) : (val x : Rat) = rv x * Uq := by
  unfold rv
  rw [Rat.div_mul_cancel Uq_ne]
/-- r is finite and within one unit of q -/
def Ap1 (r : UInt64) (q : Rat) : Prop := Fin r ∧ rv r ≤ q + u50 ∧ q ≤ rv r + u50
theorem le_of_mulU {a b : Rat} (h : a * Uq ≤ b * Uq) : a ≤ b := Rat.le_of_mul_le_mul_right h Uq_pos
theorem lt_of_mulU {a b : Rat} (h : a * Uq < b * Uq) : a < b := Rat.lt_of_mul_lt_mul_right h (Rat.le_of_lt Uq_pos)
theorem right_ap {r : UInt64} {neg : Bool} {S : Int} {D : Nat} {q : Rat} (h : Right r neg S.natAbs D) (hD : 0 < D) (h1 : neg = true → S ≤ 0) (h2 : neg = false → 0 ≤ S)
    (hq : (S : Rat) = q * (D : Rat) * Uq) (hb : -7 ≤ q ∧ q ≤ 7) : Ap1 r q := by
  have hDq : (0 : Rat) < (D : Rat) := Rat.natCast_pos.mpr hD
  have hU := Uq_pos
  have hDU : (0 : Rat) < (D : Rat) * Uq := Rat.mul_pos hDq hU
  have hUc : (((2 ^ 50 * EE : Nat) : Int) : Rat) = Uq := by unfold Uq; rw [Rat.intCast_natCast]
  have hbS : S.natAbs ≤ 7 * (2 ^ 50 * EE) * D := by
    have e1 : (S : Rat) ≤ 7 * ((D : Rat) * Uq) := by
      rw [hq, Rat.mul_assoc]; exact Rat.mul_le_mul_of_nonneg_right hb.2 (Rat.le_of_lt hDU)
    have e2 : -7 * ((D : Rat) * Uq) ≤ (S : Rat) := by
      rw [hq, Rat.mul_assoc]; exact Rat.mul_le_mul_of_nonneg_right hb.1 (Rat.le_of_lt hDU)
    have c : (D : Rat) * Uq = ((((2 ^ 50 * EE : Nat) * D : Nat) : Int) : Rat) := by
      rw [Rat.intCast_natCast, Rat.natCast_mul]; show _ = Uq * _; exact Rat.mul_comm _ _
    rw [c] at e1 e2
    generalize hP : ((2 ^ 50 * EE : Nat) * D) = P at *
    have e1' : S ≤ 7 * (P : Int) := by
      rw [← Rat.intCast_le_intCast, Rat.intCast_mul]; exact e1
    have e2' : -7 * (P : Int) ≤ S := by
      rw [← Rat.intCast_le_intCast, Rat.intCast_mul]; exact e2
    rw [Nat.mul_assoc, hP]
    omega
  obtain ⟨t, rfl, hlt, n1, n2⟩ := right_near h hD hbS
  refine ⟨fin_pack neg hlt, ?_⟩
  have hv := Float64.val_pack neg hlt
  have k : (D : Int) * val (pack neg t) ≤ S + (D : Int) * (EE : Int) ∧ S ≤ (D : Int) * val (pack neg t) + (D : Int) * (EE : Int) := by
    rw [hv]
    have n1' : (D : Int) * (V t : Int) ≤ (S.natAbs : Int) + (D : Int) * (EE : Int) := by exact_mod_cast n1
    have n2' : (S.natAbs : Int) ≤ (D : Int) * (V t : Int) + (D : Int) * (EE : Int) := by exact_mod_cast n2
    cases neg
    · have := h2 rfl
      show (D : Int) * (V t : Int) ≤ _ ∧ _ ≤ (D : Int) * (V t : Int) + _
      omega
    · have := h1 rfl
      show (D : Int) * (-(V t : Int)) ≤ _ ∧ _ ≤ (D : Int) * (-(V t : Int)) + _
      rw [Int.mul_neg]
      omega
  have k1 : (D : Rat) * (val (pack neg t) : Rat) ≤ (S : Rat) + (D : Rat) * (EE : Rat) := by
    have := Rat.intCast_le_intCast.mpr k.1
    rw [Rat.intCast_add, Rat.intCast_mul, Rat.intCast_mul] at this
    exact this
  have k2 : (S : Rat) ≤ (D : Rat) * (val (pack neg t) : Rat) + (D : Rat) * (EE : Rat) := by
    have := Rat.intCast_le_intCast.mpr k.2
    rw [Rat.intCast_add, Rat.intCast_mul, Rat.intCast_mul] at this
    exact this
  rw [hq, rv_val, ← u50_Uq] at k1 k2
  constructor
  · refine le_of_mulU (Rat.le_of_mul_le_mul_left (c := (D : Rat)) ?_ hDq)
    grind
  · refine le_of_mulU (Rat.le_of_mul_le_mul_left (c := (D : Rat)) ?_ hDq)
    grind
theorem val_zero (b : Bool) : val (Float64.zero b) = 0 := by cases b <;> decide +kernel
theorem fin_zero (b : Bool) : Fin (Float64.zero b) := fin_pack b (by decide)
theorem rv_zero (b : Bool) : rv (Float64.zero b) = 0 := by unfold rv; rw [val_zero]; decide +kernel
theorem natAbs_sg (S : Int) : (decide (S < 0) = true → S ≤ 0) ∧ (decide (S < 0) = false → 0 ≤ S) := by
  constructor
  · intro h; have := of_decide_eq_true h; omega
  · intro h; have := of_decide_eq_false h; omega
theorem u50_pos : 0 < u50 := by decide +kernel
theorem add_ap {x y : UInt64} (hx : Fin x) (hy : Fin y) (hb : -7 ≤ rv x + rv y ∧ rv x + rv y ≤ 7) : Ap1 (Float64.add x y) (rv x + rv y) := by
  obtain ⟨a, m, e, hx⟩ := hx
  obtain ⟨b, k, f, hy⟩ := hy
  have h := Float64.add_right hx hy
  have hS : ((val x + val y : Int) : Rat) = (rv x + rv y) * ((1 : Nat) : Rat) * Uq := by
    rw [Rat.intCast_add, rv_val, rv_val]
    have : ((1 : Nat) : Rat) = 1 := rfl
    rw [this]
    grind
  by_cases h0 : val x + val y = 0
  · rw [h.1 h0]
    have e0 : rv x + rv y = 0 := by
      rw [h0] at hS
      have h1 : (0 : Rat) = (rv x + rv y) * Uq := by
        have : ((1 : Nat) : Rat) = 1 := rfl
        rw [this, Rat.mul_one] at hS
        exact hS
      rcases Rat.mul_eq_zero.mp h1.symm with q | q
      · exact q
      · exact absurd q Uq_ne
    rw [e0]
    refine ⟨fin_zero _, ?_, ?_⟩
    · rw [rv_zero]; have := u50_pos; grind
    · rw [rv_zero]; have := u50_pos; grind
  · exact right_ap (h.2 h0) (by decide) (natAbs_sg _).1 (natAbs_sg _).2 hS hb
theorem fin_neg {y : UInt64} (h : Fin y) : Fin (Float64.neg y) ∧ rv (Float64.neg y) = -rv y := by
  obtain ⟨b, k, f, hy⟩ := h
  refine ⟨⟨_, _, _, Float64.neg_decode hy⟩, ?_⟩
  unfold rv
  rw [Float64.neg_val hy, Rat.intCast_neg, Rat.div_def, Rat.div_def, Rat.neg_mul]
theorem sub_ap {x y : UInt64} (hx : Fin x) (hy : Fin y) (hb : -7 ≤ rv x - rv y ∧ rv x - rv y ≤ 7) : Ap1 (Float64.sub x y) (rv x - rv y) := by
  have h := fin_neg hy
  have := add_ap hx h.1 (by rw [h.2]; rw [Rat.sub_eq_add_neg] at hb; exact hb)
  rw [h.2, ← Rat.sub_eq_add_neg] at this
  unfold Float64.sub
  exact this
theorem sg_cases {x : UInt64} {a : Bool} {m : Nat} {e : Int} (h : decode x = .fin a m e) : (a = true → val x ≤ 0) ∧ (a = false → 0 ≤ val x) := by
  rw [Float64.val_eq h]
  have hp : 0 ≤ ((m * 2 ^ (e + 1074).toNat : Nat) : Int) := Int.natCast_nonneg _
  unfold sgn
  generalize ((m * 2 ^ (e + 1074).toNat : Nat) : Int) = z at *
  constructor <;> rintro rfl <;> simp <;> omega
theorem mul_ap {x y : UInt64} (hx : Fin x) (hy : Fin y) (hb : -7 ≤ rv x * rv y ∧ rv x * rv y ≤ 7) : Ap1 (Float64.mul x y) (rv x * rv y) := by
  obtain ⟨a, m, e, hx⟩ := hx
  obtain ⟨b, k, f, hy⟩ := hy
  have h := Float64.mul_right hx hy
  rw [← Int.natAbs_mul, U_eq] at h
  have sx := sg_cases hx
  have sy := sg_cases hy
  refine right_ap h (Nat.mul_pos (by decide) EE_pos) (fun q => ?_) (fun q => ?_) ?_ hb
  · cases a <;> cases b <;> simp at q
    · exact Int.mul_nonpos_of_nonneg_of_nonpos (sx.2 rfl) (sy.1 rfl)
    · exact Int.mul_nonpos_of_nonpos_of_nonneg (sx.1 rfl) (sy.2 rfl)
  · cases a <;> cases b <;> simp at q
    · exact Int.mul_nonneg (sx.2 rfl) (sy.2 rfl)
    · exact Int.mul_nonneg_of_nonpos_of_nonpos (sx.1 rfl) (sy.1 rfl)
  · rw [Rat.intCast_mul, rv_val, rv_val]
    show _ = rv x * rv y * Uq * Uq
    grind
theorem rv_pos_val {y : UInt64} (h : 0 < rv y) : 0 < val y := by
  have : (0 : Rat) < (val y : Rat) := by rw [rv_val]; exact Rat.mul_pos h Uq_pos
  exact Rat.intCast_pos.mp this
theorem div_right_pos {x y : UInt64} (hx : Fin x) (hy : Fin y) (hp : 0 < val y) : ∃ a, Right (Float64.div x y) a (val x * ((2 ^ 50 * EE : Nat) : Int)).natAbs (val y).natAbs ∧ (a = true → val x ≤ 0) ∧ (a = false → 0 ≤ val x) := by
  obtain ⟨a, m, e, hx⟩ := hx
  obtain ⟨b, k, f, hy⟩ := hy
  have sx := sg_cases hx
  have sy := sg_cases hy
  have hb : b = false := by
    cases b
    · rfl
    · have := sy.1 rfl; omega
  subst hb
  have hk : k ≠ 0 := fun q => by
    subst q
    rw [Float64.val_eq hy] at hp
    simp [sgn] at hp
  have h := Float64.div_right hx hy hk
  refine ⟨a, ?_, sx⟩
  rw [Int.natAbs_mul, Int.natAbs_natCast, ← U_eq]
  cases a <;> exact h
theorem div_ap {x y : UInt64} (hx : Fin x) (hy : Fin y) (hp : 0 < rv y) {q : Rat} (hq : q * rv y = rv x) (hb : -7 ≤ q ∧ q ≤ 7) : Ap1 (Float64.div x y) q := by
  have hvy := rv_pos_val hp
  obtain ⟨a, h, s1, s2⟩ := div_right_pos hx hy hvy
  have hU : (0 : Int) < ((2 ^ 50 * EE : Nat) : Int) := Int.natCast_pos.mpr (Nat.mul_pos (by decide) EE_pos)
  refine right_ap h (by omega) (fun r => Int.mul_nonpos_of_nonpos_of_nonneg (s1 r) (Int.le_of_lt hU)) (fun r => Int.mul_nonneg (s2 r) (Int.le_of_lt hU)) ?_ hb
  rw [Rat.intCast_mul, rv_val, ← hq]
  have e1 : ((val y).natAbs : Rat) = rv y * Uq := by
    rw [← rv_val]
    have : (((val y).natAbs : Int) : Rat) = (val y : Rat) := by rw [Int.natAbs_of_nonneg (Int.le_of_lt hvy)]
    rw [← this, Rat.intCast_natCast]
  have e2 : (((2 ^ 50 * EE : Nat) : Int) : Rat) = Uq := by unfold Uq; rw [Rat.intCast_natCast]
  rw [e1, e2]
  grind
/-- a quotient depends on the ratio alone -/
theorem div_eq {x y x' y' : UInt64} (hx : Fin x) (hy : Fin y) (hx' : Fin x') (hy' : Fin y') (hp : 0 < rv y) (hp' : 0 < rv y') (h0 : 0 < rv x) (h0' : 0 < rv x') (hle : rv x ≤ rv y) (e : rv x * rv y' = rv x' * rv y) : Float64.div x y = Float64.div x' y' := by
  have hvy := rv_pos_val hp
  have hvy' := rv_pos_val hp'
  have hvx := rv_pos_val h0
  have hvx' := rv_pos_val h0'
  obtain ⟨a, h, s1, s2⟩ := div_right_pos hx hy hvy
  obtain ⟨a', h', s1', s2'⟩ := div_right_pos hx' hy' hvy'
  have ha : a = false := by
    cases a
    · rfl
    · have := s1 rfl; omega
  have ha' : a' = false := by
    cases a'
    · rfl
    · have := s1' rfl; omega
  subst ha ha'
  have ei : val x * val y' = val x' * val y := by
    have : ((val x * val y' : Int) : Rat) = ((val x' * val y : Int) : Rat) := by
      rw [Rat.intCast_mul, Rat.intCast_mul, rv_val, rv_val, rv_val, rv_val]
      grind
    exact Rat.intCast_inj.mp this
  have hlei : val x ≤ val y := by
    rw [← Rat.intCast_le_intCast, rv_val, rv_val]
    exact Rat.mul_le_mul_of_nonneg_right hle (Rat.le_of_lt Uq_pos)
  refine right_unique h h' (by omega) (by omega) ?_ ?_
  · rw [Int.natAbs_mul, Int.natAbs_natCast]
    have e1 : (val x).natAbs ≤ (val y).natAbs := by omega
    generalize (2 ^ 50 * EE) = P
    calc (val x).natAbs * P ≤ (val y).natAbs * P := Nat.mul_le_mul_right _ e1
      _ = P * (val y).natAbs := Nat.mul_comm _ _
      _ ≤ 7 * P * (val y).natAbs := Nat.mul_le_mul_right _ (by omega)
  · rw [Int.natAbs_mul, Int.natAbs_mul]
    have e2 : (val x).natAbs * (val y').natAbs = (val x').natAbs * (val y).natAbs := by rw [← Int.natAbs_mul, ← Int.natAbs_mul, ei]
    generalize (((2 ^ 50 * EE : Nat) : Int)).natAbs = P
    rw [Nat.mul_right_comm, e2, Nat.mul_right_comm]
theorem cmp_rv {x y : UInt64} (hx : Fin x) (hy : Fin y) : (Float64.cmp x y == some .lt) = decide (rv x < rv y) ∧ (Float64.cmp x y == some .eq) = decide (rv x = rv y) := by
  obtain ⟨a, m, e, hx⟩ := hx
  obtain ⟨b, k, f, hy⟩ := hy
  rw [Float64.cmp_right hx hy]
  have e1 : rv x < rv y ↔ val x < val y := by
    rw [← Rat.intCast_lt_intCast, rv_val, rv_val]
    exact (Rat.mul_lt_mul_right Uq_pos).symm
  have e2 : rv x = rv y ↔ val x = val y := by
    rw [← Rat.intCast_inj, rv_val, rv_val]
    constructor
    · intro h; rw [h]
    · intro h
      have h' : (rv x - rv y) * Uq = 0 := by grind
      rcases Rat.mul_eq_zero.mp h' with q | q
      · grind
      · exact absurd q Uq_ne
  constructor
  · rw [decide_eq_decide.mpr e1]
    rcases Int.lt_trichotomy (val x) (val y) with h | h | h
    · rw [Int.compare_eq_lt.mpr h, decide_eq_true h]; rfl
    · rw [Int.compare_eq_eq.mpr h, decide_eq_false (by omega)]; rfl
    · rw [Int.compare_eq_gt.mpr h, decide_eq_false (by omega)]; rfl
  · rw [decide_eq_decide.mpr e2]
    rcases Int.lt_trichotomy (val x) (val y) with h | h | h
    · rw [Int.compare_eq_lt.mpr h, decide_eq_false (by omega)]; rfl
    · rw [Int.compare_eq_eq.mpr h, decide_eq_true h]; rfl
    · rw [Int.compare_eq_gt.mpr h, decide_eq_false (by omega)]; rfl
theorem isZero_rv {x : UInt64} (hx : Fin x) : Float64.isZero x = decide (rv x = 0) := by
  have h := hx
  obtain ⟨a, m, e, hd⟩ := hx
  have e1 : rv x = 0 ↔ m = 0 := by
    have : rv x = 0 ↔ val x = 0 := by
      have h0 : ((0 : Int) : Rat) = 0 := rfl
      rw [← Rat.intCast_inj, rv_val, h0]
      constructor
      · intro q; rw [q, Rat.zero_mul]
      · intro q
        rcases Rat.mul_eq_zero.mp q with q | q
        · exact q
        · exact absurd q Uq_ne
    rw [this, Float64.val_eq hd]
    have hp : 0 < 2 ^ (e + 1074).toNat := Nat.two_pow_pos _
    unfold sgn
    constructor
    · intro q
      have : m * 2 ^ (e + 1074).toNat = 0 := by split at q <;> omega
      rcases Nat.mul_eq_zero.mp this with q | q <;> omega
    · rintro rfl; simp
  rw [decide_eq_decide.mpr e1]
  unfold Float64.isZero
  rw [hd]
  cases m with
  | zero => rfl
  | succ k => rfl
end Mine
end FltBPart
section FltCPart
open PySem PySem.W PyProof.Rows PySem.Spec PySem.Calls PySem.Flt
namespace Mine
open PySem.Float64 (val V dist Right decode pack infMag sgn)
theorem decode_f1 : decode f1 = .fin false (2 ^ 52) (-52) := by kernel_rfl
theorem fin_f1 : Fin f1 := ⟨_, _, _, decode_f1⟩
theorem pow_split {a b c : Int} (h : a + b = c) (ha : 0 ≤ a) (hb : 0 ≤ b) : 2 ^ a.toNat * 2 ^ b.toNat = 2 ^ c.toNat := by
  rw [← Nat.pow_add]; congr 1; omega
theorem pow_nat {a b c : Nat} (h : a + b = c) : 2 ^ a * 2 ^ b = 2 ^ c := by rw [← Nat.pow_add, h]
theorem val_const {x : UInt64} {a : Bool} {m : Nat} {e : Int} {q : Rat} (h : decode x = .fin a m e) (he : e ≤ 0) (h2 : -1074 ≤ e) (hq : ((sgn a m : Int) : Rat) = q * ((2 ^ (-e).toNat : Nat) : Rat)) : rv x = q := by
  unfold rv
  rw [Float64.val_eq h, Float64.sgn_mul, Rat.intCast_mul, hq]
  have e1 : Uq = ((2 ^ (-e).toNat : Nat) : Rat) * ((2 ^ (e + 1074).toNat : Nat) : Rat) := by
    unfold Uq
    rw [← Rat.natCast_mul, pow_nat (c := 1074) (by omega), U_eq]
  have e2 : (((2 ^ (e + 1074).toNat : Nat) : Int) : Rat) = ((2 ^ (e + 1074).toNat : Nat) : Rat) := Rat.intCast_natCast _
  rw [e2, Rat.mul_assoc, ← e1, Rat.mul_div_cancel Uq_ne]
theorem rv_f1 : rv f1 = 1 := val_const decode_f1 (by decide) (by decide) (by decide +kernel)
theorem fmod_right {x : UInt64} {a : Bool} {m : Nat} {e : Int} (hx : decode x = .fin a m e) (hlt : (val x).natAbs < 2 ^ 1074) : Right (Float64.fmod x f1) a (val x).natAbs 1 := by
  have he := Float64.decode_ge hx
  have hf : Float64.fmod x f1 = Float64.ofBin a ((m * 2 ^ (e - min e (-52)).toNat) % (2 ^ 52 * 2 ^ (-52 - min e (-52)).toNat)) (min e (-52)) := by
    unfold Float64.fmod
    rw [hx, decode_f1]
    simp only [Float64.align, sgn]
    rfl
  generalize hg : min e (-52) = g at *
  have hp : (m * 2 ^ (e - g).toNat) * 2 ^ (g + 1074).toNat = (val x).natAbs := by
    rw [Float64.val_natAbs hx, Nat.mul_assoc, pow_split (c := e + 1074) (by omega) (by omega) (by omega)]
  have hq : (2 ^ 52 * 2 ^ (-52 - g).toNat) * 2 ^ (g + 1074).toNat = 2 ^ 1074 := by
    rw [Nat.mul_assoc, pow_nat (c := 1022) (by omega), pow_nat (c := 1074) (by omega)]
  have hpq : m * 2 ^ (e - g).toNat < 2 ^ 52 * 2 ^ (-52 - g).toNat := by
    refine Nat.lt_of_mul_lt_mul_right (a := 2 ^ (g + 1074).toNat) ?_
    rw [hp, hq]; exact hlt
  rw [hf, Nat.mod_eq_of_lt hpq]
  unfold Float64.ofBin
  refine Float64.ofFrac_right (Float64.shift_pos _ _ _ (by decide)) ?_ (by decide)
  have := Float64.shift_one (m * 2 ^ (e - g).toNat) g 1074 (by omega)
  rw [← hp, Nat.mul_one]
  exact this
theorem natAbs_lt_U {x : UInt64} (h : -1 < rv x ∧ rv x < 1) : (val x).natAbs < 2 ^ 1074 := by
  have c : Uq = (((2 ^ 50 * EE : Nat) : Int) : Rat) := by unfold Uq; rw [Rat.intCast_natCast]
  have h1 : val x < ((2 ^ 50 * EE : Nat) : Int) := by
    rw [← Rat.intCast_lt_intCast, rv_val, ← c]
    have := (Rat.mul_lt_mul_right Uq_pos).mpr h.2
    grind
  have h2 : -((2 ^ 50 * EE : Nat) : Int) < val x := by
    rw [← Rat.intCast_lt_intCast, rv_val, Rat.intCast_neg, ← c]
    have := (Rat.mul_lt_mul_right Uq_pos).mpr h.1
    grind
  rw [U_eq]
  omega
theorem fmod_ap {x : UInt64} (hx : Fin x) (h : -1 < rv x ∧ rv x < 1) : Ap1 (Float64.fmod x f1) (rv x) := by
  obtain ⟨a, m, e, hx⟩ := hx
  have s := sg_cases hx
  have hS : (val x : Rat) = rv x * ((1 : Nat) : Rat) * Uq := by
    rw [rv_val]
    have : ((1 : Nat) : Rat) = 1 := rfl
    rw [this]
    grind
  refine right_ap (fmod_right hx (natAbs_lt_U h)) (by decide) s.1 s.2 hS ?_
  grind
theorem divmod_snd (x y : UInt64) : (Float64.divmod x y).2 = if Float64.isZero (Float64.fmod x y) then Float64.copysign (Float64.zero false) y
    else if Float64.lt y (Float64.zero false) != Float64.lt (Float64.fmod x y) (Float64.zero false) then Float64.add (Float64.fmod x y) y else Float64.fmod x y := by
  unfold Float64.divmod
  simp only
  split
  · rfl
  · split <;> rfl
def md (x : UInt64) : UInt64 := (Float64.divmod x f1).2
theorem lt_f1 : Float64.lt f1 (Float64.zero false) = false := by decide +kernel
theorem md_pos {x : UInt64} (hx : Fin x) (h1 : u50 < rv x) (h2 : rv x < 1) : Ap1 (md x) (rv x) := by
  have hu := u50_pos
  have h := fmod_ap hx (by grind)
  have hp : 0 < rv (Float64.fmod x f1) := by have := h.2; grind
  unfold md
  rw [divmod_snd, isZero_rv h.1, decide_eq_false (by grind), lt_f1]
  have e : Float64.lt (Float64.fmod x f1) (Float64.zero false) = false := by
    unfold Float64.lt
    rw [(cmp_rv h.1 (fin_zero false)).1, rv_zero, decide_eq_false (by grind)]
  rw [e]
  exact h
theorem md_neg {x : UInt64} (hx : Fin x) (h1 : rv x < -u50) (h2 : -1 < rv x) : Fin (md x) ∧ rv (md x) ≤ rv x + 1 + 2 * u50 ∧ rv x + 1 ≤ rv (md x) + 2 * u50 := by
  have hu := u50_pos
  have h := fmod_ap hx (by grind)
  have hp : rv (Float64.fmod x f1) < 0 := by have := h.2; grind
  unfold md
  rw [divmod_snd, isZero_rv h.1, decide_eq_false (by grind), lt_f1]
  have e : Float64.lt (Float64.fmod x f1) (Float64.zero false) = true := by
    unfold Float64.lt
    rw [(cmp_rv h.1 (fin_zero false)).1, rv_zero, decide_eq_true (by grind)]
  rw [e]
  have hu1 : u50 < 1 := by decide +kernel
  have h3 := add_ap h.1 fin_f1 (by rw [rv_f1]; have := h.2; grind)
  rw [rv_f1] at h3
  refine ⟨h3.1, ?_⟩
  have := h.2
  have := h3.2
  show rv (Float64.add (Float64.fmod x f1) f1) ≤ _ ∧ _ ≤ rv (Float64.add (Float64.fmod x f1) f1) + _
  grind
theorem sub_self {x : UInt64} (hx : Fin x) : Float64.sub x x = Float64.zero false := by
  obtain ⟨a, m, e, hx⟩ := hx
  have := (Float64.sub_right hx hx).1 (by omega)
  rw [this]
  cases a <;> rfl
/-- the float of a ratio -/
def rat (p R : Int) : UInt64 := Float64.div (Float64.ofInt p) (Float64.ofInt R)
end Mine
end FltCPart
section FltDPart
open PySem PySem.W PyProof.Rows PySem.Spec PySem.Calls PySem.Flt
namespace Mine
open PySem.Float64 (val V dist Right decode pack infMag sgn)
/-- x is the float k / 2^n, exactly -/
def Kx (n : Nat) (x : UInt64) (k : Int) : Prop := Fin x ∧ val x = k * ((2 ^ (1074 - n) : Nat) : Int)
theorem G_pos (n : Nat) : 0 < 2 ^ (1074 - n) := Nat.two_pow_pos _
theorem G_U {n : Nat} (h : n ≤ 1074) : 2 ^ (1074 - n) * 2 ^ n = 2 ^ 50 * EE := by rw [pow_nat (c := 1074) (by omega), U_eq]
theorem Kx.rv {n : Nat} {x : UInt64} {k : Int} (h : Kx n x k) (hn : n ≤ 1074) : rv x * ((2 ^ n : Nat) : Rat) = (k : Rat) := by
  unfold Mine.rv
  rw [h.2, Rat.intCast_mul, Rat.intCast_natCast]
  have e : Uq = ((2 ^ (1074 - n) : Nat) : Rat) * ((2 ^ n : Nat) : Rat) := by unfold Uq; rw [← Rat.natCast_mul, G_U hn]
  rw [e, Rat.div_def, Rat.mul_assoc, Rat.mul_assoc]
  have hne : ((2 ^ (1074 - n) : Nat) : Rat) * ((2 ^ n : Nat) : Rat) ≠ 0 := e ▸ Uq_ne
  generalize ((2 ^ (1074 - n) : Nat) : Rat) = g at *
  generalize ((2 ^ n : Nat) : Rat) = f at *
  have := Rat.mul_inv_cancel (g * f) hne
  have e2 : g * ((g * f)⁻¹ * f) = g * f * (g * f)⁻¹ := by grind
  rw [e2, this, Rat.mul_one]
theorem val_grid {n : Nat} {neg : Bool} {t : Nat} (ht : t < infMag) {k : Int} (hV : V t = k.natAbs * 2 ^ (1074 - n)) (h1 : neg = true → k ≤ 0) (h2 : neg = false → 0 ≤ k) : val (pack neg t) = k * ((2 ^ (1074 - n) : Nat) : Int) := by
  rw [Float64.val_pack neg ht, hV]
  unfold sgn
  cases neg
  · have := h2 rfl
    rw [if_neg (by decide), Int.natCast_mul, Int.natAbs_of_nonneg this]
  · have := h1 rfl
    rw [if_pos rfl, Int.natCast_mul]
    have e : (k.natAbs : Int) = -k := by omega
    rw [e, Int.neg_mul, Int.neg_neg]
theorem sub_K {n : Nat} {x y : UInt64} {k l : Int} (hx : Kx n x k) (hy : Kx n y l) (hb : (k - l).natAbs ≤ 2 ^ n) (hn : n ≤ 50) : Kx n (Float64.sub x y) (k - l) := by
  obtain ⟨⟨a, m, e, hdx⟩, hvx⟩ := hx
  obtain ⟨⟨b, m', e', hdy⟩, hvy⟩ := hy
  have h := Float64.sub_right hdx hdy
  have hS : val x - val y = (k - l) * ((2 ^ (1074 - n) : Nat) : Int) := by rw [hvx, hvy, Int.sub_mul]
  by_cases h0 : val x - val y = 0
  · rw [h.1 h0]
    refine ⟨fin_zero _, ?_⟩
    rw [val_zero, ← hS, h0]
  · have hR := h.2 h0
    have hW : (val x - val y).natAbs = (k - l).natAbs * 2 ^ (1074 - n) := by rw [hS, Int.natAbs_mul, Int.natAbs_natCast]
    have hq : (k - l).natAbs < 2 ^ 53 := by
      have : 2 ^ n ≤ 2 ^ 50 := Nat.pow_le_pow_right (by decide) hn
      omega
    obtain ⟨t', ht'⟩ := grid (1074 - n) _ hq
    have hbW : (val x - val y).natAbs ≤ 7 * (2 ^ 50 * EE) * 1 := by
      rw [hW, Nat.mul_one, ← G_U (n := n) (by omega)]
      have h1 : (k - l).natAbs * 2 ^ (1074 - n) ≤ 2 ^ n * 2 ^ (1074 - n) := Nat.mul_le_mul_right _ hb
      rw [Nat.mul_comm (2 ^ n)] at h1
      generalize 2 ^ (1074 - n) * 2 ^ n = P at *
      omega
    obtain ⟨t, e, hlt, hV⟩ := right_exact hR (by decide) hbW (t' := t') (by rw [Nat.one_mul, ht', hW])
    rw [e]
    refine ⟨fin_pack _ hlt, val_grid hlt (by rw [hV, ht']) (fun q => ?_) (fun q => ?_)⟩
    · have := (natAbs_sg _).1 q
      rw [hS] at this
      refine Classical.byContradiction fun hc => ?_
      have : 0 < (k - l) * ((2 ^ (1074 - n) : Nat) : Int) := Int.mul_pos (by omega) (Int.natCast_pos.mpr (G_pos n))
      omega
    · have := (natAbs_sg _).2 q
      rw [hS] at this
      refine Classical.byContradiction fun hc => ?_
      have : (k - l) * ((2 ^ (1074 - n) : Nat) : Int) < 0 := Int.mul_neg_of_neg_of_pos (by omega) (Int.natCast_pos.mpr (G_pos n))
      omega
def chk (n k : Nat) (x : UInt64) : Bool := match decode x with
  | .fin false m e => m * 2 ^ (e + 1074).toNat == k * 2 ^ (1074 - n)
  | _ => false
theorem kx_of_chk {n k : Nat} {x : UInt64} (h : chk n k x = true) : Kx n x (k : Int) := by
  unfold chk at h
  split at h
  · rename_i m e hd
    refine ⟨⟨_, _, _, hd⟩, ?_⟩
    rw [Float64.val_eq hd]
    have := beq_iff_eq.mp h
    unfold sgn
    rw [if_neg (by decide), this, Int.natCast_mul]
  · cases h
theorem all_lt {P : Nat → Bool} {n : Nat} (h : (List.range n).all P = true) : ∀ k, k < n → P k = true := fun k hk => by
  rw [List.all_eq_true] at h
  exact h k (List.mem_range.mpr hk)
theorem ofInt_K0 : ∀ k, k < 129 → chk 0 k (Float64.ofInt k) = true := all_lt (by decide +kernel)
theorem ofInt_K {k : Int} (h : 0 ≤ k ∧ k ≤ 128) : Kx 0 (Float64.ofInt k) k := by
  obtain ⟨j, rfl⟩ := Int.eq_ofNat_of_zero_le h.1
  exact kx_of_chk (ofInt_K0 j (by omega))
theorem p4 : Float64.mul f8 (Float64.ofInt 4) = 4629700416936869888 := by kernel_rfl
theorem p8 : Float64.mul f8 (Float64.ofInt 8) = 4634204016564240384 := by kernel_rfl
theorem p16 : Float64.mul f8 (Float64.ofInt 16) = 4638707616191610880 := by kernel_rfl
theorem div_3 : ∀ k, k < 9 → chk 3 k (Float64.div (Float64.ofInt k) f8) = true := all_lt (by decide +kernel)
theorem div_4 : ∀ k, k < 17 → chk 4 k (Float64.div (Float64.ofInt k) f16) = true := all_lt (by decide +kernel)
theorem div_5 : ∀ k, k < 33 → chk 5 k (Float64.div (Float64.ofInt k) 4629700416936869888) = true := all_lt (by decide +kernel)
theorem div_6 : ∀ k, k < 65 → chk 6 k (Float64.div (Float64.ofInt k) 4634204016564240384) = true := all_lt (by decide +kernel)
theorem div_7 : ∀ k, k < 129 → chk 7 k (Float64.div (Float64.ofInt k) 4638707616191610880) = true := all_lt (by decide +kernel)
theorem d3_K {k : Int} (h : 0 ≤ k ∧ k ≤ 8) : Kx 3 (Float64.div (Float64.ofInt k) f8) k := by
  obtain ⟨j, rfl⟩ := Int.eq_ofNat_of_zero_le h.1
  exact kx_of_chk (div_3 j (by omega))
theorem d4_K {k : Int} (h : 0 ≤ k ∧ k ≤ 16) : Kx 4 (Float64.div (Float64.ofInt k) f16) k := by
  obtain ⟨j, rfl⟩ := Int.eq_ofNat_of_zero_le h.1
  exact kx_of_chk (div_4 j (by omega))
theorem part_K {steps k : Int} (hs : steps = 4 ∨ steps = 8 ∨ steps = 16) (h : 0 ≤ k ∧ k ≤ 8 * steps) : ∃ n : Nat, n ≤ 7 ∧ ((2 ^ n : Nat) : Int) = 8 * steps ∧ Kx n (partf k steps) k := by
  obtain ⟨j, rfl⟩ := Int.eq_ofNat_of_zero_le h.1
  unfold partf
  rcases hs with rfl | rfl | rfl
  · rw [p4]; exact ⟨5, by omega, by decide, kx_of_chk (div_5 j (by omega))⟩
  · rw [p8]; exact ⟨6, by omega, by decide, kx_of_chk (div_6 j (by omega))⟩
  · rw [p16]; exact ⟨7, by omega, by decide, kx_of_chk (div_7 j (by omega))⟩
theorem K_lt {n : Nat} {x y : UInt64} {k l : Int} (hx : Kx n x k) (hy : Kx n y l) : flt x y = decide (k < l) ∧ (Float64.cmp x y == some .eq) = decide (k = l) := by
  have hG : (0 : Int) < ((2 ^ (1074 - n) : Nat) : Int) := Int.natCast_pos.mpr (G_pos n)
  have c := cmp_rv hx.1 hy.1
  have e1 : rv x < rv y ↔ k < l := by
    have : rv x < rv y ↔ val x < val y := by
      rw [← Rat.intCast_lt_intCast, rv_val, rv_val]
      exact (Rat.mul_lt_mul_right Uq_pos).symm
    rw [this, hx.2, hy.2]
    exact Int.mul_lt_mul_right hG
  have e2 : rv x = rv y ↔ k = l := by
    constructor
    · intro h
      have : (val x : Rat) = (val y : Rat) := by rw [rv_val, rv_val, h]
      have := Rat.intCast_inj.mp this
      rw [hx.2, hy.2] at this
      exact Int.eq_of_mul_eq_mul_right (by omega) this
    · rintro rfl
      have : val x = val y := by rw [hx.2, hy.2]
      unfold rv; rw [this]
  unfold flt
  rw [c.1, c.2, decide_eq_decide.mpr e1, decide_eq_decide.mpr e2]
  exact ⟨rfl, rfl⟩
def mx3 (r g b : Int) : Int := if r < g then (if g < b then b else g) else (if r < b then b else r)
def mn3 (r g b : Int) : Int := if g < r then (if b < g then b else g) else (if b < r then b else r)
theorem max3_K {n : Nat} {x y z : UInt64} {r g b : Int} (hx : Kx n x r) (hy : Kx n y g) (hz : Kx n z b) : Kx n (max3 x y z) (mx3 r g b) := by
  unfold max3 mx3
  rw [(K_lt hx hy).1, (K_lt hy hz).1, (K_lt hx hz).1]
  by_cases h1 : r < g <;> by_cases h2 : g < b <;> by_cases h3 : r < b <;> simp [h1, h2, h3] <;> assumption
theorem min3_K {n : Nat} {x y z : UInt64} {r g b : Int} (hx : Kx n x r) (hy : Kx n y g) (hz : Kx n z b) : Kx n (min3 x y z) (mn3 r g b) := by
  unfold min3 mn3
  rw [(K_lt hy hx).1, (K_lt hz hy).1, (K_lt hz hx).1]
  by_cases h1 : g < r <;> by_cases h2 : b < g <;> by_cases h3 : b < r <;> simp [h1, h2, h3] <;> assumption
/-- the float of a ratio -/
theorem K_pos {n : Nat} {x : UInt64} {k : Int} (h : Kx n x k) (hn : n ≤ 1074) : (0 < rv x ↔ 0 < k) ∧ (rv x = 0 ↔ k = 0) := by
  have e := h.rv hn
  have hp : (0 : Rat) < ((2 ^ n : Nat) : Rat) := Rat.natCast_pos.mpr (Nat.two_pow_pos _)
  have h1 : 0 < rv x ↔ 0 < k := by rw [← Rat.intCast_pos, ← e]; exact (Rat.mul_pos_iff_of_pos_right hp).symm
  refine ⟨h1, ?_⟩
  have h0 : ((0 : Int) : Rat) = 0 := rfl
  rw [← Rat.intCast_inj, ← e, h0]
  constructor
  · intro q; rw [q, Rat.zero_mul]
  · intro q
    rcases Rat.mul_eq_zero.mp q with q | q
    · exact q
    · exact absurd q (Rat.ne_of_gt hp)
theorem ofInt_zero : Float64.ofInt 0 = Float64.zero false := by kernel_rfl
theorem div_zero_l {y : UInt64} (hy : Fin y) (hp : 0 < rv y) : Float64.div (Float64.zero false) y = Float64.zero false := by
  have hvy := rv_pos_val hp
  obtain ⟨b, k, f, hdy⟩ := hy
  have sy := sg_cases hdy
  have hb : b = false := by
    cases b
    · rfl
    · have := sy.1 rfl; omega
  subst hb
  have hk : k ≠ 0 := fun q => by
    subst q
    rw [Float64.val_eq hdy] at hvy
    simp [sgn] at hvy
  obtain ⟨m, e, hd0, hv0⟩ := Float64.decode_pack false (t := 0) (by decide)
  have h := Float64.div_right hd0 hdy hk
  have e0 : (val (pack false 0)).natAbs * 2 ^ 1074 = 0 := by rw [show val (pack false 0) = 0 from val_zero false]; simp
  rw [e0] at h
  obtain ⟨t, e, hlt, hV⟩ := right_exact h (by omega) (Nat.zero_le _) (t' := 0) (by rw [Float64.V_zero, Nat.mul_zero])
  have ht : t = 0 := V_inj hV
  subst ht
  exact e
theorem sub_zero_K {n : Nat} {x y : UInt64} {k : Int} (hx : Kx n x k) (hy : Kx n y k) (hk : 0 < k) : Float64.sub x y = Float64.zero false := by
  obtain ⟨⟨a, m, e, hdx⟩, hvx⟩ := hx
  obtain ⟨⟨b, m', e', hdy⟩, hvy⟩ := hy
  rw [(Float64.sub_right hdx hdy).1 (by omega)]
  have hG : (0 : Int) < ((2 ^ (1074 - n) : Nat) : Int) := Int.natCast_pos.mpr (G_pos n)
  have hp : 0 < val x := by rw [hvx]; exact Int.mul_pos hk hG
  have s := sg_cases hdx
  cases a
  · rfl
  · have := s.1 rfl; omega
/-- (M - z) / R as the program takes it is the float of the ratio -/
theorem ratio_K {n : Nat} {M z R : UInt64} {mi zi ri : Int} (hM : Kx n M mi) (hz : Kx n z zi) (hR : Kx n R ri) (hn : n ≤ 7) (hz0 : 0 ≤ zi) (hmz : zi ≤ mi) (hr : mi - zi ≤ ri) (hm : mi ≤ ((2 ^ n : Nat) : Int)) (hm0 : 0 < mi) (hr0 : 0 < ri) (hr1 : ri ≤ 128) :
    Float64.div (Float64.sub M z) R = rat (mi - zi) ri := by
  unfold rat
  have hRp := ((K_pos hR (by omega)).1).mpr hr0
  have hR' := ofInt_K (k := ri) ⟨by omega, hr1⟩
  have hRp' := ((K_pos hR' (by omega)).1).mpr hr0
  by_cases h0 : mi = zi
  · subst h0
    rw [sub_zero_K hM hz hm0, Int.sub_self, ofInt_zero, div_zero_l hR.1 hRp, div_zero_l hR'.1 hRp']
  · have hS := sub_K hM hz (by omega) (by omega)
    have hS' := ofInt_K (k := mi - zi) ⟨by omega, by omega⟩
    have e1 := hS.rv (by omega)
    have e2 := hR.rv (by omega)
    have e3 := hS'.rv (by omega)
    have e4 := hR'.rv (by omega)
    have hp : (0 : Rat) < ((2 ^ n : Nat) : Rat) := Rat.natCast_pos.mpr (Nat.two_pow_pos _)
    have h1 : ((2 ^ 0 : Nat) : Rat) = 1 := rfl
    rw [h1, Rat.mul_one] at e3 e4
    refine div_eq hS.1 hR.1 hS'.1 hR'.1 hRp hRp' (((K_pos hS (by omega)).1).mpr (by omega)) (((K_pos hS' (by omega)).1).mpr (by omega)) ?_ ?_
    · refine Rat.le_of_mul_le_mul_right ?_ hp
      rw [e1, e2]
      exact Rat.intCast_le_intCast.mpr hr
    · rw [e3, e4, ← e1, ← e2]
      grind
end Mine
end FltDPart
section FltEPart
open PySem PySem.W PyProof.Rows PySem.Spec PySem.Calls PySem.Flt
namespace Mine
theorem rv_ofInt {k : Int} (h : 0 ≤ k ∧ k ≤ 128) : Fin (Float64.ofInt k) ∧ rv (Float64.ofInt k) = (k : Rat) := by
  have h1 := ofInt_K h
  have e := h1.rv (by omega)
  have h2 : ((2 ^ 0 : Nat) : Rat) = 1 := rfl
  rw [h2, Rat.mul_one] at e
  exact ⟨h1.1, e⟩
theorem cast_pos {R : Int} (h : 0 < R) : (0 : Rat) < (R : Rat) := Rat.intCast_pos.mpr h
theorem rat_ap {p R : Int} {q : Rat} (hp : 0 ≤ p ∧ p ≤ R) (hR : 0 < R ∧ R ≤ 128) (hq : q * (R : Rat) = (p : Rat)) : Ap1 (rat p R) q ∧ 0 ≤ q ∧ q ≤ 1 := by
  have h1 := rv_ofInt (k := p) ⟨hp.1, by omega⟩
  have h2 := rv_ofInt (k := R) ⟨by omega, hR.2⟩
  have hRp := cast_pos hR.1
  have hb : 0 ≤ q ∧ q ≤ 1 := by
    constructor
    · refine Rat.le_of_mul_le_mul_right (c := (R : Rat)) ?_ hRp
      rw [hq, Rat.zero_mul]; exact Rat.intCast_le_intCast.mpr hp.1
    · refine Rat.le_of_mul_le_mul_right (c := (R : Rat)) ?_ hRp
      rw [hq, Rat.one_mul]; exact Rat.intCast_le_intCast.mpr hp.2
  refine ⟨?_, hb⟩
  unfold rat
  refine div_ap h1.1 h2.1 (by rw [h2.2]; exact hRp) (by rw [h2.2, h1.2]; exact hq) ?_
  grind
theorem rat_self {R : Int} (hR : 0 < R ∧ R ≤ 128) : rat R R = f1 := by
  have h2 := rv_ofInt (k := R) ⟨by omega, hR.2⟩
  have h1 := rv_ofInt (k := 1) ⟨by omega, by omega⟩
  have hRp := cast_pos hR.1
  have e1 : ((1 : Int) : Rat) = 1 := rfl
  have : rat R R = rat 1 1 := by
    unfold rat
    refine div_eq h2.1 h2.1 h1.1 h1.1 ?_ ?_ ?_ ?_ ?_ ?_
    · rw [h2.2]; exact hRp
    · rw [h1.2]; decide +kernel
    · rw [h2.2]; exact hRp
    · rw [h1.2]; decide +kernel
    · exact Rat.le_refl
    · exact Rat.mul_comm _ _
  rw [this]
  kernel_rfl
theorem rat_zero {R : Int} (hR : 0 < R ∧ R ≤ 128) : rat 0 R = Float64.zero false := by
  have h2 := rv_ofInt (k := R) ⟨by omega, hR.2⟩
  unfold rat
  rw [ofInt_zero]
  exact div_zero_l h2.1 (by rw [h2.2]; exact cast_pos hR.1)
theorem rat_eq {p R p' R' : Int} (hp : 0 ≤ p ∧ p ≤ R) (hR : 0 < R ∧ R ≤ 128) (hp' : 0 ≤ p' ∧ p' ≤ R') (hR' : 0 < R' ∧ R' ≤ 128) (e : p * R' = p' * R) : rat p R = rat p' R' := by
  by_cases h0 : p = 0
  · subst h0
    have : p' = 0 := by
      rw [Int.zero_mul] at e
      rcases Int.mul_eq_zero.mp e.symm with q | q <;> omega
    subst this
    rw [rat_zero hR, rat_zero hR']
  · have h0' : p' ≠ 0 := by
      rintro rfl
      rw [Int.zero_mul] at e
      rcases Int.mul_eq_zero.mp e with q | q <;> omega
    have h1 := rv_ofInt (k := p) ⟨hp.1, by omega⟩
    have h2 := rv_ofInt (k := R) ⟨by omega, hR.2⟩
    have h3 := rv_ofInt (k := p') ⟨hp'.1, by omega⟩
    have h4 := rv_ofInt (k := R') ⟨by omega, hR'.2⟩
    unfold rat
    refine div_eq h1.1 h2.1 h3.1 h4.1 ?_ ?_ ?_ ?_ ?_ ?_
    · rw [h2.2]; exact cast_pos hR.1
    · rw [h4.2]; exact cast_pos hR'.1
    · rw [h1.2]; exact cast_pos (by omega)
    · rw [h3.2]; exact cast_pos (by omega)
    · rw [h1.2, h2.2]; exact Rat.intCast_le_intCast.mpr hp.2
    · rw [h1.2, h2.2, h3.2, h4.2, ← Rat.intCast_mul, ← Rat.intCast_mul, e]
def hsec (s : Nat) (α β : Int) : UInt64 := match s with
  | 0 => Float64.sub f1 (rat α (α + β))
  | 1 => Float64.sub (Float64.add f2 (rat β (α + β))) f1
  | 2 => Float64.sub (Float64.add f2 f1) (rat α (α + β))
  | 3 => Float64.sub (Float64.add f4 (rat β (α + β))) f1
  | 4 => Float64.sub (Float64.add f4 f1) (rat α (α + β))
  | _ => Float64.sub (rat β (α + β)) f1
/-- the float of the hue at the share β of the sector s -/
def Hfl (s : Nat) (α β : Int) : UInt64 := md (Float64.div (hsec s α β) f6)
theorem hsec_eq {s : Nat} {α β α' β' : Int} (h : 0 < α ∧ 0 ≤ β ∧ α + β ≤ 128) (h' : 0 < α' ∧ 0 ≤ β' ∧ α' + β' ≤ 128) (e : β * α' = β' * α) : Hfl s α β = Hfl s α' β' := by
  have e1 : rat α (α + β) = rat α' (α' + β') := rat_eq (by omega) (by omega) (by omega) (by omega) (by grind)
  have e2 : rat β (α + β) = rat β' (α' + β') := rat_eq (by omega) (by omega) (by omega) (by omega) (by grind)
  unfold Hfl hsec
  rw [e1, e2]
/-- the corners of the hexagon, and the vectors -/
def ex (s : Nat) : Int := match s with | 0 => 1 | 1 => 1 | 2 => 0 | 3 => -1 | 4 => -1 | 5 => 0 | _ => 1
def ey (s : Nat) : Int := match s with | 0 => 0 | 1 => 1 | 2 => 1 | 3 => 0 | 4 => -1 | 5 => -1 | _ => 0
structure Dir (x y : Int) (s : Nat) (α β : Int) : Prop where
  hs : s < 6
  ha : 0 < α
  hb : 0 ≤ β
  ex : x = α * ex s + β * ex (s + 1)
  ey : y = α * ey s + β * ey (s + 1)
theorem mx3_spec (r g b : Int) : r ≤ mx3 r g b ∧ g ≤ mx3 r g b ∧ b ≤ mx3 r g b ∧ (mx3 r g b = r ∨ mx3 r g b = g ∨ mx3 r g b = b) := by
  unfold mx3
  split <;> split <;> omega
theorem mn3_spec (r g b : Int) : mn3 r g b ≤ r ∧ mn3 r g b ≤ g ∧ mn3 r g b ≤ b ∧ (mn3 r g b = r ∨ mn3 r g b = g ∨ mn3 r g b = b) := by
  unfold mn3
  split <;> split <;> omega
theorem hueF_K {n : Nat} {x y z : UInt64} {r g b : Int} (hx : Kx n x r) (hy : Kx n y g) (hz : Kx n z b) (hn : n ≤ 7) (h0 : 0 ≤ r ∧ 0 ≤ g ∧ 0 ≤ b) (h1 : r ≤ ((2 ^ n : Nat) : Int) ∧ g ≤ ((2 ^ n : Nat) : Int) ∧ b ≤ ((2 ^ n : Nat) : Int)) (hg : ¬ (r = g ∧ g = b)) :
    ∃ s α β, Dir (r - b) (g - b) s α β ∧ hueF x y z = Hfl s α β ∧ α + β = mx3 r g b - mn3 r g b ∧ α + β ≤ ((2 ^ n : Nat) : Int) := by
  have hM := max3_K hx hy hz
  have hm := min3_K hx hy hz
  have hp : ((2 ^ n : Nat) : Int) ≤ 128 := by
    have : 2 ^ n ≤ 2 ^ 7 := Nat.pow_le_pow_right (by decide) hn
    omega
  have bM : r ≤ mx3 r g b ∧ g ≤ mx3 r g b ∧ b ≤ mx3 r g b ∧ mx3 r g b ≤ ((2 ^ n : Nat) : Int) := by have := mx3_spec r g b; omega
  have bm : mn3 r g b ≤ r ∧ mn3 r g b ≤ g ∧ mn3 r g b ≤ b ∧ 0 ≤ mn3 r g b := by have := mn3_spec r g b; omega
  have lt : mn3 r g b < mx3 r g b := by omega
  have hR := sub_K hM hm (by omega) (by omega)
  have q1 := ratio_K hM hx hR hn h0.1 bM.1 (by omega) bM.2.2.2 (by omega) (by omega) (by omega)
  have q2 := ratio_K hM hy hR hn h0.2.1 bM.2.1 (by omega) bM.2.2.2 (by omega) (by omega) (by omega)
  have q3 := ratio_K hM hz hR hn h0.2.2 bM.2.2.1 (by omega) bM.2.2.2 (by omega) (by omega) (by omega)
  have c1 := (K_lt hx hM).2
  have c2 := (K_lt hy hM).2
  have key : hueF x y z = md (Float64.div (if r = mx3 r g b then Float64.sub (rat (mx3 r g b - b) (mx3 r g b - mn3 r g b)) (rat (mx3 r g b - g) (mx3 r g b - mn3 r g b))
      else if g = mx3 r g b then Float64.sub (Float64.add f2 (rat (mx3 r g b - r) (mx3 r g b - mn3 r g b))) (rat (mx3 r g b - b) (mx3 r g b - mn3 r g b))
      else Float64.sub (Float64.add f4 (rat (mx3 r g b - g) (mx3 r g b - mn3 r g b))) (rat (mx3 r g b - r) (mx3 r g b - mn3 r g b))) f6) := by
    unfold hueF hueH md
    rw [q1, q2, q3, c1, c2]
    simp only [decide_eq_true_eq]
  clear q1 q2 q3 c1 c2 hM hm hR hx hy hz
  have cs : (g < r ∧ b ≤ g) ∨ (r ≤ g ∧ b < r) ∨ (b < g ∧ r ≤ b) ∨ (g ≤ b ∧ r < g) ∨ (r < b ∧ g ≤ r) ∨ (b ≤ r ∧ g < b) := by omega
  have eM : ∀ v, (v = r ∨ v = g ∨ v = b) → r ≤ v → g ≤ v → b ≤ v → mx3 r g b = v := by
    intro v hv a1 a2 a3
    have : mx3 r g b = r ∨ mx3 r g b = g ∨ mx3 r g b = b := (mx3_spec r g b).2.2.2
    omega
  have em : ∀ v, (v = r ∨ v = g ∨ v = b) → v ≤ r → v ≤ g → v ≤ b → mn3 r g b = v := by
    intro v hv a1 a2 a3
    have : mn3 r g b = r ∨ mn3 r g b = g ∨ mn3 r g b = b := (mn3_spec r g b).2.2.2
    omega
  rcases cs with c | c | c | c | c | c
  · have e1 := eM r (by simp) (by omega) (by omega) (by omega)
    have e2 := em b (by simp) (by omega) (by omega) (by omega)
    rw [e1, e2] at key lt
    rw [e1, e2]
    refine ⟨0, r - g, g - b, ⟨by omega, by omega, by omega, by simp [ex] <;> omega, by simp [ey] <;> omega⟩, ?_, by omega, by omega⟩
    rw [key, if_pos rfl, rat_self ⟨by omega, by omega⟩]
    unfold Hfl hsec
    rw [show r - g + (g - b) = r - b by omega]
    rfl
  · have e1 := eM g (by simp) (by omega) (by omega) (by omega)
    have e2 := em b (by simp) (by omega) (by omega) (by omega)
    rw [e1, e2] at key lt
    rw [e1, e2]
    refine ⟨1, r - b, g - r, ⟨by omega, by omega, by omega, by simp [ex] <;> omega, by simp [ey] <;> omega⟩, ?_, by omega, by omega⟩
    rw [key]
    unfold Hfl hsec
    by_cases hh : r = g
    · subst hh
      rw [if_pos rfl, rat_self ⟨by omega, by omega⟩, Int.sub_self, show r - b + 0 = r - b by omega, rat_zero ⟨by omega, by omega⟩]
      kernel_rfl
    · rw [if_neg hh, if_pos rfl, rat_self ⟨by omega, by omega⟩, show r - b + (g - r) = g - b by omega]
      rfl
  · have e1 := eM g (by simp) (by omega) (by omega) (by omega)
    have e2 := em r (by simp) (by omega) (by omega) (by omega)
    rw [e1, e2] at key lt
    rw [e1, e2]
    refine ⟨2, g - b, b - r, ⟨by omega, by omega, by omega, by simp [ex] <;> omega, by simp [ey] <;> omega⟩, ?_, by omega, by omega⟩
    rw [key, if_neg (by omega), if_pos rfl, rat_self ⟨by omega, by omega⟩]
    unfold Hfl hsec
    rw [show g - b + (b - r) = g - r by omega]
    rfl
  · have e1 := eM b (by simp) (by omega) (by omega) (by omega)
    have e2 := em r (by simp) (by omega) (by omega) (by omega)
    rw [e1, e2] at key lt
    rw [e1, e2]
    refine ⟨3, g - r, b - g, ⟨by omega, by omega, by omega, by simp [ex] <;> omega, by simp [ey] <;> omega⟩, ?_, by omega, by omega⟩
    rw [key, if_neg (by omega)]
    unfold Hfl hsec
    by_cases hh : g = b
    · subst hh
      rw [if_pos rfl, rat_self ⟨by omega, by omega⟩, Int.sub_self, show g - r + 0 = g - r by omega, rat_zero ⟨by omega, by omega⟩]
      kernel_rfl
    · rw [if_neg hh, rat_self ⟨by omega, by omega⟩, show g - r + (b - g) = b - r by omega]
      rfl
  · have e1 := eM b (by simp) (by omega) (by omega) (by omega)
    have e2 := em g (by simp) (by omega) (by omega) (by omega)
    rw [e1, e2] at key lt
    rw [e1, e2]
    refine ⟨4, b - r, r - g, ⟨by omega, by omega, by omega, by simp [ex] <;> omega, by simp [ey] <;> omega⟩, ?_, by omega, by omega⟩
    rw [key, if_neg (by omega), if_neg (by omega), rat_self ⟨by omega, by omega⟩]
    unfold Hfl hsec
    rw [show b - r + (r - g) = b - g by omega]
    rfl
  · have e1 := eM r (by simp) (by omega) (by omega) (by omega)
    have e2 := em g (by simp) (by omega) (by omega) (by omega)
    rw [e1, e2] at key lt
    rw [e1, e2]
    refine ⟨5, b - g, r - b, ⟨by omega, by omega, by omega, by simp [ex] <;> omega, by simp [ey] <;> omega⟩, ?_, by omega, by omega⟩
    rw [key, if_pos rfl, rat_self ⟨by omega, by omega⟩]
    unfold Hfl hsec
    rw [show b - g + (r - b) = r - g by omega]
    rfl
end Mine
end FltEPart
section FltFPart
open PySem PySem.W PyProof.Rows PySem.Spec PySem.Calls PySem.Flt
namespace Mine
open PySem.Float64 (val V dist Right decode pack infMag sgn)
theorem decode_f2 : decode f2 = .fin false (2 ^ 52) (-51) := by kernel_rfl
theorem decode_f4 : decode f4 = .fin false (2 ^ 52) (-50) := by kernel_rfl
theorem decode_f6 : decode f6 = .fin false (3 * 2 ^ 51) (-50) := by kernel_rfl
theorem rv_f2 : rv f2 = 2 := val_const decode_f2 (by decide) (by decide) (by decide +kernel)
theorem rv_f4 : rv f4 = 4 := val_const decode_f4 (by decide) (by decide) (by decide +kernel)
theorem rv_f6 : rv f6 = 6 := val_const decode_f6 (by decide) (by decide) (by decide +kernel)
theorem fin_f2 : Fin f2 := ⟨_, _, _, decode_f2⟩
theorem fin_f4 : Fin f4 := ⟨_, _, _, decode_f4⟩
theorem fin_f6 : Fin f6 := ⟨_, _, _, decode_f6⟩
theorem u50_small : u50 < 1 / 1000000000 := by decide +kernel
/-- within k units -/
def Near (x : UInt64) (q k : Rat) : Prop := Fin x ∧ rv x ≤ q + k * u50 ∧ q ≤ rv x + k * u50
theorem six_ap {x : UInt64} {q : Rat} (h : Near x q 3) (hb : -1 ≤ q ∧ q ≤ 5) : Near (Float64.div x f6) (q / 6) 2 := by
  have hu := u50_pos
  have hu2 := u50_small
  obtain ⟨hf, h1, h2⟩ := h
  have := div_ap (q := rv x / 6) hf fin_f6 (by rw [rv_f6]; decide +kernel) (by rw [rv_f6]; exact Rat.div_mul_cancel (by decide +kernel)) (by grind)
  refine ⟨this.1, ?_⟩
  have := this.2
  grind
theorem stage_pos {x : UInt64} {q : Rat} (h : Near x q 3) (hb : 1 / 128 ≤ q ∧ q ≤ 5) : Near (md (Float64.div x f6)) (q / 6) 4 := by
  have hu := u50_pos
  have hu2 := u50_small
  have h2 := six_ap h (by grind)
  have h3 := md_pos h2.1 (by have := h2.2; grind) (by have := h2.2; grind)
  refine ⟨h3.1, ?_⟩
  have := h2.2
  have := h3.2
  grind
theorem stage_neg {x : UInt64} {q : Rat} (h : Near x q 3) (hb : -1 ≤ q ∧ q ≤ -1 / 128) : Near (md (Float64.div x f6)) (q / 6 + 1) 4 := by
  have hu := u50_pos
  have hu2 := u50_small
  have h2 := six_ap h (by grind)
  have h3 := md_neg h2.1 (by have := h2.2; grind) (by have := h2.2; grind)
  refine ⟨h3.1, ?_⟩
  have := h2.2
  have := h3.2
  grind
theorem near_sub {x y : UInt64} {p q k l : Rat} (hx : Near x p k) (hy : Near y q l) (hb : -6 ≤ p - q ∧ p - q ≤ 6) (hk : k + l ≤ 100) : Near (Float64.sub x y) (p - q) (k + l + 1) := by
  have hu := u50_pos
  have hu2 := u50_small
  have a := hx.2
  have b := hy.2
  have e : (k + l) * u50 ≤ 100 * u50 := Rat.mul_le_mul_of_nonneg_right hk (Rat.le_of_lt hu)
  have h := sub_ap hx.1 hy.1 (by grind)
  refine ⟨h.1, ?_⟩
  have := h.2
  grind
theorem near_add {x y : UInt64} {p q k l : Rat} (hx : Near x p k) (hy : Near y q l) (hb : -6 ≤ p + q ∧ p + q ≤ 6) (hk : k + l ≤ 100) : Near (Float64.add x y) (p + q) (k + l + 1) := by
  have hu := u50_pos
  have hu2 := u50_small
  have a := hx.2
  have b := hy.2
  have e : (k + l) * u50 ≤ 100 * u50 := Rat.mul_le_mul_of_nonneg_right hk (Rat.le_of_lt hu)
  have h := add_ap hx.1 hy.1 (by grind)
  refine ⟨h.1, ?_⟩
  have := h.2
  grind
theorem near_c {x : UInt64} {q : Rat} (hf : Fin x) (h : rv x = q) : Near x q 0 := ⟨hf, by grind⟩
theorem near_1 {x : UInt64} {q : Rat} (h : Ap1 x q) : Near x q 1 := ⟨h.1, by have := h.2; grind⟩
theorem Near.more {x : UInt64} {q k l : Rat} (h : Near x q k) (hk : k ≤ l) : Near x q l := by
  have := Rat.mul_le_mul_of_nonneg_right hk (Rat.le_of_lt u50_pos)
  have := h.2
  exact ⟨h.1, by grind⟩
theorem Near.to {x : UInt64} {q q' k : Rat} (h : Near x q k) (e : q = q') : Near x q' k := e ▸ h
/-- the float of a hue is near the hue -/
theorem hfl_ap {s : Nat} {α β : Int} {w : Rat} (hs : s < 6) (ha : 0 < α) (hb : 0 ≤ β) (hR : α + β ≤ 128) (hw : w * ((α + β : Int) : Rat) = (β : Rat)) : Near (Hfl s α β) (((s : Rat) + w) / 6) 4 ∧ 0 ≤ w ∧ w < 1 := by
  have hRp := cast_pos (R := α + β) (by omega)
  have hw' : (1 - w) * ((α + β : Int) : Rat) = (α : Rat) := by
    rw [Rat.intCast_add] at *
    grind
  have n1 := rat_ap (p := β) (R := α + β) ⟨hb, by omega⟩ ⟨by omega, hR⟩ hw
  have n2 := rat_ap (p := α) (R := α + β) ⟨by omega, by omega⟩ ⟨by omega, hR⟩ hw'
  have hR' : ((α + β : Int) : Rat) ≤ 128 := Rat.intCast_le_intCast.mpr hR
  have w1 : 1 / 128 ≤ 1 - w := by
    have h1 : (1 : Rat) ≤ (α : Rat) := Rat.intCast_le_intCast.mpr ha
    have := Rat.mul_le_mul_of_nonneg_left hR' n2.2.1
    grind
  have w2 : β = 0 ∨ 1 / 128 ≤ w := by
    by_cases h0 : β = 0
    · exact .inl h0
    · right
      have hb1 : 0 < β := by omega
      have h1 : (1 : Rat) ≤ (β : Rat) := Rat.intCast_le_intCast.mpr hb1
      have := Rat.mul_le_mul_of_nonneg_left hR' n1.2.1
      grind
  refine ⟨?_, n1.2.1, by grind⟩
  have m1 := near_1 n1.1
  have m2 := near_1 n2.1
  have c1 := near_c fin_f1 rv_f1
  have c2 := near_c fin_f2 rv_f2
  have c4 := near_c fin_f4 rv_f4
  have hu1 := n1.2.1
  have six : s = 0 ∨ s = 1 ∨ s = 2 ∨ s = 3 ∨ s = 4 ∨ s = 5 := by omega
  have k0 : ((0 : Nat) : Rat) = 0 := rfl
  have k1 : ((1 : Nat) : Rat) = 1 := rfl
  have k2 : ((2 : Nat) : Rat) = 2 := rfl
  have k3 : ((3 : Nat) : Rat) = 3 := rfl
  have k4 : ((4 : Nat) : Rat) = 4 := rfl
  have k5 : ((5 : Nat) : Rat) = 5 := rfl
  rcases six with rfl | rfl | rfl | rfl | rfl | rfl
  · rcases w2 with h0 | w2
    · subst h0
      have e0 : w = 0 := by
        have : w * ((α + 0 : Int) : Rat) = 0 := hw
        rcases Rat.mul_eq_zero.mp this with q | q
        · exact q
        · exact absurd q (Rat.ne_of_gt hRp)
      subst e0
      have : Hfl 0 α 0 = Float64.zero false := by
        unfold Hfl hsec
        rw [show α + 0 = α by omega, rat_self ⟨ha, by omega⟩]
        kernel_rfl
      rw [this, k0]
      exact (near_c (fin_zero _) (rv_zero _)).more (by decide +kernel) |>.to (by decide +kernel)
    · exact (stage_pos ((near_sub c1 m2 (by grind) (by decide +kernel)).more (by decide +kernel)) (by grind)).to (by grind)
  · exact (stage_pos ((near_sub (near_add c2 m1 (by grind) (by decide +kernel)) c1 (by grind) (by decide +kernel)).more (by decide +kernel)) (by grind)).to (by grind)
  · exact (stage_pos ((near_sub (near_add c2 c1 (by grind) (by decide +kernel)) m2 (by grind) (by decide +kernel)).more (by decide +kernel)) (by grind)).to (by grind)
  · exact (stage_pos ((near_sub (near_add c4 m1 (by grind) (by decide +kernel)) c1 (by grind) (by decide +kernel)).more (by decide +kernel)) (by grind)).to (by grind)
  · exact (stage_pos ((near_sub (near_add c4 c1 (by grind) (by decide +kernel)) m2 (by grind) (by decide +kernel)).more (by decide +kernel)) (by grind)).to (by grind)
  · exact (stage_neg ((near_sub m1 c1 (by grind) (by decide +kernel)).more (by decide +kernel)) (by grind)).to (by grind)
end Mine
end FltFPart
section FltGPart
open PySem PySem.W PyProof.Rows PySem.Spec PySem.Calls PySem.Flt
namespace Mine
open PySem.Float64 (val V dist Right decode pack infMag sgn)
/-- the float of a hue, six times the hue as a fraction N / R -/
structure HD (F : UInt64) (τ : Rat) (R N : Int) : Prop where
  near : Near F (τ / 6) 4
  lo : 0 ≤ τ
  hi : τ < 6
  frac : τ * (R : Rat) = (N : Rat)
  R0 : 0 < R
  R1 : R ≤ 128
theorem fin_way {way : Int} (h : way = 1 ∨ way = -1) : Fin (Float64.ofInt way) ∧ rv (Float64.ofInt way) = (way : Rat) := by
  rcases h with rfl | rfl
  · exact rv_ofInt ⟨by decide, by decide⟩
  · have hd : decode (Float64.ofInt (-1)) = .fin true (2 ^ 52) (-52) := by kernel_rfl
    exact ⟨⟨_, _, _, hd⟩, val_const hd (by decide) (by decide) (by decide +kernel)⟩
theorem way_rat {way : Int} (h : way = 1 ∨ way = -1) : (way : Rat) = 1 ∨ (way : Rat) = -1 := by
  rcases h with rfl | rfl
  · exact .inl rfl
  · exact .inr rfl
theorem way_mul {x : UInt64} {q k : Rat} {way : Int} (hw : way = 1 ∨ way = -1) (h : Near x q k) (hb : -1 ≤ q ∧ q ≤ 1) (hk : k ≤ 100) : Near (Float64.mul (Float64.ofInt way) x) ((way : Rat) * q) (k + 1) := by
  have hf := fin_way hw
  have hu := u50_pos
  have hu2 := u50_small
  have a := h.2
  have e : k * u50 ≤ 100 * u50 := Rat.mul_le_mul_of_nonneg_right hk (Rat.le_of_lt hu)
  have hwq := way_rat hw
  have h3 := mul_ap hf.1 h.1 (by rw [hf.2]; rcases hwq with q | q <;> rw [q] <;> grind)
  rw [hf.2] at h3
  refine ⟨h3.1, ?_⟩
  have := h3.2
  generalize (way : Rat) = c at *
  rcases hwq with rfl | rfl <;> grind
/-- how far from τa, in sixths, the way round -/
def g6 (way : Int) (τ τa : Rat) : Rat := if (way : Rat) * (τ - τa) < 0 then (way : Rat) * (τ - τa) + 6 else (way : Rat) * (τ - τa)
theorem sep {x : Rat} {n P : Int} (hP : 0 < P ∧ P ≤ 16384) (e : x * (P : Rat) = (n : Rat)) (hx : 0 < x) : 1 / 16384 ≤ x := by
  have hp := cast_pos hP.1
  have h1 : (P : Rat) ≤ 16384 := Rat.intCast_le_intCast.mpr hP.2
  have h2 : 0 < n := by
    rw [← Rat.intCast_pos, ← e]
    exact Rat.mul_pos hx hp
  have h3 : (1 : Rat) ≤ (n : Rat) := Rat.intCast_le_intCast.mpr h2
  have := Rat.mul_le_mul_of_nonneg_left h1 (Rat.le_of_lt hx)
  grind
theorem RR {R R' : Int} (h : 0 < R ∧ R ≤ 128) (h' : 0 < R' ∧ R' ≤ 128) : 0 < R * R' ∧ R * R' ≤ 16384 :=
  ⟨Int.mul_pos h.1 h'.1, by
    have := Int.mul_le_mul h.2 h'.2 (Int.le_of_lt h'.1) (by decide)
    exact this⟩
theorem gone_near {F Fa : UInt64} {τ τa : Rat} {R N Ra Na way : Int} (hw : way = 1 ∨ way = -1) (h : HD F τ R N) (ha : HD Fa τa Ra Na) (he : τ = τa → F = Fa) : Near (goneF way F Fa) (g6 way τ τa / 6) 12 := by
  have hu := u50_pos
  have hu2 := u50_small
  have hwq := way_rat hw
  by_cases h0 : τ = τa
  · rw [he h0, h0]
    have e1 : goneF way Fa Fa = Float64.zero false := by
      unfold goneF
      rw [sub_self ha.near.1]
      rcases hw with rfl | rfl <;> kernel_rfl
    have e2 : g6 way τa τa = 0 := by
      unfold g6
      have : (way : Rat) * (τa - τa) = 0 := by grind
      rw [this]; rfl
    rw [e1, e2]
    exact (near_c (fin_zero _) (rv_zero _)).more (by decide +kernel) |>.to (by decide +kernel)
  · have hlo := h.lo
    have hhi := h.hi
    have alo := ha.lo
    have ahi := ha.hi
    have m := way_mul hw (near_sub h.near ha.near (by grind) (by decide +kernel)) (by grind) (by decide +kernel)
    have hRR := RR ⟨h.R0, h.R1⟩ ⟨ha.R0, ha.R1⟩
    have hs : 1 / 16384 ≤ τ - τa ∨ 1 / 16384 ≤ τa - τ := by
      have hf := h.frac
      have hfa := ha.frac
      rcases Rat.le_total (a := τ) (b := τa) with q | q
      · right
        refine sep (n := Na * R - N * Ra) hRR ?_ (by grind)
        rw [Rat.intCast_sub, Rat.intCast_mul, Rat.intCast_mul, Rat.intCast_mul, ← hf, ← hfa]
        grind
      · left
        refine sep (n := N * Ra - Na * R) hRR ?_ (by grind)
        rw [Rat.intCast_sub, Rat.intCast_mul, Rat.intCast_mul, Rat.intCast_mul, ← hf, ← hfa]
        grind
    unfold goneF
    show Near (md _) _ _
    have hd : 1 / 16384 ≤ (way : Rat) * (τ - τa) ∨ (way : Rat) * (τ - τa) ≤ -1 / 16384 := by rcases hwq with q | q <;> rw [q] <;> grind
    have hm : (way : Rat) * (τ / 6 - τa / 6) = (way : Rat) * (τ - τa) / 6 := by grind
    have hr : -6 < (way : Rat) * (τ - τa) ∧ (way : Rat) * (τ - τa) < 6 := by rcases hwq with q | q <;> rw [q] <;> grind
    have hN := ha.R0
    have hs2 : (way : Rat) * (τ - τa) ≤ 6 - 1 / 16384 ∧ -6 + 1 / 16384 ≤ (way : Rat) * (τ - τa) := by
      have hf := h.frac
      have hfa := ha.frac
      have key : ∀ x : Rat, 0 ≤ x → x < 6 → ∀ y : Rat, 0 ≤ y → y < 6 → ∀ (n R n' R' : Int), 0 < R ∧ R ≤ 128 → 0 < R' ∧ R' ≤ 128 → x * (R : Rat) = n → y * (R' : Rat) = n' → x - y ≤ 6 - 1 / 16384 := by
        intro x x0 x6 y y0 y6 n R n' R' hR hR' e e'
        have := sep (x := 6 - x + y) (n := 6 * R * R' - n * R' + n' * R) (RR hR hR') (by
          rw [Rat.intCast_add, Rat.intCast_sub, Rat.intCast_mul, Rat.intCast_mul, Rat.intCast_mul, Rat.intCast_mul, Rat.intCast_mul, ← e, ← e']
          have : ((6 : Int) : Rat) = 6 := rfl
          rw [this]
          grind) (by grind)
        grind
      have k1 := key τ hlo hhi τa alo ahi N R Na Ra ⟨h.R0, h.R1⟩ ⟨ha.R0, ha.R1⟩ hf hfa
      have k2 := key τa alo ahi τ hlo hhi Na Ra N R ⟨ha.R0, ha.R1⟩ ⟨h.R0, h.R1⟩ hfa hf
      rcases hwq with q | q <;> rw [q] <;> grind
    rw [hm] at m
    unfold g6
    generalize (way : Rat) * (τ - τa) = d at *
    obtain ⟨mf, m1, m2⟩ := m
    rcases hd with hd | hd
    · rw [if_neg (by grind)]
      have h3 := md_pos mf (by grind) (by grind)
      refine ⟨h3.1, ?_⟩
      have := h3.2
      grind
    · rw [if_pos (by grind)]
      have h3 := md_neg mf (by grind) (by grind)
      refine ⟨h3.1, ?_⟩
      have := h3.2
      grind
/-- the floats stand as the fractions stand -/
theorem gone_cmp {F G Fa : UInt64} {τ σ τa : Rat} {R N R' N' Ra Na way : Int} (hw : way = 1 ∨ way = -1) (h : HD F τ R N) (h' : HD G σ R' N') (ha : HD Fa τa Ra Na) (he : τ = τa → F = Fa) (he' : σ = τa → G = Fa) (hee : τ = σ → F = G) :
    flt (goneF way F Fa) (goneF way G Fa) = decide (g6 way τ τa < g6 way σ τa) := by
  have hu := u50_pos
  have hu2 := u50_small
  have n1 := gone_near hw h ha he
  have n2 := gone_near hw h' ha he'
  have hwq := way_rat hw
  have hlo := h.lo
  have hhi := h.hi
  have slo := h'.lo
  have shi := h'.hi
  have alo := ha.lo
  have ahi := ha.hi
  have hf := h.frac
  have hf' := h'.frac
  have hRR := RR ⟨h.R0, h.R1⟩ ⟨h'.R0, h'.R1⟩
  have dd : ∃ k : Int, (g6 way τ τa - g6 way σ τa) * ((R * R' : Int) : Rat) = (k : Rat) := by
    have e : ∀ j : Int, ((way : Rat) * (τ - σ) + (j : Rat)) * ((R * R' : Int) : Rat) = ((way * (N * R' - N' * R) + j * (R * R') : Int) : Rat) := by
      intro j
      rw [Rat.intCast_add, Rat.intCast_mul, Rat.intCast_mul, Rat.intCast_mul, Rat.intCast_sub, Rat.intCast_mul, Rat.intCast_mul, ← hf, ← hf']
      grind
    have i6 : ((6 : Int) : Rat) = 6 := rfl
    have i0 : ((0 : Int) : Rat) = 0 := rfl
    have im : ((-6 : Int) : Rat) = -6 := rfl
    unfold g6
    split <;> split
    · exact ⟨_, Eq.trans (by rw [i0]; grind) (e 0)⟩
    · exact ⟨_, Eq.trans (by rw [i6]; grind) (e 6)⟩
    · exact ⟨_, Eq.trans (by rw [im]; grind) (e (-6))⟩
    · exact ⟨_, Eq.trans (by rw [i0]; grind) (e 0)⟩
  obtain ⟨k, hk⟩ := dd
  have hk' : (g6 way σ τa - g6 way τ τa) * ((R * R' : Int) : Rat) = ((-k : Int) : Rat) := by rw [Rat.intCast_neg, ← hk]; grind
  unfold flt
  rw [(cmp_rv n1.1 n2.1).1]
  rcases Rat.le_total (a := g6 way τ τa) (b := g6 way σ τa) with q | q
  · by_cases hq : g6 way τ τa = g6 way σ τa
    · have : τ = σ := by
        unfold g6 at hq
        rcases hwq with c | c <;> rw [c] at hq <;> split at hq <;> split at hq <;> grind
      have e := hee this
      subst this e
      exact decide_eq_decide.mpr ⟨fun x => absurd x Rat.lt_irrefl, fun x => absurd x Rat.lt_irrefl⟩
    · have := sep hRR hk' (by grind)
      have := n1.2
      have := n2.2
      exact decide_eq_decide.mpr ⟨fun _ => by grind, fun _ => by grind⟩
  · by_cases hq : g6 way τ τa = g6 way σ τa
    · have : τ = σ := by
        unfold g6 at hq
        rcases hwq with c | c <;> rw [c] at hq <;> split at hq <;> split at hq <;> grind
      have e := hee this
      subst this e
      exact decide_eq_decide.mpr ⟨fun x => absurd x Rat.lt_irrefl, fun x => absurd x Rat.lt_irrefl⟩
    · have := sep hRR hk (by grind)
      have := n1.2
      have := n2.2
      exact decide_eq_decide.mpr ⟨fun _ => by grind, fun _ => by grind⟩
end Mine
end FltGPart
section FltHPart
open PySem PySem.W PyProof.Rows PySem.Spec PySem.Calls PySem.Flt
namespace Mine
theorem cross_sgn {x1 y1 x2 y2 α1 β1 α2 β2 : Int} {s1 s2 : Nat} (h1 : Dir x1 y1 s1 α1 β1) (h2 : Dir x2 y2 s2 α2 β2) {X δ T : Int} (hX : X = x1 * y2 - y1 * x2) (hδ : δ = ((s2 : Int) * (α2 + β2) + β2) * (α1 + β1) - ((s1 : Int) * (α1 + β1) + β1) * (α2 + β2)) (hT : T = (α1 + β1) * (α2 + β2)) :
    (0 < X ↔ (0 < δ ∧ δ < 3 * T) ∨ δ < -3 * T) ∧ (X = 0 ↔ δ = 0 ∨ δ = 3 * T ∨ δ = -3 * T) := by
  obtain ⟨hs1, ha1, hb1, rfl, rfl⟩ := h1
  obtain ⟨hs2, ha2, hb2, rfl, rfl⟩ := h2
  have hp : 0 < α1 * α2 := Int.mul_pos ha1 ha2
  have hq : 0 ≤ α1 * β2 := Int.mul_nonneg (Int.le_of_lt ha1) hb2
  have hr : 0 ≤ β1 * α2 := Int.mul_nonneg hb1 (Int.le_of_lt ha2)
  have hs : 0 ≤ β1 * β2 := Int.mul_nonneg hb1 hb2
  have eX : X = α1 * α2 * (ex s1 * ey s2 - ey s1 * ex s2) + α1 * β2 * (ex s1 * ey (s2 + 1) - ey s1 * ex (s2 + 1)) + β1 * α2 * (ex (s1 + 1) * ey s2 - ey (s1 + 1) * ex s2) + β1 * β2 * (ex (s1 + 1) * ey (s2 + 1) - ey (s1 + 1) * ex (s2 + 1)) := by
    rw [hX]; grind
  have eT : T = α1 * α2 + α1 * β2 + β1 * α2 + β1 * β2 := by rw [hT]; grind
  have eδ : δ = ((s2 : Int) - (s1 : Int)) * (α1 * α2 + α1 * β2 + β1 * α2 + β1 * β2) + α1 * β2 - β1 * α2 := by rw [hδ]; grind
  clear hX hT hδ
  generalize α1 * α2 = p at *
  generalize α1 * β2 = q at *
  generalize β1 * α2 = r at *
  generalize β1 * β2 = s at *
  subst eX eT eδ
  have c1 : s1 = 0 ∨ s1 = 1 ∨ s1 = 2 ∨ s1 = 3 ∨ s1 = 4 ∨ s1 = 5 := by omega
  have c2 : s2 = 0 ∨ s2 = 1 ∨ s2 = 2 ∨ s2 = 3 ∨ s2 = 4 ∨ s2 = 5 := by omega
  rcases c1 with rfl | rfl | rfl | rfl | rfl | rfl <;> rcases c2 with rfl | rfl | rfl | rfl | rfl | rfl <;> simp only [ex, ey] <;> omega
/-- the sign of a crosswise product by how far the one lies behind the other, in sixths of a turn -/
def SgR (X : Int) (t : Rat) : Prop := (0 < X ↔ (0 < t ∧ t < 3) ∨ t < -3) ∧ (X = 0 ↔ t = 0 ∨ t = 3 ∨ t = -3) ∧ -6 < t ∧ t < 6
theorem mul_cmp {t c : Rat} {T δ k : Int} (hT : 0 < T) (e : t * (T : Rat) = (δ : Rat)) (hc : c = (k : Rat)) : (c < t ↔ k * T < δ) ∧ (t < c ↔ δ < k * T) ∧ (t = c ↔ δ = k * T) := by
  have hp := cast_pos hT
  have a1 : c < t ↔ k * T < δ := by
    rw [← Rat.intCast_lt_intCast, ← e, Rat.intCast_mul, ← hc]
    exact (Rat.mul_lt_mul_right hp).symm
  have a2 : t < c ↔ δ < k * T := by
    rw [← Rat.intCast_lt_intCast, ← e, Rat.intCast_mul, ← hc]
    exact (Rat.mul_lt_mul_right hp).symm
  refine ⟨a1, a2, ?_⟩
  constructor
  · intro h
    have n1 : ¬ k * T < δ := fun q => by have := a1.mpr q; grind
    have n2 : ¬ δ < k * T := fun q => by have := a2.mpr q; grind
    omega
  · intro h
    have n1 : ¬ c < t := fun q => by have := a1.mp q; omega
    have n2 : ¬ t < c := fun q => by have := a2.mp q; omega
    grind
theorem sgR_of {x1 y1 x2 y2 α1 β1 α2 β2 : Int} {s1 s2 : Nat} (h1 : Dir x1 y1 s1 α1 β1) (h2 : Dir x2 y2 s2 α2 β2) {τ1 τ2 : Rat} (e1 : τ1 * ((α1 + β1 : Int) : Rat) = (((s1 : Int) * (α1 + β1) + β1 : Int) : Rat)) (e2 : τ2 * ((α2 + β2 : Int) : Rat) = (((s2 : Int) * (α2 + β2) + β2 : Int) : Rat))
    (b1 : 0 ≤ τ1 ∧ τ1 < 6) (b2 : 0 ≤ τ2 ∧ τ2 < 6) : SgR (x1 * y2 - y1 * x2) (τ2 - τ1) := by
  have h := cross_sgn h1 h2 rfl rfl rfl
  have hT : 0 < (α1 + β1) * (α2 + β2) := Int.mul_pos (by have := h1.ha; have := h1.hb; omega) (by have := h2.ha; have := h2.hb; omega)
  have e : (τ2 - τ1) * (((α1 + β1) * (α2 + β2) : Int) : Rat) = ((((s2 : Int) * (α2 + β2) + β2) * (α1 + β1) - ((s1 : Int) * (α1 + β1) + β1) * (α2 + β2) : Int) : Rat) := by
    generalize (s1 : Int) * (α1 + β1) + β1 = N1 at *
    generalize (s2 : Int) * (α2 + β2) + β2 = N2 at *
    rw [Rat.intCast_sub, Rat.intCast_mul, Rat.intCast_mul, Rat.intCast_mul, ← e2, ← e1]
    grind
  have c0 := mul_cmp (k := 0) (c := 0) hT e rfl
  have c3 := mul_cmp (k := 3) (c := 3) hT e rfl
  have cm := mul_cmp (k := -3) (c := -3) hT e rfl
  rw [Int.zero_mul] at c0
  refine ⟨?_, ?_, by grind, by grind⟩
  · rw [c0.1, c3.2.1, cm.2.1]; exact h.1
  · rw [c0.2.2, c3.2.2, cm.2.2]; exact h.2
theorem SgR.neg {X : Int} {t : Rat} (h : SgR X t) : SgR (-X) (-t) := by
  obtain ⟨h1, h2, h3, h4⟩ := h
  have n : X < 0 ↔ ¬ 0 < X ∧ ¬ X = 0 := by omega
  refine ⟨?_, ?_, by grind, by grind⟩
  · have e : 0 < -X ↔ X < 0 := by omega
    rw [e, n, h1, h2]
    grind
  · have e : -X = 0 ↔ X = 0 := by omega
    rw [e, h2]
    grind
theorem SgR.way {X way : Int} {t : Rat} (h : SgR X t) (hw : way = 1 ∨ way = -1) : SgR (way * X) ((way : Rat) * t) := by
  rcases hw with rfl | rfl
  · have e : ((1 : Int) : Rat) = 1 := rfl
    rw [Int.one_mul, e, Rat.one_mul]; exact h
  · have e : ((-1 : Int) : Rat) = -1 := rfl
    rw [Int.neg_one_mul, e, Rat.neg_mul, Rat.one_mul]; exact h.neg
def gg (t : Rat) : Rat := if t < 0 then t + 6 else t
theorem gg_sg {X : Int} {t : Rat} (h : SgR X t) : (0 < X → 0 < gg t ∧ gg t < 3) ∧ (X = 0 → gg t = 0 ∨ gg t = 3) ∧ (X < 0 → 3 < gg t ∧ gg t < 6) ∧ (gg t = t ∨ gg t = t + 6) := by
  obtain ⟨h1, h2, h3, h4⟩ := h
  have n : X < 0 → ¬ 0 < X ∧ ¬ X = 0 := by omega
  refine ⟨fun q => ?_, fun q => ?_, fun q => ?_, ?_⟩
  · rcases h1.mp q with c | c
    · unfold gg; rw [if_neg (by grind)]; exact c
    · unfold gg; rw [if_pos (by grind)]; grind
  · rcases h2.mp q with c | c | c
    · unfold gg; rw [if_neg (by grind)]; exact .inl c
    · unfold gg; rw [if_neg (by grind)]; exact .inr c
    · unfold gg; rw [if_pos (by grind)]; grind
  · have := n q
    rw [h1, h2] at this
    unfold gg
    split <;> grind
  · unfold gg
    split
    · exact .inr rfl
    · exact .inl rfl
theorem core {Xi A X Y B Z : Int} {ti tc tb : Rat} (hi : SgR Xi ti) (hA : SgR A tc) (hX : SgR X tb) (hY : SgR Y (tc - ti)) (hB : SgR B (tb - tc)) (hZ : SgR Z (tb - ti)) (hXp : 0 < X) (hXi : 0 ≤ Xi) (hXZ : Xi = 0 → 0 < Z) (hYp : B < 0 → 0 < A → 0 < Y) :
    ((A < 0 ∨ B < 0) → gg ti < gg tc) ∧ (0 ≤ A → 0 ≤ B → 0 < A + B ∧ (gg ti < gg tc ↔ 0 < Y) ∧ (gg tc < gg ti ↔ Y < 0)) := by
  have gi := gg_sg hi
  have gc := gg_sg hA
  have gb := gg_sg hX
  have b1 := gb.1 hXp
  have q1 := hi.2.2
  have q2 := hA.2.2
  have q3 := hX.2.2
  have q4 := hY.2.2
  have q5 := hB.2.2
  have q6 := hZ.2.2
  have i3 : 0 ≤ gg ti ∧ gg ti < 3 := by
    by_cases h0 : Xi = 0
    · have hz := hXZ h0
      have := hZ.1.mp hz
      have := hi.2.1.mp h0
      have := hX.1.mp hXp
      have := gi.2.1 h0
      have := gi.2.2.2
      clear hi hA hX hY hB hZ hXZ hYp gi gc gb
      grind
    · have := gi.1 (by omega)
      grind
  have YY : gg ti < 3 → gg tc < 3 → 0 ≤ gg tc → (gg ti < gg tc ↔ 0 < Y) ∧ (gg tc < gg ti ↔ Y < 0) := by
    intro _ h2 h3
    have y1 := hY.1
    have y2 := hY.2.1
    have y3 := hY.2.2
    have n : Y < 0 ↔ ¬ 0 < Y ∧ ¬ Y = 0 := by omega
    rw [n, y1, y2]
    have e1 := gi.2.2.2
    have e2 := gc.2.2.2
    rcases e1 with e1 | e1 <;> rcases e2 with e2 | e2 <;> grind
  constructor
  · intro h
    rcases Int.lt_trichotomy A 0 with hA0 | hA0 | hA0
    · have := gc.2.2.1 hA0
      grind
    · have hB0 : B < 0 := by omega
      have c := hA.2.1.mp hA0
      have gz := gc.2.1 hA0
      have hb := hX.1.mp hXp
      have nB : ¬ 0 < B ∧ ¬ B = 0 := by omega
      rw [hB.1, hB.2.1] at nB
      have : gg tc = 3 := by
        clear hi hA hX hY hB hZ hXZ hYp gi gb
        rcases c with c | c | c
        · grind
        · grind
        · grind
      grind
    · have hB0 : B < 0 := by omega
      have g := gc.1 hA0
      exact ((YY i3.2 g.2 (by grind)).1).mpr (hYp hB0 hA0)
  · intro hA0 hB0
    have hb := hX.1.mp hXp
    have AB : 0 < A + B := by
      refine Classical.byContradiction fun hc => ?_
      have a0 : A = 0 := by omega
      have b0 : B = 0 := by omega
      have c1 := hA.2.1.mp a0
      have c2 := hB.2.1.mp b0
      clear hi hA hX hY hB hZ hXZ hYp gi gb
      rcases c1 with c1 | c1 | c1 <;> rcases c2 with c2 | c2 | c2 <;> grind
    have c3 : 0 ≤ gg tc ∧ gg tc < 3 := by
      by_cases h0 : A = 0
      · have hBp : 0 < B := by omega
        have c1 := hA.2.1.mp h0
        have c2 := hB.1.mp hBp
        have c4 := gc.2.1 h0
        clear hi hA hX hY hB hZ hXZ hYp gi gb
        have : gg tc = 0 := by
          unfold gg at *
          rcases c1 with c1 | c1 | c1 <;> rcases c2 with c2 | c2 <;> grind
        grind
      · have := gc.1 (by omega)
        grind
    exact ⟨AB, YY i3.2 c3.2 c3.1⟩
end Mine
end FltHPart
section FltIPart
open PySem PySem.W PyProof.Rows PySem.Spec PySem.Calls PySem.Flt
namespace Mine
open PySem.Float64 (val V dist Right decode pack infMag sgn)
structure HK (F : UInt64) (x y : Int) (s : Nat) (α β : Int) (τ : Rat) : Prop where
  dir : Dir x y s α β
  eq : F = Hfl s α β
  R1 : α + β ≤ 128
  frac : τ * ((α + β : Int) : Rat) = (((s : Int) * (α + β) + β : Int) : Rat)
  hd : HD F τ (α + β) ((s : Int) * (α + β) + β)
theorem hk_of {n : Nat} {x y z : UInt64} {r g b : Int} (hx : Kx n x r) (hy : Kx n y g) (hz : Kx n z b) (hn : n ≤ 7) (h0 : 0 ≤ r ∧ 0 ≤ g ∧ 0 ≤ b) (h1 : r ≤ ((2 ^ n : Nat) : Int) ∧ g ≤ ((2 ^ n : Nat) : Int) ∧ b ≤ ((2 ^ n : Nat) : Int)) (hg : ¬ (r = g ∧ g = b)) :
    ∃ s α β τ, HK (hueF x y z) (r - b) (g - b) s α β τ := by
  obtain ⟨s, α, β, hd, he, hR, hR2⟩ := hueF_K hx hy hz hn h0 h1 hg
  have hp : ((2 ^ n : Nat) : Int) ≤ 128 := by
    have : 2 ^ n ≤ 2 ^ 7 := Nat.pow_le_pow_right (by decide) hn
    omega
  have ha := hd.ha
  have hb := hd.hb
  have hs := hd.hs
  have hRp := cast_pos (R := α + β) (by omega)
  have hw : (β : Rat) / ((α + β : Int) : Rat) * ((α + β : Int) : Rat) = (β : Rat) := Rat.div_mul_cancel (Rat.ne_of_gt hRp)
  have h := hfl_ap hs ha hb (by omega) hw
  generalize (β : Rat) / ((α + β : Int) : Rat) = w at *
  have hfrac : ((s : Rat) + w) * ((α + β : Int) : Rat) = (((s : Int) * (α + β) + β : Int) : Rat) := by
    rw [Rat.intCast_add ((s : Int) * (α + β)), Rat.intCast_mul, Rat.intCast_natCast, ← hw]
    grind
  have hs5 : (s : Rat) ≤ 5 := by
    have : ((5 : Nat) : Rat) = 5 := rfl
    rw [← this]
    exact Rat.natCast_le_natCast.mpr (by omega)
  have hs0 : (0 : Rat) ≤ (s : Rat) := Rat.natCast_nonneg
  exact ⟨s, α, β, (s : Rat) + w, hd, he, by omega, hfrac, ⟨he ▸ h.1, by grind, by grind, hfrac, by omega, by omega⟩⟩
theorem HK.same {F G : UInt64} {x y x' y' : Int} {s s' : Nat} {α β α' β' : Int} {τ τ' : Rat} (h : HK F x y s α β τ) (h' : HK G x' y' s' α' β' τ') (e : τ = τ') : F = G := by
  subst e
  have ha := h.dir.ha
  have hb := h.dir.hb
  have ha' := h'.dir.ha
  have hb' := h'.dir.hb
  have ei : ((s : Int) * (α + β) + β) * (α' + β') = ((s' : Int) * (α' + β') + β') * (α + β) := by
    have : ((((s : Int) * (α + β) + β) * (α' + β') : Int) : Rat) = ((((s' : Int) * (α' + β') + β') * (α + β) : Int) : Rat) := by
      have f1 := h.frac
      have f2 := h'.frac
      rw [Rat.intCast_mul, Rat.intCast_mul, ← f1, ← f2]
      grind
    exact Rat.intCast_inj.mp this
  have p1 : 0 ≤ β * (α' + β') := Int.mul_nonneg hb (by omega)
  have p2 : 0 ≤ β' * (α + β) := Int.mul_nonneg hb' (by omega)
  have p3 : 0 < α * (α' + β') := Int.mul_pos ha (by omega)
  have p4 : 0 < α' * (α + β) := Int.mul_pos ha' (by omega)
  have T1 : α * (α' + β') + β * (α' + β') = (α + β) * (α' + β') := by grind
  have T2 : α' * (α + β) + β' * (α + β) = (α + β) * (α' + β') := by grind
  have ei' : (s : Int) * ((α + β) * (α' + β')) + β * (α' + β') = (s' : Int) * ((α + β) * (α' + β')) + β' * (α + β) := by grind
  have hs := h.dir.hs
  have hs' := h'.dir.hs
  generalize (α + β) * (α' + β') = T at *
  generalize hP : β * (α' + β') = P at *
  generalize hQ : β' * (α + β) = Q at *
  have hss : s = s' := by
    rcases Nat.lt_trichotomy s s' with q | q | q
    · obtain ⟨k, rfl⟩ : ∃ k, s' = s + 1 + k := ⟨s' - (s + 1), by omega⟩
      have : ((s + 1 + k : Nat) : Int) * T = (s : Int) * T + T + (k : Int) * T := by rw [Int.natCast_add, Int.natCast_add]; grind
      have : 0 ≤ (k : Int) * T := Int.mul_nonneg (by omega) (by omega)
      omega
    · exact q
    · obtain ⟨k, rfl⟩ : ∃ k, s = s' + 1 + k := ⟨s - (s' + 1), by omega⟩
      have : ((s' + 1 + k : Nat) : Int) * T = (s' : Int) * T + T + (k : Int) * T := by rw [Int.natCast_add, Int.natCast_add]; grind
      have : 0 ≤ (k : Int) * T := Int.mul_nonneg (by omega) (by omega)
      omega
  subst hss
  rw [h.eq, h'.eq]
  refine hsec_eq ⟨ha, hb, h.R1⟩ ⟨ha', hb', h'.R1⟩ ?_
  have : P = Q := by omega
  rw [← hP, ← hQ] at this
  grind
theorem hueOk_K {n : Nat} {x y z : UInt64} {r g b : Int} (hx : Kx n x r) (hy : Kx n y g) (hz : Kx n z b) (hn : n ≤ 7) (h0 : 0 ≤ r ∧ 0 ≤ g ∧ 0 ≤ b) (h1 : r ≤ ((2 ^ n : Nat) : Int) ∧ g ≤ ((2 ^ n : Nat) : Int) ∧ b ≤ ((2 ^ n : Nat) : Int)) (hg : ¬ (r = g ∧ g = b)) :
    HueOk x y z := by
  have hM := max3_K hx hy hz
  have hm := min3_K hx hy hz
  have sM := mx3_spec r g b
  have sm := mn3_spec r g b
  have hS := sub_K hM hm (by omega) (by omega)
  refine ⟨?_, ?_, ?_⟩
  · rw [(K_lt hm hM).2]; exact decide_eq_false (by omega)
  · rw [isZero_rv hM.1]
    simp only [decide_eq_true_eq, (K_pos hM (by omega)).2]
    omega
  · rw [isZero_rv hS.1]
    simp only [decide_eq_true_eq, (K_pos hS (by omega)).2]
    omega
theorem hlsOk_K {x y z : UInt64} {r g b : Int} (hx : Kx 4 x r) (hy : Kx 4 y g) (hz : Kx 4 z b) (h0 : 0 ≤ r ∧ 0 ≤ g ∧ 0 ≤ b) (h1 : r ≤ 16 ∧ g ≤ 16 ∧ b ≤ 16) (hg : ¬ (r = g ∧ g = b)) : HlsOk x y z := by
  have hu := u50_pos
  have hu2 := u50_small
  have hk := hueOk_K hx hy hz (by omega) h0 h1 hg
  have hM := max3_K hx hy hz
  have hm := min3_K hx hy hz
  have sM := mx3_spec r g b
  have sm := mn3_spec r g b
  have eM := hM.rv (by omega)
  have em := hm.rv (by omega)
  have e16 : ((2 ^ 4 : Nat) : Rat) = 16 := rfl
  rw [e16] at eM em
  have iM : (mx3 r g b : Rat) ≤ 16 := Rat.intCast_le_intCast (b := 16) |>.mpr (by omega)
  have im : ((mn3 r g b + 1 : Int) : Rat) ≤ (mx3 r g b : Rat) := Rat.intCast_le_intCast.mpr (by omega)
  rw [Rat.intCast_add] at im
  have i1 : ((1 : Int) : Rat) = 1 := rfl
  rw [i1] at im
  have i0 : (0 : Rat) ≤ (mn3 r g b : Rat) := Rat.intCast_nonneg.mpr (by omega)
  generalize (mx3 r g b : Rat) = P at *
  generalize (mn3 r g b : Rat) = Q at *
  have aM := near_c hM.1 rfl
  have am := near_c hm.1 rfl
  have c2 := near_c fin_f2 rv_f2
  have s1 := near_add aM am (by grind) (by decide +kernel)
  have s2 := near_sub (near_sub c2 aM (by grind) (by decide +kernel)) am (by grind) (by decide +kernel)
  refine ⟨hk.ne, ?_, hk.z2, ?_⟩
  · rw [isZero_rv s1.1]
    have := s1.2
    simp only [decide_eq_true_eq]
    intro h
    grind
  · rw [isZero_rv s2.1]
    have := s2.2
    simp only [decide_eq_true_eq]
    intro h
    grind
theorem fin_not_inf {x : UInt64} (h : Fin x) : ¬ Float64.isInf x = true := by
  obtain ⟨a, m, e, h⟩ := h
  unfold Float64.isInf
  rw [h]
  simp
theorem not_inf {k : Int} (h : 0 ≤ k ∧ k ≤ 128) : ¬ Float64.isInf (Float64.ofInt k) = true := fin_not_inf (rv_ofInt h).1
theorem mulb {x y : Int} (hx : -8 ≤ x ∧ x ≤ 8) (hy : -16 ≤ y ∧ y ≤ 16) : -128 ≤ x * y ∧ x * y ≤ 128 := by
  have h1 : (x * y).natAbs ≤ 8 * 16 := by
    rw [Int.natAbs_mul]
    exact Nat.mul_le_mul (by omega) (by omega)
  omega
theorem cross_step (a0 a1 a2 b0 b1 b2 c0 c1 c2 steps i : Int) : crossI ((steps - i) * a0 + i * b0) ((steps - i) * a1 + i * b1) ((steps - i) * a2 + i * b2) c0 c1 c2 = steps * crossI a0 a1 a2 c0 c1 c2 - i * (crossI a0 a1 a2 c0 c1 c2 + crossI c0 c1 c2 b0 b1 b2) := by
  unfold crossI; grind
theorem cross_step_l (a0 a1 a2 b0 b1 b2 steps i : Int) : crossI a0 a1 a2 ((steps - i) * a0 + i * b0) ((steps - i) * a1 + i * b1) ((steps - i) * a2 + i * b2) = i * crossI a0 a1 a2 b0 b1 b2 := by
  unfold crossI; grind
theorem cross_step_r (a0 a1 a2 b0 b1 b2 steps i : Int) : crossI ((steps - i) * a0 + i * b0) ((steps - i) * a1 + i * b1) ((steps - i) * a2 + i * b2) b0 b1 b2 = (steps - i) * crossI a0 a1 a2 b0 b1 b2 := by
  unfold crossI; grind
theorem cross_grey {a0 a1 a2 b0 b1 b2 : Int} (h : crossI a0 a1 a2 b0 b1 b2 ≠ 0) : ¬ (a0 = a1 ∧ a1 = a2) ∧ ¬ (b0 = b1 ∧ b1 = b2) := by
  constructor
  · rintro ⟨rfl, rfl⟩; exact h (by unfold crossI; grind)
  · rintro ⟨rfl, rfl⟩; exact h (by unfold crossI; grind)
theorem part_rng {a b steps i : Int} (ha : 0 ≤ a ∧ a ≤ 8) (hb : 0 ≤ b ∧ b ≤ 8) (hi : 0 ≤ i ∧ i ≤ steps) : 0 ≤ (steps - i) * a + i * b ∧ (steps - i) * a + i * b ≤ 8 * steps := by
  have h1 : 0 ≤ (steps - i) * a := Int.mul_nonneg (by omega) ha.1
  have h2 : 0 ≤ i * b := Int.mul_nonneg hi.1 hb.1
  have h3 : 0 ≤ (steps - i) * (8 - a) := Int.mul_nonneg (by omega) (by omega)
  have h4 : 0 ≤ i * (8 - b) := Int.mul_nonneg hi.1 (by omega)
  rw [Int.mul_sub] at h3 h4
  omega
theorem fd {n w : Int} (hw : 0 < w) : n.fdiv w = n / w := Int.fdiv_eq_ediv_of_nonneg n (Int.le_of_lt hw)
end Mine
end FltIPart
section FltJPart
open PySem PySem.W PyProof.Rows PySem.Spec PySem.Calls PySem.Flt
namespace Mine
theorem g6_gg (way : Int) (τ τa : Rat) : g6 way τ τa = gg ((way : Rat) * (τ - τa)) := rfl
/-- one step against the post -/
theorem step_cmp {a0 a1 a2 b0 b1 b2 c0 c1 c2 steps way : Int} (ha : Col8 a0 a1 a2) (hb : Col8 b0 b1 b2) (hc : Col16 c0 c1 c2) (hst : Span steps) (hw : Way way (crossI a0 a1 a2 b0 b1 b2)) (hcn : ¬ (c0 = c1 ∧ c1 = c2)) {i : Int} (hi : 0 ≤ i ∧ i ≤ steps) {A B Y : Int}
    (hA : A = way * crossI a0 a1 a2 c0 c1 c2) (hB : B = way * crossI c0 c1 c2 b0 b1 b2) (hY : Y = steps * A - i * (A + B)) :
    HueOk (partf ((steps - i) * a0 + i * b0) steps) (partf ((steps - i) * a1 + i * b1) steps) (partf ((steps - i) * a2 + i * b2) steps) ∧
    ((A < 0 ∨ B < 0) → flt (keyG a0 a1 a2 b0 b1 b2 steps way i) (wishF a0 a1 a2 c0 c1 c2 way) = true ∧ flt (wishF a0 a1 a2 c0 c1 c2 way) (keyG a0 a1 a2 b0 b1 b2 steps way i) = false) ∧
    (0 ≤ A → 0 ≤ B → 0 < A + B ∧ flt (keyG a0 a1 a2 b0 b1 b2 steps way i) (wishF a0 a1 a2 c0 c1 c2 way) = decide (0 < Y) ∧ flt (wishF a0 a1 a2 c0 c1 c2 way) (keyG a0 a1 a2 b0 b1 b2 steps way i) = decide (Y < 0)) := by
  have hsp : 4 ≤ steps ∧ steps ≤ 16 := by rcases hst with rfl | rfl | rfl <;> omega
  have hw1 : way = 1 ∨ way = -1 := hw.imp (·.1) (·.1)
  have hX : 0 < way * crossI a0 a1 a2 b0 b1 b2 := by rcases hw with ⟨rfl, h⟩ | ⟨rfl, h⟩ <;> omega
  have hne : crossI a0 a1 a2 b0 b1 b2 ≠ 0 := by intro h; rw [h] at hX; omega
  have hgr := cross_grey hne
  have r0 := part_rng (steps := steps) (i := i) ha.1 hb.1 hi
  have r1 := part_rng (steps := steps) (i := i) ha.2.1 hb.2.1 hi
  have r2 := part_rng (steps := steps) (i := i) ha.2.2 hb.2.2 hi
  have hvg : ¬ ((steps - i) * a0 + i * b0 = (steps - i) * a1 + i * b1 ∧ (steps - i) * a1 + i * b1 = (steps - i) * a2 + i * b2) := by
    intro h
    have e1 : crossI a0 a1 a2 ((steps - i) * a0 + i * b0) ((steps - i) * a1 + i * b1) ((steps - i) * a2 + i * b2) = 0 := by
      refine Classical.byContradiction fun q => ?_
      exact (cross_grey q).2 h
    have e2 : crossI ((steps - i) * a0 + i * b0) ((steps - i) * a1 + i * b1) ((steps - i) * a2 + i * b2) b0 b1 b2 = 0 := by
      refine Classical.byContradiction fun q => ?_
      exact (cross_grey q).1 h
    rw [cross_step_l] at e1
    rw [cross_step_r] at e2
    rcases Int.mul_eq_zero.mp e1 with q | q
    · rcases Int.mul_eq_zero.mp e2 with q2 | q2
      · omega
      · exact hne q2
    · exact hne q
  obtain ⟨n, hn, hn8, k0⟩ := part_K hst r0
  obtain ⟨n', hn', hn8', k1⟩ := part_K hst r1
  obtain ⟨n'', hn'', hn8'', k2⟩ := part_K hst r2
  have inj : ∀ {p q : Nat}, ((2 ^ p : Nat) : Int) = ((2 ^ q : Nat) : Int) → p = q := fun {p q} h => (Nat.pow_right_inj (by decide)).mp (Int.ofNat_inj.mp h)
  obtain rfl : n = n' := inj (by omega)
  obtain rfl : n = n'' := inj (by omega)
  have hv1 : HueOk (partf ((steps - i) * a0 + i * b0) steps) (partf ((steps - i) * a1 + i * b1) steps) (partf ((steps - i) * a2 + i * b2) steps) :=
    hueOk_K k0 k1 k2 hn ⟨r0.1, r1.1, r2.1⟩ ⟨by omega, by omega, by omega⟩ hvg
  refine ⟨hv1, ?_⟩
  obtain ⟨sv, αv, βv, τv, V⟩ := hk_of k0 k1 k2 hn ⟨r0.1, r1.1, r2.1⟩ ⟨by omega, by omega, by omega⟩ hvg
  obtain ⟨sa, αa, βa, τa, KA⟩ := hk_of (d3_K ha.1) (d3_K ha.2.1) (d3_K ha.2.2) (by omega) ⟨ha.1.1, ha.2.1.1, ha.2.2.1⟩ ⟨ha.1.2, ha.2.1.2, ha.2.2.2⟩ hgr.1
  obtain ⟨sb, αb, βb, τb, KB⟩ := hk_of (d3_K hb.1) (d3_K hb.2.1) (d3_K hb.2.2) (by omega) ⟨hb.1.1, hb.2.1.1, hb.2.2.1⟩ ⟨hb.1.2, hb.2.1.2, hb.2.2.2⟩ hgr.2
  obtain ⟨sc, αc, βc, τc, KC⟩ := hk_of (d4_K hc.1) (d4_K hc.2.1) (d4_K hc.2.2) (by omega) ⟨hc.1.1, hc.2.1.1, hc.2.2.1⟩ ⟨hc.1.2, hc.2.1.2, hc.2.2.2⟩ hcn
  have wc1 := gone_cmp hw1 V.hd KC.hd KA.hd (V.same KA) (KC.same KA) (V.same KC)
  have wc2 := gone_cmp hw1 KC.hd V.hd KA.hd (KC.same KA) (V.same KA) (KC.same V)
  have bV := And.intro V.hd.lo V.hd.hi
  have bA := And.intro KA.hd.lo KA.hd.hi
  have bB := And.intro KB.hd.lo KB.hd.hi
  have bC := And.intro KC.hd.lo KC.hd.hi
  have hs1 : SgR (i * (way * crossI a0 a1 a2 b0 b1 b2)) ((way : Rat) * (τv - τa)) := by
    have := (sgR_of KA.dir V.dir KA.frac V.frac bA bV).way hw1
    have e := cross_step_l a0 a1 a2 b0 b1 b2 steps i
    unfold crossI at e
    rw [e] at this
    unfold crossI
    rw [Int.mul_left_comm]
    exact this
  have hs2 : SgR A ((way : Rat) * (τc - τa)) := hA ▸ (sgR_of KA.dir KC.dir KA.frac KC.frac bA bC).way hw1
  have hs3 : SgR (way * crossI a0 a1 a2 b0 b1 b2) ((way : Rat) * (τb - τa)) := (sgR_of KA.dir KB.dir KA.frac KB.frac bA bB).way hw1
  have hs4 : SgR Y ((way : Rat) * (τc - τa) - (way : Rat) * (τv - τa)) := by
    have := (sgR_of V.dir KC.dir V.frac KC.frac bV bC).way hw1
    have e := cross_step a0 a1 a2 b0 b1 b2 c0 c1 c2 steps i
    unfold crossI at e
    rw [e] at this
    have e2 : Y = way * (steps * crossI a0 a1 a2 c0 c1 c2 - i * (crossI a0 a1 a2 c0 c1 c2 + crossI c0 c1 c2 b0 b1 b2)) := by rw [hY, hA, hB]; grind
    have e3 : (way : Rat) * (τc - τa) - (way : Rat) * (τv - τa) = (way : Rat) * (τc - τv) := by grind
    rw [e2, e3]
    exact this
  have hs5 : SgR B ((way : Rat) * (τb - τa) - (way : Rat) * (τc - τa)) := by
    have := (sgR_of KC.dir KB.dir KC.frac KB.frac bC bB).way hw1
    have e3 : (way : Rat) * (τb - τa) - (way : Rat) * (τc - τa) = (way : Rat) * (τb - τc) := by grind
    rw [hB, e3]
    exact this
  have hs6 : SgR ((steps - i) * (way * crossI a0 a1 a2 b0 b1 b2)) ((way : Rat) * (τb - τa) - (way : Rat) * (τv - τa)) := by
    have := (sgR_of V.dir KB.dir V.frac KB.frac bV bB).way hw1
    have e := cross_step_r a0 a1 a2 b0 b1 b2 steps i
    unfold crossI at e
    rw [e] at this
    have e3 : (way : Rat) * (τb - τa) - (way : Rat) * (τv - τa) = (way : Rat) * (τb - τv) := by grind
    unfold crossI
    rw [e3, Int.mul_left_comm]
    exact this
  have hXi : 0 ≤ i * (way * crossI a0 a1 a2 b0 b1 b2) := Int.mul_nonneg hi.1 (Int.le_of_lt hX)
  have hXZ : i * (way * crossI a0 a1 a2 b0 b1 b2) = 0 → 0 < (steps - i) * (way * crossI a0 a1 a2 b0 b1 b2) := by
    intro h
    rcases Int.mul_eq_zero.mp h with q | q
    · exact Int.mul_pos (by omega) hX
    · omega
  have hYp : B < 0 → 0 < A → 0 < Y := by
    intro h1 h2
    have e : Y = (steps - i) * A + i * (-B) := by rw [hY]; grind
    rw [e]
    have p1 : 0 ≤ (steps - i) * A := Int.mul_nonneg (by omega) (by omega)
    have p2 : 0 ≤ i * (-B) := Int.mul_nonneg hi.1 (by omega)
    by_cases q : i = 0
    · have : 0 < (steps - i) * A := Int.mul_pos (by omega) h2
      omega
    · have : 0 < i * (-B) := Int.mul_pos (by omega) (by omega)
      omega
  have C := core hs1 hs2 hs3 hs4 hs5 hs6 hX hXi hXZ hYp
  rw [g6_gg, g6_gg] at wc1 wc2
  have d1 : flt (keyG a0 a1 a2 b0 b1 b2 steps way i) (wishF a0 a1 a2 c0 c1 c2 way) = _ := wc1
  have d2 : flt (wishF a0 a1 a2 c0 c1 c2 way) (keyG a0 a1 a2 b0 b1 b2 steps way i) = _ := wc2
  rw [d1, d2]
  constructor
  · intro h
    have := C.1 h
    exact ⟨decide_eq_true this, decide_eq_false (by grind)⟩
  · intro h1 h2
    have := C.2 h1 h2
    exact ⟨this.1, decide_eq_decide.mpr this.2.1, decide_eq_decide.mpr this.2.2⟩
theorem pure_holds : Pure := by
  intro a0 a1 a2 b0 b1 b2 c0 c1 c2 steps way ha hb hc hst hw hcn
  have hsp : 4 ≤ steps ∧ steps ≤ 16 := by rcases hst with rfl | rfl | rfl <;> omega
  have hw1 : way = 1 ∨ way = -1 := hw.imp (·.1) (·.1)
  have hX : 0 < way * crossI a0 a1 a2 b0 b1 b2 := by rcases hw with ⟨rfl, h⟩ | ⟨rfl, h⟩ <;> omega
  have hne : crossI a0 a1 a2 b0 b1 b2 ≠ 0 := by intro h; rw [h] at hX; omega
  have hgr := cross_grey hne
  have S := fun (i : Int) (hi : 0 ≤ i ∧ i ≤ steps) => step_cmp ha hb hc hst hw hcn hi rfl rfl rfl
  have bnd : way * crossI a0 a1 a2 c0 c1 c2 + way * crossI c0 c1 c2 b0 b1 b2 < 1000000 := by
    unfold Col8 at ha hb
    unfold Col16 at hc
    have m1 := mulb (x := a0 - a2) (y := c1 - c2) (by omega) (by omega)
    have m2 := mulb (x := a1 - a2) (y := c0 - c2) (by omega) (by omega)
    have m3 := mulb (x := b1 - b2) (y := c0 - c2) (by omega) (by omega)
    have m4 := mulb (x := b0 - b2) (y := c1 - c2) (by omega) (by omega)
    unfold crossI
    rw [Int.mul_comm (c0 - c2) (b1 - b2), Int.mul_comm (c1 - c2) (b0 - b2)]
    rcases hw1 with rfl | rfl <;> omega
  have hzz : ¬ Float64.isZero (Float64.mul f8 (Float64.ofInt steps)) = true := by
    rcases hst with rfl | rfl | rfl
    · rw [p4]; decide +kernel
    · rw [p8]; decide +kernel
    · rw [p16]; decide +kernel
  have oA : HueOk (Float64.div (Float64.ofInt a0) f8) (Float64.div (Float64.ofInt a1) f8) (Float64.div (Float64.ofInt a2) f8) :=
    hueOk_K (d3_K ha.1) (d3_K ha.2.1) (d3_K ha.2.2) (by omega) ⟨ha.1.1, ha.2.1.1, ha.2.2.1⟩ ⟨ha.1.2, ha.2.1.2, ha.2.2.2⟩ hgr.1
  have oP : HlsOk (Float64.div (Float64.ofInt c0) f16) (Float64.div (Float64.ofInt c1) f16) (Float64.div (Float64.ofInt c2) f16) :=
    hlsOk_K (d4_K hc.1) (d4_K hc.2.1) (d4_K hc.2.2) ⟨hc.1.1, hc.2.1.1, hc.2.2.1⟩ ⟨hc.1.2, hc.2.1.2, hc.2.2.2⟩ hcn
  have rng : ∀ i, 0 ≤ i → i ≤ steps → ¬ Float64.isInf (Float64.ofInt ((steps - i) * a0 + i * b0)) = true ∧ ¬ Float64.isInf (Float64.ofInt ((steps - i) * a1 + i * b1)) = true ∧ ¬ Float64.isInf (Float64.ofInt ((steps - i) * a2 + i * b2)) = true ∧
      HueOk (partf ((steps - i) * a0 + i * b0) steps) (partf ((steps - i) * a1 + i * b1) steps) (partf ((steps - i) * a2 + i * b2) steps) := by
    intro i h1 h2
    have r0 := part_rng (steps := steps) (i := i) ha.1 hb.1 ⟨h1, h2⟩
    have r1 := part_rng (steps := steps) (i := i) ha.2.1 hb.2.1 ⟨h1, h2⟩
    have r2 := part_rng (steps := steps) (i := i) ha.2.2 hb.2.2 ⟨h1, h2⟩
    exact ⟨not_inf (by omega), not_inf (by omega), not_inf (by omega), (S i ⟨h1, h2⟩).1⟩
  have base : ∀ rl rr : Int, (0 ≤ rl ∧ rl ≤ steps + 1) → (0 ≤ rr ∧ rr ≤ steps + 1) →
      (∀ i, 0 ≤ i → i < steps + 1 → (Float64.cmp (keyG a0 a1 a2 b0 b1 b2 steps way i) (wishF a0 a1 a2 c0 c1 c2 way) == some .lt) = decide (i < rl)) →
      (∀ i, 0 ≤ i → i < steps + 1 → (Float64.cmp (wishF a0 a1 a2 c0 c1 c2 way) (keyG a0 a1 a2 b0 b1 b2 steps way i) == some .lt) = decide (rr ≤ i)) → _ → PassOk a0 a1 a2 b0 b1 b2 c0 c1 c2 steps way rl rr :=
    fun rl rr h1 h2 h3 h4 h5 => ⟨not_inf (by have := ha.1; omega), not_inf (by have := ha.2.1; omega), not_inf (by have := ha.2.2; omega), not_inf (by have := hc.1; omega), not_inf (by have := hc.2.1; omega), not_inf (by have := hc.2.2; omega),
      not_inf (by omega), fin_not_inf (fin_way hw1).1, oA, hzz, rng, oP, h1, h2, h3, h4, bnd, h5⟩
  clear hX hne hgr hzz oA oP rng bnd
  generalize hA : way * crossI a0 a1 a2 c0 c1 c2 = A at *
  generalize hB : way * crossI c0 c1 c2 b0 b1 b2 = B at *
  by_cases hneg : A < 0 ∨ B < 0
  · refine ⟨steps + 1, steps + 1, base _ _ (by omega) (by omega) (fun i h1 h2 => ?_) (fun i h1 h2 => ?_) (.inl ⟨hneg, rfl, rfl⟩)⟩
    · rw [decide_eq_true (by omega)]; exact ((S i ⟨h1, by omega⟩).2.1 hneg).1
    · rw [decide_eq_false (by omega)]; exact ((S i ⟨h1, by omega⟩).2.1 hneg).2
  · have hA0 : 0 ≤ A := by omega
    have hB0 : 0 ≤ B := by omega
    have hW := ((S 0 ⟨by omega, by omega⟩).2.2 hA0 hB0).1
    have hm : steps * A ≤ steps * (A + B) := Int.mul_le_mul_of_nonneg_left (by omega) (by omega)
    have hm0 : 0 ≤ steps * A := Int.mul_nonneg (by omega) hA0
    have hm1 : (steps + 1) * (A + B) = steps * (A + B) + (A + B) := by rw [Int.add_mul, Int.one_mul]
    refine ⟨_, _, base _ _ ?_ ?_ (fun i h1 h2 => ?_) (fun i h1 h2 => ?_) (.inr ⟨hA0, hB0, hW, rfl, rfl⟩)⟩
    · rw [fd hW]
      constructor
      · exact Int.ediv_nonneg (by omega) (by omega)
      · have : (steps * A + (A + B) - 1) / (A + B) < steps + 1 := (Int.ediv_lt_iff_lt_mul hW).mpr (by omega)
        omega
    · rw [fd hW]
      constructor
      · have := Int.ediv_nonneg hm0 (Int.le_of_lt hW); omega
      · have : steps * A / (A + B) < steps + 1 := (Int.ediv_lt_iff_lt_mul hW).mpr (by omega)
        omega
    · have := ((S i ⟨h1, by omega⟩).2.2 hA0 hB0).2.1
      refine Eq.trans this (decide_eq_decide.mpr ?_)
      rw [fd hW]
      have e : i < (steps * A + (A + B) - 1) / (A + B) ↔ (i + 1) * (A + B) ≤ steps * A + (A + B) - 1 := by
        rw [← Int.le_ediv_iff_mul_le hW]; omega
      rw [e, Int.add_mul, Int.one_mul]
      omega
    · have := ((S i ⟨h1, by omega⟩).2.2 hA0 hB0).2.2
      refine Eq.trans this (decide_eq_decide.mpr ?_)
      rw [fd hW]
      have e : steps * A / (A + B) + 1 ≤ i ↔ steps * A < i * (A + B) := by
        rw [← Int.ediv_lt_iff_lt_mul hW]; omega
      rw [e]
      omega
end Mine
end FltJPart
section ColsPart
open PySem PySem.W PyProof.Rows PySem.Spec PySem.Calls PySem.Flt PyProof.Rows.LCg
namespace Mine
section
variable {prog : Program} {w : World} {A : Around} {E : Value → Shared → Prop} {s : Shared} {h₀ : Heap} {L : Addr} {m : Str → Option Value} {env : Env}
def EltC (prog : Program) (w : World) (A : Around) (h₀ : Heap) (L : Addr) (m : Str → Option Value) (env : Env) (elt : Expr) (x : Str) (scope : Scope) (cl : List (Str × Addr)) (P0 : Int → Prop) : Prop :=
  ∀ (num : Int) (t : Tok) (s₂ : Shared) (h : Heap) (tk : Nat) (C : Addr) (oC : Obj) (led : List (Addr × Obj)) (m₂ : Str → Option Value) (Q' E' : Value → Shared → Prop), P0 num → NsObj oC m₂ → m₂ x = some (.int num t) → Fr h₀ L h m → News h₀ L h led → (C, oC) ∈ led →
    (∀ (D : Addr) (r g b : Int) (tr tg tb : Tok) (h' : Heap) (tk' : Nat), Col8 r g b → ¬ (r = g ∧ g = b) → Fr h₀ L h' m → News h₀ L h' ((D, W.listOf #[.int r tr, .int g tg, .int b tb] 0) :: led) → (∀ p ∈ led, p.1 < D) → Q' (.ref D) { s₂ with heap := h', toks := tk' }) →
      wpAny (model prog w) A (eval elt (compEnvC scope cl C env)) Q' E' { s₂ with heap := h, toks := tk }
def Cols (ys : List Value) (cs : List (Addr × Obj)) : Prop :=
  ∀ i : Nat, i < ys.length → ∃ (ad : Addr) (r g b : Int) (tr tg tb : Tok) (k : Nat), ys[i]? = some (.ref ad) ∧ (ad, W.listOf #[.int r tr, .int g tg, .int b tb] k) ∈ cs ∧ Col8 r g b ∧ ¬ (r = g ∧ g = b)
theorem off3_of {I C D : Addr} : ∀ {l : List (Addr × Obj)}, (∀ p ∈ l, p.1 ≠ I ∧ p.1 ≠ C ∧ p.1 ≠ D) → Off3 I C D l
  | [], _ => trivial
  | p :: _, h => ⟨h p (.head _), off3_of fun q hq => h q (.tail _ hq)⟩
theorem compSrc_cols {elt : Expr} {x : Str} {scope : Scope} {cl : List (Str × Addr)} {Fin : Shared → List Value → List (Addr × Obj) → Prop} {ax low : Addr} {vs : List Value} {k : Nat} {news : List (Addr × Obj)} {P0 : Int → Prop}
    (hh : A.handled = none) (F : Fr h₀ L s.heap m) (N : News h₀ L s.heap news) (hm : (ax, W.listOf vs.toArray k) ∈ news) (hsz : vs.length ≤ 100) (hvs : AllI P0 vs) (hlow : ∃ o, (low, o) ∈ news)
    (helt : EltC prog w A h₀ L m env elt x scope cl P0)
    (hfin : ∀ g ys cs, ys.length = vs.length → Cols ys cs → (∀ p ∈ cs, low < p.1) → Fin { s with heap := g } ys (cs ++ news)) :
    CompSrc prog w A h₀ L m env elt x scope cl Fin (.ref ax) s := by
  refine CompSrc.ledger hh F N hm (by rw [List.size_toArray, sizeLine_eq]; omega) fun g => ?_
  refine compRest_inv (n := vs.toArray.size) (fun i ys nx => ∃ cs, nx = cs ++ news ∧ ys.length = i ∧ Cols ys cs ∧ (∀ p ∈ cs, low < p.1)) ?_ ?_ _ 0 [] news (by simp) ⟨[], rfl, rfl, fun i hi => absurd hi (Nat.not_lt_zero _), fun p hp => nomatch hp⟩
  · rintro i ys nx v I oI C oC D m₂ h tk E' hi ⟨cs, rfl, hl, hall, hlo⟩ hP hC hx F' N' off ne
    obtain ⟨num, t, e, hp⟩ := hvs i (by simpa using hi)
    have hv : v = .int num t := by
      have hP' : vs[i]? = some v := by simpa using hP
      rw [e] at hP'; exact (Option.some.inj hP').symm
    subst hv
    refine helt num t _ h tk C oC _ m₂ _ _ hp hC hx F' N' (.tail _ (.head _)) fun Dn r gg b tr tg tb h' tk' hc8 hcn F'' N'' lt => ?_
    have ltI : I < Dn := lt _ (.head _)
    have ltC : C < Dn := lt _ (.tail _ (.head _))
    have ltD : D < Dn := lt _ (.tail _ (.tail _ (.head _)))
    obtain ⟨o, ho⟩ := hlow
    have ltl : low < Dn := lt _ (.tail _ (.tail _ (.tail _ (List.mem_append_right _ ho))))
    refine ⟨h', tk', (Dn, W.listOf #[.int r tr, .int gg tg, .int b tb] 0) :: (cs ++ news), rfl, F'', ?_, ?_, .inr ⟨_, .tail _ (List.mem_append_right _ hm), rfl, _, rfl⟩, (Dn, W.listOf #[.int r tr, .int gg tg, .int b tb] 0) :: cs, rfl, by simp [hl], fun j hj => ?_, fun p hp => ?_⟩
    · intro p hp
      refine N'' p ?_
      rcases List.mem_cons.mp hp with rfl | hp
      · exact .tail _ (.head _)
      rcases List.mem_cons.mp hp with rfl | hp
      · exact .tail _ (.tail _ (.head _))
      rcases List.mem_cons.mp hp with rfl | hp
      · exact .tail _ (.tail _ (.tail _ (.head _)))
      rcases List.mem_cons.mp hp with rfl | hp
      · exact .head _
      · exact .tail _ (.tail _ (.tail _ (.tail _ hp)))
    · exact ⟨⟨Ne.symm (Nat.ne_of_lt ltI), Ne.symm (Nat.ne_of_lt ltC), Ne.symm (Nat.ne_of_lt ltD)⟩, off⟩
    · by_cases hj' : j < ys.length
      · obtain ⟨ad, r', g', b', a1, a2, a3, kk, e1, e2, e3⟩ := hall j hj'
        exact ⟨ad, r', g', b', a1, a2, a3, kk, by rw [List.getElem?_append_left hj']; exact e1, .tail _ e2, e3⟩
      · have : j = ys.length := by simp at hj; omega
        subst this
        exact ⟨Dn, r, gg, b, tr, tg, tb, 0, by simp, .head _, hc8, hcn⟩
    · rcases List.mem_cons.mp hp with rfl | hp
      · exact ltl
      · exact hlo p hp
  · rintro ys nx ⟨cs, rfl, hl, hall, hlo⟩
    exact hfin g ys cs (by simpa using hl) hall hlo
end
end Mine
end ColsPart
section Law2Part
open PySem PySem.W PyProof.Rows PySem.Spec PySem.Calls PySem.Flt PyProof.Rows.LCg
namespace Mine
local macro_rules | `(tactic| k_mem) => `(tactic| assumption)
local macro_rules | `(tactic| walk_at "call ref") => `(tactic| k_extra "mine call")
local macro_rules | `(tactic| walk_at "CompSrc") => `(tactic| k_extra "mine src")
local macro_rules | `(tactic| walk_at "binaryOp Add ref ref") => `(tactic| k_extra "mine add")
local macro_rules | `(tactic| walk_at "subscriptTail Name Slice ref ref") => `(tactic| k_extra "mine slice")
local macro_rules | `(tactic| walk_at "eval ListComp") => `(tactic| (k_here; k_dflt (refine LCg.ListComp_U (F₀ := by k_asm) (by with_unfolding_all rfl) (by decide) (by rfl) (by decide) (by rfl) ?_)))
local macro_rules | `(tactic| walk_at "exec Assign cons ListComp") => `(tactic| (k_here; k_dflt (refine LCg.Assign_ListComp_U (F₀ := by k_asm) (by rfl) (by with_unfolding_all rfl) (by with_unfolding_all rfl) (by decide) (by rfl) (by decide) (by rfl) (by rfl) (by rfl) ?_)))
theorem fm6' (x : Int) : 0 ≤ x.fmod 1000000 ∧ x.fmod 1000000 < 1000000 := (fdiv_fmod_facts x 1000000).2.2.1 (by omega)
theorem span_of (num : Int) : Span (4 * 2 ^ ((num.fdiv 729).fmod 3).toNat) := by
  have h := (fdiv_fmod_facts (num.fdiv 729) 3).2.2.1 (by omega)
  have : (num.fdiv 729).fmod 3 = 0 ∨ (num.fdiv 729).fmod 3 = 1 ∨ (num.fdiv 729).fmod 3 = 2 := by omega
  unfold Span
  rcases this with q | q | q <;> rw [q] <;> decide
theorem off1_mem {D : Addr} : ∀ {l : List (Addr × Obj)}, Off1 D l → ∀ p ∈ l, p.1 ≠ D
  | [], _, p, hp => nomatch hp
  | q :: r, h, p, hp => by
    rcases List.mem_cons.mp hp with rfl | hp
    · exact h.1
    · exact off1_mem h.2 p hp
theorem cols_in {n : Nat} {D3 D4 : Addr} {ys ws : List Value} {cs : List (Addr × Obj)} (hy : ys.length = n) (hw : ws.length = n) (hc : Cols ys cs) (hs : AllI Span ws) : ColsIn n D3 D4 ((D3, lst ys) :: (cs ++ [(D4, lst ws)])) := by
  refine ⟨ys, ws, _, _, .head _, hy, .tail _ (List.mem_append_right _ (.head _)), fun i hi => ?_, fun i hi => ?_⟩
  · obtain ⟨ad, r, g, b, tr, tg, tb, k, e, hm, q⟩ := hc i (by omega)
    exact ⟨ad, r, g, b, tr, tg, tb, k, e, .tail _ (List.mem_append_left _ hm), q⟩
  · obtain ⟨s, t, e, q⟩ := hs i (by omega)
    exact ⟨s, t, e, q⟩
theorem pick_spec : ∀ {l : List Value} {ns : List Int}, IntsAre l ns → ∃ zs, kms_pick l.toArray.toList none (some 2) = zs ∧ zs.length ≤ 2 ∧ AllI (fun _ => True) zs := by
  intro l ns h
  refine ⟨_, rfl, ?_, ?_⟩
  · unfold kms_pick kms_hi kms_lo
    rw [List.length_take]
    have : (2 : Int).toNat = 2 := rfl
    simp only [this]
    rw [if_neg (by omega)]
    omega
  · intro i hi
    unfold kms_pick kms_lo at *
    simp only [List.drop_zero] at *
    have hl : i < l.length := by
      rw [List.length_take] at hi
      have : i < l.toArray.toList.length := Nat.lt_of_lt_of_le hi (Nat.min_le_right _ _)
      simpa using this
    obtain ⟨n, t, h1, _⟩ := ints_at h hl
    refine ⟨n, t, ?_, trivial⟩
    rw [List.getElem?_take, if_pos (by rw [List.length_take] at hi; exact Nat.lt_of_lt_of_le hi (Nat.min_le_left _ _))]
    simpa using h1
section
variable {prog : Program} {w : World} {A : Around} {E : Value → Shared → Prop} {s : Shared} {h₀ : Heap} {L : Addr} {m : Str → Option Value} {Q : Value → Shared → Prop}
theorem cat_spec {ys : List Value} {t1 t2 t3 : Tok} (hl : ys.length ≤ 2) (h : AllI (fun n => 0 ≤ n ∧ n < 1000000) ys) :
    3 ≤ (ys ++ [Value.int 106 t1, Value.int 1333 t2, Value.int 278 t3]).length ∧ (ys ++ [Value.int 106 t1, Value.int 1333 t2, Value.int 278 t3]).length ≤ 5 ∧ AllI (fun n => 0 ≤ n ∧ n < 1000000) (ys ++ [Value.int 106 t1, Value.int 1333 t2, Value.int 278 t3]) := by
  have e : (ys ++ [Value.int 106 t1, Value.int 1333 t2, Value.int 278 t3]).length = ys.length + 3 := by simp
  refine ⟨by omega, by omega, fun i hi => ?_⟩
  by_cases h1 : i < ys.length
  · obtain ⟨n, t, e1, e2⟩ := h i h1
    exact ⟨n, t, by rw [List.getElem?_append_left h1]; exact e1, e2⟩
  · rw [List.getElem?_append_right (by omega)]
    have : i - ys.length = 0 ∨ i - ys.length = 1 ∨ i - ys.length = 2 := by omega
    rcases this with q | q | q <;> rw [q]
    · exact ⟨_, _, rfl, by decide⟩
    · exact ⟨_, _, rfl, by decide⟩
    · exact ⟨_, _, rfl, by decide⟩
theorem add_numbers {a b : Addr} {ys : List Value} {t1 t2 t3 : Tok} {k : Nat} {news : List (Addr × Obj)} (F : Fr h₀ L s.heap m) (N : News h₀ L s.heap news) (ha : (a, lst ys) ∈ news) (hb : (b, W.listOf #[Value.int 106 t1, Value.int 1333 t2, Value.int 278 t3] k) ∈ news) (hl : ys.length ≤ 2) (hy : AllI (fun n => 0 ≤ n ∧ n < 1000000) ys)
    (h : ∀ D h' cs, 3 ≤ cs.length → cs.length ≤ 5 → AllI (fun n => 0 ≤ n ∧ n < 1000000) cs → Fr h₀ L h' m → News h₀ L h' ((D, W.listOf cs.toArray 0) :: news) → (∀ p ∈ news, p.1 < D) → Q (.ref D) { s with heap := h' }) :
    wpAny (model prog w) A (binaryOp .Add (.ref a) (.ref b)) Q E s := by
  have c := cat_spec (t1 := t1) (t2 := t2) (t3 := t3) hl hy
  refine kmk_add_lit (its := ys.toArray) (its2 := #[Value.int 106 t1, Value.int 1333 t2, Value.int 278 t3]) F N ⟨_, (N _ ha).1, rfl, _, rfl⟩ ⟨_, (N _ hb).1, rfl, _, rfl⟩ rfl ?_ ?_
  · intro D h' F' N' l'
    exact h D h' _ c.1 c.2.1 c.2.2 F' N' l'
  · have : ys.toArray.toList.length + (#[Value.int 106 t1, Value.int 1333 t2, Value.int 278 t3] : Array Value).toList.length = ys.length + 3 := by simp
    rw [this, sizeLine_eq]
    omega
end
set_option maxRecDepth 100000 in
set_option maxHeartbeats 2000000 in
theorem law_w : PySem.Challenge.rw_pe0103_01.Holds := by
  have hpure := pure_holds
  refine hd ?_
  w_strict k_go0
  rename IntsAre _ _ => hI
  k_with_none
  k_with "mine call" => (refine Hold.mk ?_)
  k_with "mine src" => (refine Hold.mk ?_)
  k_with "mine add" => (refine Hold.mk ?_)
  k_with "mine slice" => (refine Hold.mk ?_)
  obtain ⟨zs, hzs, hz2, hzI⟩ := pick_spec hI
  k_steps
  refine Hold.out ?_
  refine kms_slice_lit (zs := zs) (by k_asm) (by k_asm) (Fr.lst (by k_asm) (by k_asm)) (by kmk_part) (by kmk_part) hzs ?_ (by with_unfolding_all rfl) (by kmk_pure) (by kmk_size)
  intro D1 h1 F1 N1 l1
  dsimp only
  k_steps
  refine Hold.out ?_
  refine compSrc_pure (P0 := fun _ => True) (PI := fun n => 0 ≤ n ∧ n < 1000000) rfl (by k_asm) (by k_asm) (.head _) (by omega) hzI ?_ ?_
  · intro num t s₂ h tk C oC led m₂ Q' E' _ hC hx F2 N2 hm hq
    k_steps
    exact hq _ _ _ (fm6' num)
  · intro g ys hyl hyI
    k_steps
    refine Hold.out ?_
    refine add_numbers (by k_asm) (by k_asm) (.tail _ (.head _)) (.head _) (by omega) hyI ?_
    intro D2 h2 cs hc3 hc5 hcI F2 N2 l2
    dsimp only
    replace N2 := cb_drop (news := [(D2, W.listOf cs.toArray 0), (67, tabObj #[])]) N2 (fun p hp => by rcases List.mem_cons.mp hp with rfl | hp; exact .head _; rw [List.mem_singleton.mp hp]; exact .tail _ (.tail _ (.tail _ (.tail _ (.head _)))))
    replace l2 : 67 < D2 := l2 _ (.tail _ (.tail _ (.tail _ (.head _))))
    rename_i N8 _
    clear N8
    k_steps
    refine Hold.out ?_
    refine compSrc_pure (P0 := fun n => 0 ≤ n ∧ n < 1000000) (PI := Span) rfl (by k_asm) (by k_asm) (.head _) (by omega) hcI ?_ ?_
    · intro num t s₂ h tk C oC led m₂ Q' E' hn hC hx F2 N2 hm hq
      k_steps
      exact hq _ _ _ (span_of num)
    · intro g ws hwl hwI
      unfold LCg.FinA
      intro D4 h4 tk4 F4 N4 o4
      (try simp only [LCg.Off1, and_true] at o4)
      (try dsimp only)
      k_steps
      refine Hold.out ?_
      refine compSrc_cols (P0 := fun n => 0 ≤ n ∧ n < 1000000) (low := 67) rfl (by k_asm) (by k_asm) (.tail _ (.head _)) (by omega) hcI ⟨_, .tail _ (.tail _ (.head _))⟩ ?_ ?_
      · intro num t s₂ h tk C oC led m₂ Q' E' hn hC hx F2 N2 hm hq
        k_steps
        refine Hold.out ?_
        k_dflt (refine' colour_c hn ?k1 ?k2 ?k3 ?k4 ?k5 ?k6 ?k7 ?k8 ?_; (case k1 => k_asm); (case k2 => k_asm); (case k3 => k_asm); (case k4 => k_asm); (case k5 => k_asm); (case k6 => rfl); (case k7 => ktr_room); (case k8 => ktr_units))
        exact hq
      · intro g2 ys2 cs2 hy2 hcols hlow
        unfold LCg.FinE
        intro D3 h3 tk3 F3 N3 o3
        k_steps
        refine Hold.out ?_
        have c67 : ∀ p ∈ cs2, p.1 ≠ 67 := fun p hp => Ne.symm (Nat.ne_of_lt (hlow p hp))
        have d67 : D3 ≠ 67 := Ne.symm (off1_mem o3 _ (List.mem_append_right _ (.tail _ (.tail _ (.head _)))))
        have e67 : D4 ≠ 67 := Ne.symm o4.2
        k_dflt (refine' fades_c (n := cs.length) (ps := #[]) (rest := (D3, lst ys2) :: (cs2 ++ [(D4, lst ws)])) (cds := []) hpure ⟨hc3, hc5⟩ ?hcol ?k1 ?k2 ?k3 ?k4 ?k5 TabOk.empty (fun _ h => nomatch h) ?k6 ?k7 ?k8 ?k9 ?k10 ?_; (case k1 => k_asm); (case k2 => k_asm); (case k3 => k_asm); (case k6 => k_asm); (case k7 => rfl); (case k8 => k_asm); (case k9 => ktr_room); (case k10 => ktr_units))
        · exact cols_in hy2 hwl hcols hwI
        · intro p hp
          refine N3 p ?_
          rcases List.mem_cons.mp hp with rfl | hp
          · exact .tail _ (List.mem_append_right _ (.tail _ (.tail _ (.head _))))
          rcases List.mem_cons.mp hp with rfl | hp
          · exact .head _
          rcases List.mem_append.mp hp with hp | hp
          · exact .tail _ (List.mem_append_left _ hp)
          · rw [List.mem_singleton.mp hp]
            exact .tail _ (List.mem_append_right _ (.head _))
        · intro p hp
          rcases List.mem_cons.mp hp with rfl | hp
          · exact d67
          rcases List.mem_append.mp hp with hp | hp
          · exact c67 p hp
          · rw [List.mem_singleton.mp hp]
            exact e67
        · intro h' tk' ps' rest' F9 N9 hne9 hsub9
          dsimp only
          k_steps
end Mine
end Law2Part
set_option maxRecDepth 100000 in
set_option maxHeartbeats 8000000 in
theorem PySem.Challenge.cw_pe0103_01_holds : PySem.Challenge.rw_pe0103_01.Holds := by
  exact Mine.law_w
