import PyProof.Rows.All
import Wide.All
import OpenK.AllK
import Wide.FinOn
import Lean
import PySem.Challenge.RW_pe0144_01
open PySem PySem.W PyProof.Rows
set_option Elab.async false
set_option maxRecDepth 100000
set_option maxHeartbeats 0
section
namespace Mine
def seenText : Program := { PySem.Challenge.pw_pe0144_01 with main := { PySem.Challenge.pw_pe0144_01.main with body := [1,2,4,6,7,8,9,10,12,13,14,15,16,17,18].filterMap fun i => PySem.Challenge.pw_pe0144_01.main.body[i]? } }
end Mine
local macro_rules | `(tactic| o_law) => `(tactic| (refine holds_law (by decide +kernel) fun said => ?_))
local macro_rules | `(tactic| k_qdec) => `(tactic| decide +kernel)
local macro_rules | `(tactic| o_head $H) => `(tactic| (refine holds_open (q := Mine.seenText) (loose := []) (Xt := fun s => xlAt Mine.seenText [] s && recOk (RowW.records (OpenRow.toRowW PySem.Challenge.rw_pe0144_01.row)) s) (XP := XL Mine.seenText []) (Yf := Hook.obs $H) (Ya := Hook.val $H) (YP := Hook.says $H) (N := 1614) ?hl (Hook.of $H) (Hook.keeps $H) (fun s e => xl_of s (Bool.and_eq_true_iff.mp e).1) XL.keeps (by rfl) (by rfl) (by rfl) (fun s e => recFacts_of (Bool.and_eq_true_iff.mp e).2) (by first | rfl) (by first | assumption | decide +kernel) (by decide +kernel) ⟨rfl, rfl, rfl, rfl, rfl, by decide +kernel⟩ ?hw ?hc; (case hl => (intro w; kernel_rfl))))
namespace Mine
open_top hd for PySem.Challenge.rw_pe0144_01
end Mine

end
namespace Mine
section

/-! three floats: max, min -/
section
variable {prog : Program} {w : World} {A : Around} {E : Value → Shared → Prop} {s : Shared}

theorem cmpOf_floats_gt {P : Nat → Value → Prop} (val : Nat → UInt64) (hval : ∀ i v, P i v → ∃ t, v = .float (val i) t) :
    CmpOf prog w A .Gt P (fun i j => Float64.cmp (val i) (val j) == some Ordering.gt) := fun i j vi vj s Q E hi hj h => by
  obtain ⟨t, rfl⟩ := hval i vi hi
  obtain ⟨u, rfl⟩ := hval j vj hj
  exact AutoFloatOps.gt_0 h
theorem cmpOf_floats_lt {P : Nat → Value → Prop} (val : Nat → UInt64) (hval : ∀ i v, P i v → ∃ t, v = .float (val i) t) :
    CmpOf prog w A .Lt P (fun i j => Float64.cmp (val i) (val j) == some Ordering.lt) := fun i j vi vj s Q E hi hj h => by
  obtain ⟨t, rfl⟩ := hval i vi hi
  obtain ⟨u, rfl⟩ := hval j vj hj
  exact AutoFloatOps.lt_0 h

noncomputable def fltItems (xs : Array (UInt64 × Tok)) : Array Value := xs.map fun p => .float p.1 p.2
noncomputable def fltAt (xs : Array (UInt64 × Tok)) (i : Nat) : UInt64 := (xs[i]?.map (·.1)).getD 0
theorem fltItems_at {xs : Array (UInt64 × Tok)} {i : Nat} {v : Value} (h : (fltItems xs)[i]? = some v) : ∃ t, v = .float (fltAt xs i) t := by
  simp only [fltItems, Array.getElem?_map, Option.map_eq_some_iff] at h
  obtain ⟨p, hp, rfl⟩ := h
  exact ⟨p.2, by simp [fltAt, hp]⟩

noncomputable def fgt (x y : UInt64) : Bool := Float64.cmp x y == some Ordering.gt
noncomputable def flt (x y : UInt64) : Bool := Float64.cmp x y == some Ordering.lt

theorem max_three_floats {a b c : UInt64} {t u x : Tok} {Q : Value → Shared → Prop} (hh : A.handled = none)
    (h : ∀ h' tk t', (∀ d o, s.heap.get? d = some o → h'.get? d = some o) → Q (.float (bif fgt b a then (bif fgt c b then c else b) else (bif fgt c a then c else a)) t') { s with heap := h', toks := tk }) :
    wpAny (model prog w) A (call (.builtin "max") [.float a t, .float b u, .float c x]) Q E s := by
  have hT : (s.heap.push { cls := .type "tuple", data := .seq #[.float a t, .float b u, .float c x] }).IsTuple s.heap.objs.size (fltItems #[(a, t), (b, u), (c, x)]) := ⟨_, Heap.get?_push_size _ rfl, rfl, 0, by simp [fltItems]⟩
  refine call_max_three (wpAny_pyIter_tuple hT ?_)
  have hsz : (s.heap.push { cls := .type "tuple", data := .seq #[.float a t, .float b u, .float c x] }).objs.size = s.heap.objs.size + 1 := Heap.size_push ..
  refine ⟨_, [_, s.heap.objs.size], [_], _, _, _, _, rfl, Walks.tuple (A := A.in1) hh _ s.heap.objs.size (by rw [hsz]; exact Nat.ne_of_lt (Nat.lt_succ_self _)) (fltItems #[(a, t), (b, u), (c, x)]),
    ⟨⟨_, Heap.get?_push_size _ rfl, rfl, rfl⟩, hT.push _⟩, fun d hd => ?_, by simp [fltItems], cmpOf_floats_gt (fltAt #[(a, t), (b, u), (c, x)]) (fun _ _ => fltItems_at), fun v h' tk hP hk => ?_⟩
  · show d < ((s.heap.push _).push _).objs.size
    rw [Heap.size_push, hsz]
    rcases List.mem_cons.mp hd with rfl | hd
    · rw [hsz]; exact Nat.lt_succ_self _
    · rcases List.mem_cons.mp hd with rfl | hd
      · exact Nat.lt_succ_of_lt (Nat.lt_succ_self _)
      · cases hd
  · have hold : ∀ d o, s.heap.get? d = some o → h'.get? d = some o := fun d o e => by
      refine hk d o (fun hm => ?_) (Heap.get?_push_of_some _ (Heap.get?_push_of_some _ e))
      rcases List.mem_cons.mp hm with e1 | hm
      · have := Heap.lt_size e; rw [e1, hsz] at this; exact Nat.lt_irrefl _ (Nat.lt_of_succ_lt this)
      · cases hm
    have hP' : (fltItems #[(a, t), (b, u), (c, x)])[argBest (fun i j => Float64.cmp (fltAt #[(a, t), (b, u), (c, x)] i) (fltAt #[(a, t), (b, u), (c, x)] j) == some Ordering.gt) 2]? = some v := by
      have hsz2 : (fltItems #[(a, t), (b, u), (c, x)]).size - 1 = 2 := by simp [fltItems]
      rw [← hsz2]; exact hP
    have hv : ∃ t', v = .float (bif fgt b a then (bif fgt c b then c else b) else (bif fgt c a then c else a)) t' := by
      cases hba : fgt b a <;> (cases hcb : fgt c b) <;> (cases hca : fgt c a) <;> (unfold fgt at hba hcb hca) <;> simp [argBest, fltAt, fltItems, hba, hcb, hca] at hP' <;> exact ⟨_, hP'.symm⟩
    obtain ⟨t', rfl⟩ := hv
    exact h h' tk t' hold

theorem min_three_floats {a b c : UInt64} {t u x : Tok} {Q : Value → Shared → Prop} (hh : A.handled = none)
    (h : ∀ h' tk t', (∀ d o, s.heap.get? d = some o → h'.get? d = some o) → Q (.float (bif flt b a then (bif flt c b then c else b) else (bif flt c a then c else a)) t') { s with heap := h', toks := tk }) :
    wpAny (model prog w) A (call (.builtin "min") [.float a t, .float b u, .float c x]) Q E s := by
  have hT : (s.heap.push { cls := .type "tuple", data := .seq #[.float a t, .float b u, .float c x] }).IsTuple s.heap.objs.size (fltItems #[(a, t), (b, u), (c, x)]) := ⟨_, Heap.get?_push_size _ rfl, rfl, 0, by simp [fltItems]⟩
  refine call_min_three (wpAny_pyIter_tuple hT ?_)
  have hsz : (s.heap.push { cls := .type "tuple", data := .seq #[.float a t, .float b u, .float c x] }).objs.size = s.heap.objs.size + 1 := Heap.size_push ..
  refine ⟨_, [_, s.heap.objs.size], [_], _, _, _, _, rfl, Walks.tuple (A := A.in1) hh _ s.heap.objs.size (by rw [hsz]; exact Nat.ne_of_lt (Nat.lt_succ_self _)) (fltItems #[(a, t), (b, u), (c, x)]),
    ⟨⟨_, Heap.get?_push_size _ rfl, rfl, rfl⟩, hT.push _⟩, fun d hd => ?_, by simp [fltItems], cmpOf_floats_lt (fltAt #[(a, t), (b, u), (c, x)]) (fun _ _ => fltItems_at), fun v h' tk hP hk => ?_⟩
  · show d < ((s.heap.push _).push _).objs.size
    rw [Heap.size_push, hsz]
    rcases List.mem_cons.mp hd with rfl | hd
    · rw [hsz]; exact Nat.lt_succ_self _
    · rcases List.mem_cons.mp hd with rfl | hd
      · exact Nat.lt_succ_of_lt (Nat.lt_succ_self _)
      · cases hd
  · have hold : ∀ d o, s.heap.get? d = some o → h'.get? d = some o := fun d o e => by
      refine hk d o (fun hm => ?_) (Heap.get?_push_of_some _ (Heap.get?_push_of_some _ e))
      rcases List.mem_cons.mp hm with e1 | hm
      · have := Heap.lt_size e; rw [e1, hsz] at this; exact Nat.lt_irrefl _ (Nat.lt_of_succ_lt this)
      · cases hm
    have hP' : (fltItems #[(a, t), (b, u), (c, x)])[argBest (fun i j => Float64.cmp (fltAt #[(a, t), (b, u), (c, x)] i) (fltAt #[(a, t), (b, u), (c, x)] j) == some Ordering.lt) 2]? = some v := by
      have hsz2 : (fltItems #[(a, t), (b, u), (c, x)]).size - 1 = 2 := by simp [fltItems]
      rw [← hsz2]; exact hP
    have hv : ∃ t', v = .float (bif flt b a then (bif flt c b then c else b) else (bif flt c a then c else a)) t' := by
      cases hba : flt b a <;> (cases hcb : flt c b) <;> (cases hca : flt c a) <;> (unfold flt at hba hcb hca) <;> simp [argBest, fltAt, fltItems, hba, hcb, hca] at hP' <;> exact ⟨_, hP'.symm⟩
    obtain ⟨t', rfl⟩ := hv
    exact h h' tk t' hold
end
section
variable {prog : Program} {w : World} {A : Around} {E : Value → Shared → Prop} {s : Shared} {h₀ : Heap} {L : Addr} {m : Str → Option Value} {news : List (Addr × Obj)}
noncomputable def max3 (a b c : UInt64) : UInt64 := bif fgt b a then (bif fgt c b then c else b) else (bif fgt c a then c else a)
noncomputable def min3 (a b c : UInt64) : UInt64 := bif flt b a then (bif flt c b then c else b) else (bif flt c a then c else a)
theorem max3_N {a b c : UInt64} {t u x : Tok} {Q : Value → Shared → Prop} (hh : A.handled = none) (F : Fr h₀ L s.heap m) (N : News h₀ L s.heap news)
    (h : ∀ h' tk t', Fr h₀ L h' m → News h₀ L h' news → Q (.float (max3 a b c) t') { s with heap := h', toks := tk }) :
    wpAny (model prog w) A (call (.builtin "max") [.float a t, .float b u, .float c x]) Q E s :=
  max_three_floats hh fun h' tk t' hk => h h' tk t' (F.grownK hk) (N.grown hk)
theorem min3_N {a b c : UInt64} {t u x : Tok} {Q : Value → Shared → Prop} (hh : A.handled = none) (F : Fr h₀ L s.heap m) (N : News h₀ L s.heap news)
    (h : ∀ h' tk t', Fr h₀ L h' m → News h₀ L h' news → Q (.float (min3 a b c) t') { s with heap := h', toks := tk }) :
    wpAny (model prog w) A (call (.builtin "min") [.float a t, .float b u, .float c x]) Q E s :=
  min_three_floats hh fun h' tk t' hk => h h' tk t' (F.grownK hk) (N.grown hk)
end

end
section
theorem fillK1 : PySem.Challenge.rw_pe0144_01 = PySem.Challenge.rw_pe0144_01 ∧ hd.heap_1 = hd.heap_1 := by
  w_top off
  k_fill
  exact ⟨rfl, rfl⟩

noncomputable def hsvOf (r g b : UInt64) : UInt64 × UInt64 × UInt64 :=
  if (Float64.cmp (min3 r g b) (max3 r g b) == some Ordering.eq) = true then (0, 0, max3 r g b) else
  (if (Float64.cmp r (max3 r g b) == some Ordering.eq) = true then
      (Float64.divmod (Float64.div (Float64.sub (Float64.div (Float64.sub (max3 r g b) b) (Float64.sub (max3 r g b) (min3 r g b))) (Float64.div (Float64.sub (max3 r g b) g) (Float64.sub (max3 r g b) (min3 r g b)))) 4618441417868443648) 4607182418800017408).snd
    else if (Float64.cmp g (max3 r g b) == some Ordering.eq) = true then
      (Float64.divmod (Float64.div (Float64.sub (Float64.add 4611686018427387904 (Float64.div (Float64.sub (max3 r g b) r) (Float64.sub (max3 r g b) (min3 r g b)))) (Float64.div (Float64.sub (max3 r g b) b) (Float64.sub (max3 r g b) (min3 r g b)))) 4618441417868443648) 4607182418800017408).snd
    else (Float64.divmod (Float64.div (Float64.sub (Float64.add 4616189618054758400 (Float64.div (Float64.sub (max3 r g b) g) (Float64.sub (max3 r g b) (min3 r g b)))) (Float64.div (Float64.sub (max3 r g b) r) (Float64.sub (max3 r g b) (min3 r g b)))) 4618441417868443648) 4607182418800017408).snd,
   Float64.div (Float64.sub (max3 r g b) (min3 r g b)) (max3 r g b), max3 r g b)

section
variable {prog : Program} {w : World} {p : Program} {loose : List Str} {mean : ExcName → Option Value} {mg mb : Str → Option Value}
  {dp un : Nat} {gd : Option (List Code)} {cn : Str} {cs : Scope} {a : Addr} {ccd : Value} {cl : List (Str × Addr)} {outer : List Env} {A₀ : Around} {base h₀ : Heap} {L : Addr} {m : Str → Option Value} {s : Shared} {Q E : Value → Shared → Prop} {news : List (Addr × Obj)}

theorem rgb_spec {r g b : UInt64} {t1 t2 t3 : Tok}
  (B : Below A₀ base outer h₀) (F : Fr h₀ L s.heap m) (X : (hd.heap_1 w.params).In h₀) (N : News h₀ L s.heap news) (T : Top p loose mean mg mb h₀) (hk : cs.kind = .function)
  (hd' : dp + 1 < recursionLimit) (hu : un + 8 < cLine)
  (z1 : (Float64.cmp (min3 r g b) (max3 r g b) == some Ordering.eq) = false → ¬ Float64.isZero (max3 r g b) = true)
  (z2 : (Float64.cmp (min3 r g b) (max3 r g b) == some Ordering.eq) = false → ¬ Float64.isZero (Float64.sub (max3 r g b) (min3 r g b)) = true)
  (hret : ∀ H S V D u1 u2 u3 n h' tk', (H, S, V) = hsvOf r g b → (∀ q ∈ news, q.1 < D) → Fr h₀ L h' m → News h₀ L h' ((D, { cls := .type "tuple", data := .seq #[.float H u1, .float S u2, .float V u3] n }) :: news) → Q (.ref D) {s with heap := h', toks := tk'}) :
  wpAny (model prog w) (ktrTop dp un gd cn cs L a ccd cl outer) (call (.ref 21) [.float r t1, .float g t2, .float b t3]) Q E s := by
  refine wpAny_call ?_
  k_dflt cell_enter
  repeat' (first | (k_unfold; (try dsimp only)) | (k_end; wrow_close) | (with_reducible ((with_reducible show wpAny _ _ (call (Value.builtin "min") [Value.float _ _, Value.float _ _, Value.float _ _]) _ _ _); (with_unfolding_all refine' min3_N ?k0zq2 ?k1zq2 ?k2zq2 ?_; (case k0zq2 => rfl); (case k1zq2 => k_asm); (case k2zq2 => k_asm); intro hzq' tkzq' tzq' Fzq' Nzq'; (try dsimp only); (try k_fold)))) | (with_reducible ((with_reducible show wpAny _ _ (call (Value.builtin "max") [Value.float _ _, Value.float _ _, Value.float _ _]) _ _ _); (with_unfolding_all refine' max3_N ?k0zq1 ?k1zq1 ?k2zq1 ?_; (case k0zq1 => rfl); (case k1zq1 => k_asm); (case k2zq1 => k_asm); intro hzq' tkzq' tzq' Fzq' Nzq'; (try dsimp only); (try k_fold)))) | walk1 | (dsimp only; walk1) | (leave1; walk_say "STEP leave1"; try dsimp only) | fail "no step")
  all_goals first
    | exact absurd (by assumption) (z1 (by assumption))
    | exact absurd (by assumption) (z2 (by assumption))
    | (refine hret _ _ _ _ _ _ _ _ _ _ ?_ (by assumption) (by assumption) (by assumption); simp only [hsvOf, *, if_true, if_false, Bool.false_eq_true])

/-- hsv_to_rgb -/
theorem fmod6 (n : Int) (h0 : n.fmod 6 ≠ 0) (h1 : n.fmod 6 ≠ 1) (h2 : n.fmod 6 ≠ 2) (h3 : n.fmod 6 ≠ 3) (h4 : n.fmod 6 ≠ 4) (h5 : n.fmod 6 ≠ 5) : False := by
  have a1 := Int.fmod_nonneg_of_pos n (by decide : (0 : Int) < 6)
  have a2 := Int.fmod_lt_of_pos n (by decide : (0 : Int) < 6)
  omega
noncomputable def rgbOf (x y z : UInt64) : UInt64 × UInt64 × UInt64 :=
  let m6 := Float64.mul x 4618441417868443648
  let I := Flt.toInt Float64.truncOf m6
  let f := Float64.sub m6 (Float64.ofInt I)
  let P := Float64.mul z (Float64.sub 4607182418800017408 y)
  let q := Float64.mul z (Float64.sub 4607182418800017408 (Float64.mul y f))
  let t := Float64.mul z (Float64.sub 4607182418800017408 (Float64.mul y (Float64.sub 4607182418800017408 f)))
  if (Float64.cmp y 0 == some Ordering.eq) = true then (z, z, z) else
  if I.fmod 6 = 0 then (z, t, P) else if I.fmod 6 = 1 then (q, z, P) else if I.fmod 6 = 2 then (P, z, t) else
  if I.fmod 6 = 3 then (P, q, z) else if I.fmod 6 = 4 then (t, P, z) else (z, P, q)

theorem hsv_spec {x y z : UInt64} {t1 t2 t3 : Tok}
  (B : Below A₀ base outer h₀) (F : Fr h₀ L s.heap m) (X : (hd.heap_1 w.params).In h₀) (N : News h₀ L s.heap news) (T : Top p loose mean mg mb h₀) (hk : cs.kind = .function)
  (hd' : dp + 1 < recursionLimit) (hu : un + 8 < cLine)
  (z1 : (Float64.cmp y 0 == some Ordering.eq) = false → ¬ Float64.isNaN (Float64.mul x 4618441417868443648) = true)
  (z2 : (Float64.cmp y 0 == some Ordering.eq) = false → ¬ Float64.isInf (Float64.mul x 4618441417868443648) = true)
  (z3 : (Float64.cmp y 0 == some Ordering.eq) = false → ¬ 2 ^ 1024 - 2 ^ 970 ≤ (Flt.toInt Float64.truncOf (Float64.mul x 4618441417868443648)).natAbs)
  (hret : ∀ H S V D u1 u2 u3 n h' tk', (H, S, V) = rgbOf x y z → (∀ q ∈ news, q.1 < D) → Fr h₀ L h' m → News h₀ L h' ((D, { cls := .type "tuple", data := .seq #[.float H u1, .float S u2, .float V u3] n }) :: news) → Q (.ref D) {s with heap := h', toks := tk'}) :
  wpAny (model prog w) (ktrTop dp un gd cn cs L a ccd cl outer) (call (.ref 28) [.float x t1, .float y t2, .float z t3]) Q E s := by
  refine wpAny_call ?_
  k_dflt cell_enter
  repeat' (first | (k_unfold; (try dsimp only)) | (k_end; wrow_close) | (with_reducible ((with_reducible show wpAny _ _ (call (Value.builtin "min") [Value.float _ _, Value.float _ _, Value.float _ _]) _ _ _); (with_unfolding_all refine' min3_N ?k0zq2 ?k1zq2 ?k2zq2 ?_; (case k0zq2 => rfl); (case k1zq2 => k_asm); (case k2zq2 => k_asm); intro hzq' tkzq' tzq' Fzq' Nzq'; (try dsimp only); (try k_fold)))) | (with_reducible ((with_reducible show wpAny _ _ (call (Value.builtin "max") [Value.float _ _, Value.float _ _, Value.float _ _]) _ _ _); (with_unfolding_all refine' max3_N ?k0zq1 ?k1zq1 ?k2zq1 ?_; (case k0zq1 => rfl); (case k1zq1 => k_asm); (case k2zq1 => k_asm); intro hzq' tkzq' tzq' Fzq' Nzq'; (try dsimp only); (try k_fold)))) | walk1 | (dsimp only; walk1) | (leave1; walk_say "STEP leave1"; try dsimp only) | fail "no step")
  all_goals first
    | exact absurd (by assumption) (z1 (by assumption))
    | exact absurd (by assumption) (z2 (by assumption))
    | exact absurd (by assumption) (z3 (by assumption))
    | exact (fmod6 _ (by assumption) (by assumption) (by assumption) (by assumption) (by assumption) (by assumption)).elim
    | (refine hret _ _ _ _ _ _ _ _ _ _ ?_ (by assumption) (by assumption) (by assumption); simp only [rgbOf, *, if_true, if_false, Bool.false_eq_true]; done)
    | (refine hret _ _ _ _ _ _ _ _ _ _ ?_ (by assumption) (by assumption) (by assumption); simp [rgbOf, *]; done)
end

end
section
theorem fillK2 : PySem.Challenge.rw_pe0144_01 = PySem.Challenge.rw_pe0144_01 ∧ hd.heap_1 = hd.heap_1 := by
  w_top off
  k_fill
  exact ⟨rfl, rfl⟩
noncomputable def wayI (x y : Int) : Int :=
  if x = 12 ∧ y = 12 then 0 else if x = 12 ∨ y = 12 then 2 + (if y < x then y else x).fmod 2 else
  if (if (y - x).fmod 12 < (x - y).fmod 12 then (y - x).fmod 12 else (x - y).fmod 12) = 6 ∧ x.fmod 2 = 0 then 4
  else (if (y - x).fmod 12 < (x - y).fmod 12 then (y - x).fmod 12 else (x - y).fmod 12)
noncomputable def placeF (x y : UInt64) : Int :=
  if (Float64.cmp y 0 == some Ordering.eq) = true then 12 else
  2 * Flt.toInt Float64.truncOf (Float64.mul 4618441417868443648 x) +
    (if (Float64.cmpInt (Float64.mul 4618441417868443648 x) (Flt.toInt Float64.truncOf (Float64.mul 4618441417868443648 x)) == some Ordering.eq) = true then 0 else 1)
noncomputable def spellS (x : Str) (y : Int) : Str :=
  if y = 0 then x ++ Str.ofString " " else if y = 1 then Str.ofString "\"" ++ x ++ Str.ofString "\"" else Str.ofString "\\" ++ x ++ Str.ofString "\n"
noncomputable def substI (x y : Str) : Int := if (x == y) = true then 0 else if (Txt.lower x == Txt.lower y) = true then 1 else 2
section
variable {prog : Program} {w : World} {p : Program} {loose : List Str} {mean : ExcName → Option Value} {mg mb : Str → Option Value}
  {dp un : Nat} {gd : Option (List Code)} {cn : Str} {cs : Scope} {a : Addr} {ccd : Value} {cl : List (Str × Addr)} {outer : List Env} {A₀ : Around} {base h₀ : Heap} {L : Addr} {m : Str → Option Value} {s : Shared} {Q E : Value → Shared → Prop} {news : List (Addr × Obj)}

theorem way_spec {x y : Int} {t1 t2 : Tok}
  (B : Below A₀ base outer h₀) (F : Fr h₀ L s.heap m) (X : (hd.heap_1 w.params).In h₀) (N : News h₀ L s.heap news) (T : Top p loose mean mg mb h₀) (hk : cs.kind = .function)
  (hd' : dp + 1 < recursionLimit) (hu : un + 8 < cLine)
  (hret : ∀ t h' tk', Fr h₀ L h' m → News h₀ L h' news → Q (.int (wayI x y) t) {s with heap := h', toks := tk'}) :
  wpAny (model prog w) (ktrTop dp un gd cn cs L a ccd cl outer) (call (.ref 124) [.int x t1, .int y t2]) Q E s := by
  refine wpAny_call ?_
  k_dflt cell_enter
  k_steps
  all_goals (refine cb_retI hret ?_ (by assumption) (by assumption))
  all_goals first | (unfold wayI; simp only [*, if_true, if_false, and_true, true_and, and_false, false_and, and_self, or_true, true_or, or_false, false_or, or_self, not_true, not_false_eq_true, reduceCtorEq]; done) | skip
  all_goals (unfold wayI; (repeat' split) <;> first | rfl | omega)
theorem place_spec {x y : UInt64} {t1 t2 : Tok}
  (B : Below A₀ base outer h₀) (F : Fr h₀ L s.heap m) (X : (hd.heap_1 w.params).In h₀) (N : News h₀ L s.heap news) (T : Top p loose mean mg mb h₀) (hk : cs.kind = .function)
  (hd' : dp + 1 < recursionLimit) (hu : un + 8 < cLine)
  (z1 : (Float64.cmp y 0 == some Ordering.eq) = false → ¬ Float64.isNaN (Float64.mul 4618441417868443648 x) = true)
  (z2 : (Float64.cmp y 0 == some Ordering.eq) = false → ¬ Float64.isInf (Float64.mul 4618441417868443648 x) = true)
  (hret : ∀ t h' tk', Fr h₀ L h' m → News h₀ L h' news → Q (.int (placeF x y) t) {s with heap := h', toks := tk'}) :
  wpAny (model prog w) (ktrTop dp un gd cn cs L a ccd cl outer) (call (.ref 117) [.float x t1, .float y t2]) Q E s := by
  refine wpAny_call ?_
  k_dflt cell_enter
  k_steps
  all_goals first
    | exact absurd (by assumption) (z1 (by assumption))
    | exact absurd (by assumption) (z2 (by assumption))
    | (refine cb_retI hret ?_ (by assumption) (by assumption); simp only [placeF, *, if_true, if_false, Bool.false_eq_true]; done)
theorem spelled_spec {x : Str} {y : Int} {t1 t2 : Tok}
  (B : Below A₀ base outer h₀) (F : Fr h₀ L s.heap m) (X : (hd.heap_1 w.params).In h₀) (N : News h₀ L s.heap news) (T : Top p loose mean mg mb h₀) (hk : cs.kind = .function)
  (hd' : dp + 1 < recursionLimit) (hu : un + 8 < cLine) (hx : x.length ≤ 10)
  (hret : ∀ t h' tk', Fr h₀ L h' m → News h₀ L h' news → Q (.str (spellS x y) t) {s with heap := h', toks := tk'}) :
  wpAny (model prog w) (ktrTop dp un gd cn cs L a ccd cl outer) (call (.ref 98) [.str x t1, .int y t2]) Q E s := by
  refine wpAny_call ?_
  k_dflt cell_enter
  k_steps
  all_goals (refine cb_retS hret ?_ (by assumption) (by assumption); simp only [spellS]; (repeat' split) <;> first | rfl | omega | (exfalso; omega))
theorem subst_spec {x y : Str} {t1 t2 : Tok}
  (B : Below A₀ base outer h₀) (F : Fr h₀ L s.heap m) (X : (hd.heap_1 w.params).In h₀) (N : News h₀ L s.heap news) (T : Top p loose mean mg mb h₀) (hk : cs.kind = .function)
  (hd' : dp + 1 < recursionLimit) (hu : un + 8 < cLine) (hx : x.length ≤ 10)(hy : y.length ≤ 10)
  (hret : ∀ t h' tk', Fr h₀ L h' m → News h₀ L h' news → Q (.int (substI x y) t) {s with heap := h', toks := tk'}) :
  wpAny (model prog w) (ktrTop dp un gd cn cs L a ccd cl outer) (call (.ref 77) [.str x t1, .str y t2]) Q E s := by
  refine wpAny_call ?_
  k_dflt cell_enter
  k_steps
  all_goals (refine cb_retI hret ?_ (by assumption) (by assumption); simp only [substI]; (repeat' split) <;> first | rfl | (exfalso; simp_all only [Bool.false_eq_true, Bool.true_eq_false]))
end

end
section
open PySem.Builtin PySem.Builtin.ObjectAttr

theorem fn_mro : mroOf (.type "function") = pure [.type "function", .type "object"] := by rw [mroOf_type]; kernel_rfl
theorem fn_read : typeLookup (.type "function") "read" = pure none := by rw [typeLookup_type, builtinLookup_eq_fast]; kernel_rfl
theorem fn_store : StoreFacts "function" [.type "function", .type "object"] "object.__setattr__" "object" where
  mro := fn_mro
  slot := .of (owner := "object") (n := "__setattr__") (by rw [typeLookup_type, builtinLookup_eq_fast]; kernel_rfl) (by decide +kernel) (by decide +kernel) (by decide +kernel)
    (by first | exact .inl (by decide +kernel) | exact .inr (by decide +kernel)) (by rw [isSubtype_type]; kernel_rfl)
  entry := F.entry_object_sa
  kind := by decide +kernel
  split := by decide +kernel
  hasOwner := by decide +kernel
  args := fun a b c => by unfold argsOk; kernel_rfl
  passes := fun self => by kernel_rfl
theorem fn_get : Slot "function" "__getattribute__" "object.__getattribute__" :=
  .of (owner := "object") (n := "__getattribute__") (by rw [typeLookup_type, builtinLookup_eq_fast]; kernel_rfl) (by decide +kernel) (by decide +kernel) (by decide +kernel)
    (by first | exact .inl (by decide +kernel) | exact .inr (by decide +kernel)) (by rw [isSubtype_type]; kernel_rfl)
theorem fn_getattr : typeLookup (.type "function") "__getattr__" = pure none := by rw [typeLookup_type, builtinLookup_eq_fast]; kernel_rfl
theorem fn_hasDict : typeHasDict (.type "function") = true := by decide +kernel
theorem fn_fin : finalisedInACycleAlone "function" = false := by decide +kernel

section
variable {prog : Program} {w : World} {A : Around} {E : Value → Shared → Prop} {s : Shared}

theorem fn_setattr {f : Addr} {o : Obj} {name : Str} {v : Value} {Q : Unit → Shared → Prop} (ho : s.heap.get? f = some o) (hc : o.cls = .type "function") (hd : o.dict = none) {fd : FuncData} (hcl : o.data = .func fd)
    (hl : typeLookup (.type "function") name = pure none)
    (h : ∀ h' tk e, h'.get? f = some { o with dict := some s.heap.objs.size } → h'.get? s.heap.objs.size = some { cls := .type "dict", data := .dict #[⟨e, .str name (s.toks + 1), v⟩] 1 } →
      (∀ b ob, b ≠ f → s.heap.get? b = some ob → h'.get? b = some ob) → Q () { s with heap := h', toks := tk }) :
    wpAny (model prog w) A (setAttr (.ref f) name v) Q E s := by
  have SF := fn_store
  have hT : ∀ s' : Shared, s'.heap = s.heap → s'.TypeIs (.ref f) "function" := fun s' e => ⟨o, by rw [e]; exact ho, hc⟩
  unfold setAttr
  refine wpAny_bind (wpAny_mkText (wpAny_bind (wpAny_callSpecial?_slot (hT _ rfl) SF.slot (wpAny_call_entry SF.slot (hT _ rfl) SF.entry ?_ (SF.args _ _ _)))))
  rw [W.osa_eq, refuse_eq]
  refine wpAny_bind (wpAny_bind (wpAny_typeOf (hT _ rfl) (wpAny_bind (wpAny_of_eq fn_mro (wpAny_of_eq (SF.passes _) ?_)))))
  refine wpAny_bind (wpAny_typeOf (hT _ rfl) (wpAny_bind (wpAny_of_eq hl (wpAny_bind (wpAny_pure ?_)))))
  show wpAny _ _ (storeInOwnDict (.ref f) (.type "function") (.str name s.toks) name v false) _ _ _
  unfold storeInOwnDict
  refine wpAny_bind (wpAny_of_eq (show ownStreamTells (.ref f) (.type "function") = pure () from by kernel_rfl) ?_)
  rw [if_neg (by decide)]
  refine wpAny_bind ?_
  show wpAny _ _ (instanceDict f true) _ _ _
  unfold instanceDict
  refine wpAny_bind (wpAny_loadPart ho ?_)
  rw [hc, hd]
  simp only [fn_hasDict, Bool.not_true, Bool.or_false, Bool.false_eq_true, if_false]
  have hfs : f ≠ s.heap.objs.size := Nat.ne_of_lt (Heap.lt_size ho)
  have ho₁ : (s.heap.push { cls := .type "dict", data := .dict #[] }).get? f = some o := Heap.get?_push_of_some _ ho
  have hfr : ∀ d, ({ o with dict := d } : Obj).isFreed = false := fun d => by
    have hfr := (Heap.get?_some_iff.mp ho).2
    obtain ⟨oc, od, odt, osl⟩ := o
    cases odt <;> first | rfl | exact hfr
  rw [hcl]
  refine wpAny_bind (wpAny_alloc (wpAny_bind (wpAny_update ho₁ ?_)))
  refine wpAny_of_eq (show dictMade (.type "function") f s.heap.objs.size = pure (some s.heap.objs.size) from by unfold dictMade; simp only [fn_fin]; rfl) ?_
  show wpAny _ _ (storeInDict s.heap.objs.size (.str name s.toks) name v) _ _ _
  unfold storeInDict newKeyGuard nsSet
  have hgd : ((s.heap.push { cls := .type "dict", data := .dict #[] }).update f fun o => { cls := o.cls, dict := some s.heap.objs.size, data := o.data, slots := o.slots }).get? s.heap.objs.size
      = some { cls := .type "dict", data := .dict #[] } := (Heap.get?_update_ne _ _ _ _ hfs.symm).trans (Heap.get?_push_at rfl rfl)
  have hgf : ((s.heap.push { cls := .type "dict", data := .dict #[] }).update f fun o => { cls := o.cls, dict := some s.heap.objs.size, data := o.data, slots := o.slots }).get? f
      = some { o with dict := some s.heap.objs.size } := Heap.get?_update_self _ ho₁ (hfr _)
  refine wpAny_bind (wpAny_pure (wpAny_bind (wpAny_bind (wpAny_bind (wpAny_askSetting (wpAny_pure (wpAny_bind (wpAny_mkText (wpAny_bind (wpAny_loadPart hgd ?_))))))))))
  show wpAny _ _ (if aRefKeyMayBeTheName name #[] = true then _ else _) _ _ _
  rw [if_neg (by rw [aRefKeyMayBeTheName_eq]; simp [aRefKeyMayBeTheNameByArray])]
  refine wpAny_updatePart hgd ?_
  generalize hH : (if name.cps.isEmpty = true then (0 : Int) else reduceHash ((Setting.mk (model prog w).prog (model prog w).w.params).params.strHash name.cps)) = H
  have hput : Obj.putName name H (.str name (s.toks + 1)) v { cls := .type "dict", data := .dict #[] } = { cls := .type "dict", data := .dict #[⟨H, .str name (s.toks + 1), v⟩] 1 } := W.putName_dict name H (.str name (s.toks + 1)) v [] 0
  have hgd₂ : (((s.heap.push { cls := .type "dict", data := .dict #[] }).update f fun o => { cls := o.cls, dict := some s.heap.objs.size, data := o.data, slots := o.slots }).update s.heap.objs.size (Obj.putName name H (.str name (s.toks + 1)) v)).get? s.heap.objs.size
      = some { cls := .type "dict", data := .dict #[⟨H, .str name (s.toks + 1), v⟩] 1 } := by
    rw [← hput]; exact Heap.get?_update_self _ hgd (by rw [hput]; rfl)
  refine wpAny_bind (wpAny_lookBehind hgd₂ (pastItsLine_dict (by simp [sizeLine_eq])) ?_)
  refine wpAny_pure ⟨_, rfl, wpAny_pure (h _ _ H ((Heap.get?_update_ne _ _ _ _ hfs).trans hgf) hgd₂ fun b ob hb e => ?_)⟩
  exact (Heap.get?_update_ne _ _ _ _ (Nat.ne_of_lt (Heap.lt_size e))).trans ((Heap.get?_update_ne _ _ _ _ hb).trans (Heap.get?_push_of_some _ e))
end
theorem ne_of_allLt {f : Addr} : ∀ {r : List (Addr × Obj)}, AllLt f r → ∀ p ∈ r, p.1 ≠ f
  | [], _, _, hp => nomatch hp
  | q :: r, h, p, hp => by
    rcases List.mem_cons.mp hp with rfl | hp
    · exact Nat.ne_of_lt h.1
    · exact ne_of_allLt h.2 p hp
section
variable {prog : Program} {w : World} {A : Around} {E : Value → Shared → Prop} {s : Shared} {h₀ : Heap} {L : Addr} {m : Str → Option Value} {r : List (Addr × Obj)}
theorem fn_setattrN {f : Addr} {os : Array (Option Value)} {fd : FuncData} {name : Str} {v : Value} {Q : Unit → Shared → Prop} (F : Fr h₀ L s.heap m) (N : News h₀ L s.heap ((f, ⟨.type "function", none, .func fd, os⟩) :: r))
    (hr : ∀ p ∈ r, p.1 ≠ f) (hl : typeLookup (.type "function") name = pure none)
    (h : ∀ D h' tk e t, (∀ p ∈ (f, (⟨.type "function", none, .func fd, os⟩ : Obj)) :: r, p.1 < D) → Fr h₀ L h' m → News h₀ L h' ((D, dictOf [⟨e, .str name t, v⟩] 1) :: (f, ⟨.type "function", some D, .func fd, os⟩) :: r) → Q () { s with heap := h', toks := tk }) :
    wpAny (model prog w) A (setAttr (.ref f) name v) Q E s := by
  have hf := N _ (.head _)
  refine fn_setattr hf.1 rfl rfl rfl hl fun h' tk e a1 a2 a3 => ?_
  have hLf : L ≠ f := fun z => hf.2.1 z.symm
  obtain ⟨oL, es, ep, hL, hLd⟩ := F.ns
  refine h s.heap.objs.size h' tk e (s.toks + 1) (fun p hp => Heap.lt_size (N p hp).1) ⟨⟨oL, es, ep, a3 _ _ hLf hL, hLd⟩, fun b o e => a3 b o (fun z => by have := hf.2.2; rw [← z, e] at this; cases this) (F.keep b o e), F.above⟩ fun p hp => ?_
  rcases List.mem_cons.mp hp with rfl | hp
  · refine ⟨a2, Nat.ne_of_gt (Heap.lt_size hL), ?_⟩
    cases q : h₀.get? s.heap.objs.size with
    | none => rfl
    | some o => exact absurd (Heap.lt_size (F.keep _ _ q)) (Nat.lt_irrefl _)
  rcases List.mem_cons.mp hp with rfl | hp
  · exact ⟨a1, hf.2⟩
  · have := N p (.tail _ hp)
    exact ⟨a3 _ _ (hr p hp) this.1, this.2⟩
end
section
variable {prog : Program} {w : World} {A : Around} {E : Value → Shared → Prop} {s : Shared}
theorem fn_getEntry : entryFor table "object.__getattribute__" = some Builtin.«object.__getattribute__» := entryFor_of_tree (by kernel_rfl)
theorem fn_getArgs (a b : Value) : argsOk "object.__getattribute__" ⟨[a, b], []⟩ := by unfold argsOk; kernel_rfl
theorem fn_find {f d : Addr} {fd : FuncData} {os : Array (Option Value)} {es : List DictEntry} {n : Nat} {v : Value} {name : Str} {Q : Found → Shared → Prop}
    (hf : s.heap.get? f = some ⟨.type "function", some d, .func fd, os⟩) (hd : s.heap.get? d = some (dictOf es n)) (hl : typeLookup (.type "function") name = pure none)
    (hg : nsFind es.toArray name = some v) (hk : StrKeys es.toArray) (h : Q (.value v) s) : wpAny (model prog w) A (find (.ref f) (.type "function") name) Q E s := by
  unfold find
  refine wpAny_bind (wpAny_of_eq hl (wpAny_bind (wpAny_pure (wpAny_bind (wpAny_pure ?_)))))
  show wpAny _ _ (ownThenClass (.ref f) name none none) _ _ _
  unfold ownThenClass
  refine wpAny_bind ?_
  show wpAny _ _ (ObjectAttr.ownDict f >>= inDict name) _ _ _
  refine wpAny_bind ?_
  unfold ObjectAttr.ownDict
  refine wpAny_bind (m := loadHead f) (wpAny_loadPart hf ?_)
  show wpAny _ _ (instanceDict f false) _ _ _
  unfold instanceDict
  refine wpAny_bind (wpAny_loadPart hf ?_)
  refine wpAny_pure ?_
  show wpAny _ _ (nsGet d name) _ _ _
  have hns : s.heap.Ns d (fun y => nsFind es.toArray y) := ⟨_, _, _, hd, rfl, hk, fun _ => rfl⟩
  intro Γ p hΓ
  rw [Sem.wp_nsGet _ _ _ _ _ hns]
  rw [hg]
  have H : wpAny (model prog w) A (rule "getattr.instance-dict" >>= fun _ => pure (Found.value v)) Q E s := wpAny_bind (wpAny_rule (wpAny_pure h))
  exact H
theorem fn_getAttr {f d : Addr} {fd : FuncData} {os : Array (Option Value)} {es : List DictEntry} {n : Nat} {v : Addr} {name : Str} {ex : Bool} {Q : Value → Shared → Prop}
    (hf : s.heap.get? f = some ⟨.type "function", some d, .func fd, os⟩) (hd : s.heap.get? d = some (dictOf es n)) (hl : typeLookup (.type "function") name = pure none)
    (hg : nsFind es.toArray name = some (.ref v)) (hk : StrKeys es.toArray) (h : Q (.ref v) { s with toks := s.toks + 1 }) : wpAny (model prog w) A (getAttr (.ref f) name ex) Q E s := by
  have hT : ({ s with toks := s.toks + 1 } : Shared).TypeIs (.ref f) "function" := ⟨_, hf, rfl⟩
  unfold getAttr
  refine wpAny_bind (wpAny_mkText ?_)
  unfold getAttrBy
  refine wpAny_holding (wpAny_bind (wpAny_typeOf hT (wpAny_bind (wpAny_of_eq fn_get.lookup ?_))))
  dsimp only
  rw [if_neg (by decide)]
  unfold getAttrByItsOwn
  refine wpAny_bind (wpAny_pure (wpAny_bind (wpAny_attempt (wpAny_holding ?_))))
  unfold callGetattribute
  rw [if_neg (by cases ex <;> decide)]
  unfold boundAndCalled
  refine wpAny_bind (wpAny_of_eq (fn_get.bind (.ref f)) ?_)
  refine wpAny_call_entry fn_get hT fn_getEntry ?_ (fn_getArgs _ _)
  unfold Builtin.«object.__getattribute__»
  refine wpAny_bind (wpAny_of_eq (show slotArgs "__getattribute__" 1 ⟨[.ref f, .str name s.toks], []⟩ = pure (.ref f, [.str name s.toks]) from by kernel_rfl) ?_)
  refine wpAny_bind (wpAny_of_eq (show attrName (.str name s.toks) = pure name from rfl) ?_)
  refine wpAny_bind (wpAny_typeOf hT (wpAny_bind (fn_find hf hd hl hg hk ?_)))
  exact wpAny_pure ⟨_, rfl, wpAny_pure h⟩
theorem fn_method {f d : Addr} {fd : FuncData} {os : Array (Option Value)} {es : List DictEntry} {n : Nat} {v : Addr} {name : Str} {pl : Sem Bool} {Q : Value × List Value → Shared → Prop}
    (hf : s.heap.get? f = some ⟨.type "function", some d, .func fd, os⟩) (hd : s.heap.get? d = some (dictOf es n)) (hl : typeLookup (.type "function") name = pure none)
    (hg : nsFind es.toArray name = some (.ref v)) (hk : StrKeys es.toArray) (h : Q (.ref v, []) { s with toks := s.toks + 1 }) : wpAny (model prog w) A (getMethod (.ref f) name pl) Q E s := by
  have hT : s.TypeIs (.ref f) "function" := ⟨_, hf, rfl⟩
  unfold getMethod specialOf
  refine wpAny_bind (wpAny_bind (wpAny_typeOf hT (wpAny_of_eq fn_get.lookup ?_)))
  dsimp only
  rw [if_neg (by decide +kernel)]
  refine wpAny_bind (wpAny_bind (wpAny_typeOf hT (wpAny_of_eq fn_getattr ?_)))
  rw [if_neg (by decide)]
  refine wpAny_bind (wpAny_bind (wpAny_typeOf hT (wpAny_of_eq hl ?_)))
  exact wpAny_bind (fn_getAttr hf hd hl hg hk (wpAny_pure h))
end

end
local macro_rules | `(tactic| k_all) => `(tactic| assumption)
section
theorem fillL1 : PySem.Challenge.rw_pe0144_01 = PySem.Challenge.rw_pe0144_01 ∧ hd.heap_1 = hd.heap_1 := by
  w_top off
  k_fill
  exact ⟨rfl, rfl⟩
noncomputable def defBody : Stmt → List Stmt
  | .FunctionDef _ _ b _ _ _ _ _ _ _ => b
  | _ => []
noncomputable def defParams : Stmt → Arguments
  | .FunctionDef _ a _ _ _ _ _ _ _ _ => a
  | _ => default
noncomputable def defScope : Stmt → Scope
  | .FunctionDef _ _ _ _ _ _ sc _ _ _ => sc
  | _ => default
noncomputable def machineDef : Stmt := PySem.Challenge.pw_pe0144_01.main.body.getD 12 default
noncomputable def readDef : Stmt := (defBody machineDef).getD 1 default
noncomputable abbrev rdFn (q : Str) (ct ca : Addr) (doc pm : Value) (c1 : Addr) (ctv : Value) : Obj :=
  fnMade (Str.ofString "_law_read_on") q (defParams readDef) (defBody readDef) (defScope readDef) [(Str.ofString "text", ct), (Str.ofString "at", ca)] doc pm c1 ctv
/-- the objects of a lexer: the place read up to, its dict, its line, itself, the stream -/
noncomputable abbrev LX (x dx f D f1 c1 ca ct la pb : Addr) (os : Array (Option Value)) (fd : FuncData) (oc oA oT : Obj) (q : Str) (doc pm ctv : Value) (e1 e2 e3 e4 er : Int) (k1 k2 k3 k4 kr tw : Tok)
    (pos : Int) (tp : Tok) (ln : Int) (tl : Tok) (items : Array Value) (n : Nat) (rest : List (Addr × Obj)) : List (Addr × Obj) :=
  (la, W.listOf #[.int pos tp] 0) ::
  (dx, dictOf [⟨e1, .str (Str.ofString "lineno") k1, .int ln tl⟩, ⟨e2, .str (Str.ofString "instream") k2, .ref f⟩, ⟨e3, .str (Str.ofString "whitespace") k3, .str (Str.ofString "\n\t\r ") tw⟩, ⟨e4, .str (Str.ofString "pushback") k4, .ref pb⟩] 4) ::
  (pb, W.listOf items n) :: (x, instObj 66 dx) :: (f, ⟨.type "function", some D, .func fd, os⟩) :: (D, dictOf [⟨er, .str (Str.ofString "read") kr, .ref f1⟩] 1) ::
  (f1, rdFn q ct ca doc pm c1 ctv) :: (c1, oc) :: (ca, oA) :: (ct, oT) :: rest
structure LexOk (x dx f D f1 c1 ca ct la pb : Nat) (oc oA oT : Obj) (q text : Str) : Prop where
  d1 : ∃ vs tq, oc.data = .fields vs ∧ vs[1]? = some (.str q tq)
  d3 : oA.data = Data.cell (some (.ref la))
  d4 : ∃ t2, oT.data = Data.cell (some (.str text t2))
  o : ct < ca ∧ ca < la ∧ la < c1 ∧ c1 < f1 ∧ f1 < f ∧ f < D ∧ D < dx ∧ dx < x ∧ x < pb
  sz : text.length ≤ 100
section
variable {prog : Program} {w : World} {p : Program} {loose : List Str} {mean : ExcName → Option Value} {mg mb : Str → Option Value}
  {dp un : Nat} {gd : Option (List Code)} {cn : Str} {cs : Scope} {a : Addr} {ccd : Value} {cl : List (Str × Addr)} {outer : List Env} {A₀ : Around} {base h₀ : Heap} {L : Addr} {m : Str → Option Value} {s : Shared} {Q E : Value → Shared → Prop} {rest : List (Addr × Obj)}
  {x dx f D f1 c1 ca ct la pb : Addr} {os : Array (Option Value)} {fd : FuncData} {oc oA oT : Obj} {q text : Str} {doc pm ctv : Value} {e1 e2 e3 e4 er : Int} {k1 k2 k3 k4 kr tw : Tok}
  {pos : Int} {tp : Tok} {ln : Int} {tl : Tok} {items : Array Value} {n : Nat}
theorem read_spec {t3 : Tok}
  (B : Below A₀ base outer h₀) (F : Fr h₀ L s.heap m) (X : (hd.heap_1 w.params).In h₀)
  (N : News h₀ L s.heap (LX x dx f D f1 c1 ca ct la pb os fd oc oA oT q doc pm ctv e1 e2 e3 e4 er k1 k2 k3 k4 kr tw pos tp ln tl items n rest))
  (T : Top p loose mean mg mb h₀) (hk : cs.kind = .function) (codeHd : CodeHd base 90 86) (ok : LexOk x dx f D f1 c1 ca ct la pb oc oA oT q text)
  (hd' : dp + 1 < recursionLimit) (hu : un + 8 < cLine) (hp : 0 ≤ pos ∧ pos ≤ text.length) (n5 : ∀ p ∈ rest, p.1 ≠ la)
  (hret : ∀ t t' h' tk', Fr h₀ L h' m → News h₀ L h' (LX x dx f D f1 c1 ca ct la pb os fd oc oA oT q doc pm ctv e1 e2 e3 e4 er k1 k2 k3 k4 kr tw (pos + (Txt.slice text (some pos) (some (pos + 1))).length) t' ln tl items n rest) →
    Q (.str (Txt.slice text (some pos) (some (pos + 1))) t) {s with heap := h', toks := tk'}) :
  wpAny (model prog w) (ktrTop dp un gd cn cs L a ccd cl outer) (call (.ref f1) [.int 1 t3]) Q E s := by
  obtain ⟨⟨vs, tq, d1, d2⟩, d3, ⟨t2, d4⟩, ⟨o1, o2, o3, o4, o5, o6, o7, o8, o9⟩, hx⟩ := ok
  refine wpAny_call ?_
  dsimp only [LX] at N
  k_dflt (refine' code_nest ?k1 ?k2 ?k3 ?k4 ?k5 ?kA ?kF ?kK ?k6 ?k7 ?k8 ?k9 ?kB ?_ ?c2 ?c3 ?c4 ?c5; (case kA => exact rfl); (case kF => exact rfl); (case kK => assumption); (case k1 => k_asm); (case k2 => k_asm); (case k3 => k_asm); (case k4 => k_asm); (case k5 => k_asm); (case k6 => k_mem); (case k7 => exact codeRec_news (by k_asm) (by k_mem) (by assumption) (by assumption)); (case k8 => ktr_room); (case k9 => exact BindsTo.of_eq rfl); (case c5 => decide); (case kB => exact locs rfl); (case c2 => exact rfl); (case c3 => exact rfl); (case c4 => exact rfl); k_whole; intro g' L' h' FG' F' N' B' X' T'; (try dsimp only); (try k_lift B'); (try k_fold))
  unfold readDef machineDef PySem.Challenge.pw_pe0144_01
  dsimp only [defBody, defParams, defScope, List.getD, List.getD_eq_getElem?_getD, List.getElem?_cons_succ, List.getElem?_cons_zero, Option.getD]
  k_steps
  refine' hret _ _ _ _ ?kf ?kn
  case kf => assumption
  case kn => assumption

theorem str_slice_at {x : Str} {i : Nat} {c : Nat} (h : x.cps[i]? = some c) : Txt.slice x (some (i : Int)) (some ((i : Int) + 1)) = ⟨#[c]⟩ := by
  have hl : i < x.cps.size := by
    rcases Nat.lt_or_ge i x.cps.size with q | q
    · exact q
    · rw [Array.getElem?_eq_none q] at h; cases h
  have := beq_iff_eq.mp (slice_closes (x := x) (i := i) (j := (i : Int) + 1) ⟨by omega, by omega, by rw [Array.length_toList]; omega⟩)
  rw [this]
  have e : ((i : Int) + 1 - i).toNat = 1 := by omega
  have e2 : (i : Int).toNat = i := by omega
  rw [e, e2]
  have h2 : x.cps.toList[i]? = some c := by rw [Array.getElem?_toList]; exact h
  have h3 : (x.cps.toList.drop i).take 1 = [c] := by
    rw [List.take_one, List.head?_drop, h2]; rfl
  rw [h3]
theorem str_slice_end {x : Str} : Txt.slice x (some (x.length : Int)) (some ((x.length : Int) + 1)) = Str.ofString "" := by
  have e2 : Txt.slice x (some (x.length : Int)) (some ((x.length : Int) + 1)) = Txt.slice x (some (x.length : Int)) none := by
    unfold Txt.slice
    have : Builtin.Str.strSliceIndices (some (x.length : Int)) (some ((x.length : Int) + 1)) 1 x.length = Builtin.Str.strSliceIndices (some (x.length : Int)) none 1 x.length := by
      have h0 : ¬ ((x.length : Int) < 0) := by omega
      have h1 : ¬ ((x.length : Int) + 1 < 0) := by omega
      have h2 : (1 : Int) > 0 := by decide
      have h3 : (x.length : Int) ≤ (x.length : Int) + 1 := by omega
      simp only [Builtin.Str.strSliceIndices, h0, h1, h2, if_false, if_true, Int.min_self, Int.min_eq_right h3]
      rw [show max 0 (x.length : Int) = (x.length : Int) from by omega]
    rw [this]
  rw [e2, slice_beyond (Int.le_refl _)]
  decide
theorem read_dict {er : Int} {kr : Tok} {f1 : Addr} : nsFind (List.toArray [(⟨er, .str (Str.ofString "read") kr, .ref f1⟩ : DictEntry)]) (Str.ofString "read") = some (.ref f1) := by
  simp [nsFind, findBy, Value.isStr]
theorem read_keys {er : Int} {kr : Tok} {f1 : Addr} : StrKeys (List.toArray [(⟨er, .str (Str.ofString "read") kr, .ref f1⟩ : DictEntry)]) := fun e he => by
  have : e = ⟨er, .str (Str.ofString "read") kr, .ref f1⟩ := by simpa using he
  exact ⟨_, _, by rw [this]⟩
/-- _read_char -/
theorem char_code
  (B : Below A₀ base outer h₀) (F : Fr h₀ L s.heap m) (X : (hd.heap_1 w.params).In h₀)
  (N : News h₀ L s.heap (LX x dx f D f1 c1 ca ct la pb os fd oc oA oT q doc pm ctv e1 e2 e3 e4 er k1 k2 k3 k4 kr tw pos tp ln tl items n rest))
  (T : Top p loose mean mg mb h₀) (hk : cs.kind = .function) (codeHd : CodeHd base 90 86) (ok : LexOk x dx f D f1 c1 ca ct la pb oc oA oT q text)
  (hd' : dp + 3 < recursionLimit) (hu : un + 20 < cLine) (hp : 0 ≤ pos ∧ pos ≤ text.length) (n5 : ∀ p ∈ rest, p.1 ≠ la) (n6 : ∀ p ∈ rest, p.1 ≠ dx)
  (hret : ∀ ln' t t' tl' h' tk', ln' = (if (Txt.slice text (some pos) (some (pos + 1)) == Str.ofString "\n") = true then ln + 1 else ln) → Fr h₀ L h' m → News h₀ L h' (LX x dx f D f1 c1 ca ct la pb os fd oc oA oT q doc pm ctv e1 e2 e3 e4 er k1 k2 k3 k4 kr tw (pos + (Txt.slice text (some pos) (some (pos + 1))).length) t' ln' tl' items n rest) →
    Q (.str (Txt.slice text (some pos) (some (pos + 1))) t) {s with heap := h', toks := tk'}) :
  codeAny (model prog w) (ktrTop dp un gd cn cs L a ccd cl outer) (.call (.ref 49) ⟨[.ref x], []⟩) (fun r s' => match r with | .ok (.ret v) => Q v s' | .ok _ => False | .error e => E e s') s := by
  have ok' := ok
  obtain ⟨⟨vs, tq, d1, d2⟩, d3, ⟨t2, d4⟩, ⟨o1, o2, o3, o4, o5, o6, o7, o8, o9⟩, hx⟩ := ok'
  dsimp only [LX] at N
  k_dflt cell_enter
  repeat' (first | (k_unfold; (try dsimp only)) | (k_end; wrow_close) | (with_reducible (k_here; (with_reducible show wpAny _ _ (call (Value.ref _) [Value.int 1 _]) _ _ _); k_dflt (refine' read_spec ?k1zq4 ?k2zq4 ?k3zq4 ?k4zq4 ?k5zq4 ?k6zq4 ?k7zq4 ?k8zq4 ?k9zq4 ?k10zq4 ?k11zq4 ?k12zq4 ?_; (case k1zq4 => k_asm); (case k2zq4 => k_asm); (case k3zq4 => k_asm); (case k4zq4 => k_asm); (case k5zq4 => k_asm); (case k6zq4 => exact rfl); (case k7zq4 => k_asm); (case k8zq4 => assumption); (case k9zq4 => ktr_room); (case k10zq4 => ktr_units); (case k11zq4 => assumption); (case k12zq4 => assumption); k_whole; intro tzq' t2zq' hzq' tkzq' Fzq' Nzq'; (try dsimp only [LX] at Nzq'); (try dsimp only); (try k_fold)))) | (with_reducible (k_here; (with_reducible show wpAny _ _ (getMethod (Value.ref _) (Str.ofString "read") _) _ _ _); k_dflt (refine' fn_method (News.get ?k1zq3 ?k2zq3) (News.get ?k3zq3 ?k4zq3) fn_read read_dict read_keys ?_; (case k1zq3 => k_asm); (case k2zq3 => k_mem); (case k3zq3 => k_asm); (case k4zq3 => k_mem); k_whole; (try dsimp only)))) | walk1 | (dsimp only; walk1) | (leave1; walk_say "STEP leave1"; try dsimp only) | fail "no step")
  · refine' hret _ _ _ _ _ _ ?ke1 ?kf1 ?kn1
    case kf1 => assumption
    case kn1 => assumption
    case ke1 => exact (if_pos (by assumption)).symm
  · refine' hret _ _ _ _ _ _ ?ke2 ?kf2 ?kn2
    case kf2 => assumption
    case kn2 => assumption
    case ke2 => exact (if_neg (by simp only [Bool.not_eq_true]; assumption)).symm
/-- _read_char where a sign is left -/
theorem char_at {i c : Nat}
  (B : Below A₀ base outer h₀) (F : Fr h₀ L s.heap m) (X : (hd.heap_1 w.params).In h₀)
  (N : News h₀ L s.heap (LX x dx f D f1 c1 ca ct la pb os fd oc oA oT q doc pm ctv e1 e2 e3 e4 er k1 k2 k3 k4 kr tw (i : Int) tp ln tl items n rest))
  (T : Top p loose mean mg mb h₀) (hk : cs.kind = .function) (codeHd : CodeHd base 90 86) (ok : LexOk x dx f D f1 c1 ca ct la pb oc oA oT q text)
  (hd' : dp + 3 < recursionLimit) (hu : un + 20 < cLine) (hc : text.cps[i]? = some c) (n5 : ∀ p ∈ rest, p.1 ≠ la) (n6 : ∀ p ∈ rest, p.1 ≠ dx)
  (hret : ∀ t t' tl' h' tk', Fr h₀ L h' m → News h₀ L h' (LX x dx f D f1 c1 ca ct la pb os fd oc oA oT q doc pm ctv e1 e2 e3 e4 er k1 k2 k3 k4 kr tw ((i + 1 : Nat) : Int) t' (if c = 10 then ln + 1 else ln) tl' items n rest) →
    Q (.str ⟨#[c]⟩ t) {s with heap := h', toks := tk'}) :
  codeAny (model prog w) (ktrTop dp un gd cn cs L a ccd cl outer) (.call (.ref 49) ⟨[.ref x], []⟩) (fun r s' => match r with | .ok (.ret v) => Q v s' | .ok _ => False | .error e => E e s') s := by
  have hl : i < text.cps.size := by
    rcases Nat.lt_or_ge i text.cps.size with q | q
    · exact q
    · rw [Array.getElem?_eq_none q] at hc; cases hc
  have hl2 : i < text.length := hl
  refine char_code B F X N T hk codeHd ok hd' hu ⟨by omega, by omega⟩ n5 n6 fun ln' t t' tl' h' tk' hln F' N' => ?_
  rw [str_slice_at hc] at hln N' ⊢
  have e : (if ((⟨#[c]⟩ : Str) == Str.ofString "\n") = true then ln + 1 else ln) = (if c = 10 then ln + 1 else ln) := by
    have : ((⟨#[c]⟩ : Str) == Str.ofString "\n") = decide (c = 10) := by
      rw [show Str.ofString "\n" = ⟨#[10]⟩ from by decide]
      by_cases h : c = 10
      · subst h; decide
      · have : (⟨#[c]⟩ : Str) ≠ ⟨#[10]⟩ := fun e => by
          injection e with e
          have : c = 10 := by simpa using e
          exact h this
        rw [decide_eq_false h]; simpa using this
    rw [this]; simp
  rw [e] at hln
  subst hln
  have e2 : ((i : Int) + ((⟨#[c]⟩ : Str).length : Int)) = ((i + 1 : Nat) : Int) := by
    have : (⟨#[c]⟩ : Str).length = 1 := rfl
    rw [this]; omega
  rw [e2] at N'
  exact hret t t' tl' h' tk' F' N'
theorem char_end
  (B : Below A₀ base outer h₀) (F : Fr h₀ L s.heap m) (X : (hd.heap_1 w.params).In h₀)
  (N : News h₀ L s.heap (LX x dx f D f1 c1 ca ct la pb os fd oc oA oT q doc pm ctv e1 e2 e3 e4 er k1 k2 k3 k4 kr tw (text.length : Int) tp ln tl items n rest))
  (T : Top p loose mean mg mb h₀) (hk : cs.kind = .function) (codeHd : CodeHd base 90 86) (ok : LexOk x dx f D f1 c1 ca ct la pb oc oA oT q text)
  (hd' : dp + 3 < recursionLimit) (hu : un + 20 < cLine) (n5 : ∀ p ∈ rest, p.1 ≠ la) (n6 : ∀ p ∈ rest, p.1 ≠ dx)
  (hret : ∀ t t' tl' h' tk', Fr h₀ L h' m → News h₀ L h' (LX x dx f D f1 c1 ca ct la pb os fd oc oA oT q doc pm ctv e1 e2 e3 e4 er k1 k2 k3 k4 kr tw (text.length : Int) t' ln tl' items n rest) →
    Q (.str (Str.ofString "") t) {s with heap := h', toks := tk'}) :
  codeAny (model prog w) (ktrTop dp un gd cn cs L a ccd cl outer) (.call (.ref 49) ⟨[.ref x], []⟩) (fun r s' => match r with | .ok (.ret v) => Q v s' | .ok _ => False | .error e => E e s') s := by
  refine char_code B F X N T hk codeHd ok hd' hu ⟨by omega, by omega⟩ n5 n6 fun ln' t t' tl' h' tk' hln F' N' => ?_
  rw [str_slice_end] at hln N' ⊢
  rw [show (Str.ofString "" == Str.ofString "\n") = false from by decide] at hln
  have hln : ln' = ln := hln
  subst hln
  have e2 : ((text.length : Int) + ((Str.ofString "").length : Int)) = (text.length : Int) := by
    rw [show (Str.ofString "").length = 0 from by decide]; omega
  rw [e2] at N'
  exact hret t t' tl' h' tk' F' N'
end

end
section
/-- iter(f, ''): the iterator that calls -/
noncomputable abbrev citObj (q : Addr) (t : Tok) : Obj := { cls := .type "callable_iterator", data := .fields #[.ref q, .str (Str.ofString "") t, .bool false] }
theorem cit_next_slot : Slot "callable_iterator" "__next__" "callable_iterator.__next__" :=
  .of (owner := "callable_iterator") (n := "__next__") (by rw [typeLookup_type, builtinLookup_eq_fast]; kernel_rfl) (by decide +kernel) (by decide +kernel) (by decide +kernel)
    (by first | exact .inl (by decide +kernel) | exact .inr (by decide +kernel)) (by rw [isSubtype_type]; kernel_rfl)
theorem cit_iter_slot : Slot "callable_iterator" "__iter__" "callable_iterator.__iter__" :=
  .of (owner := "callable_iterator") (n := "__iter__") (by rw [typeLookup_type, builtinLookup_eq_fast]; kernel_rfl) (by decide +kernel) (by decide +kernel) (by decide +kernel)
    (by first | exact .inl (by decide +kernel) | exact .inr (by decide +kernel)) (by rw [isSubtype_type]; kernel_rfl)
theorem cit_next_entry : entryFor table "callable_iterator.__next__" = some Builtin.«callable_iterator.__next__» := entryFor_of_tree (by kernel_rfl)
theorem cit_next_args (a : Value) : argsOk "callable_iterator.__next__" ⟨[a], []⟩ := by unfold argsOk; kernel_rfl
theorem cit_iter_args (a : Value) : argsOk "callable_iterator.__iter__" ⟨[a], []⟩ := by unfold argsOk; kernel_rfl
theorem cit_iter_entry : entryFor table "callable_iterator.__iter__" = some Builtin.«dict_keyiterator.__iter__» :=
  entryFor_alias (id' := "dict_keyiterator.__iter__") (by kernel_rfl) (by first | rfl | decide +kernel) (by decide +kernel) (by kernel_rfl)
theorem meth_call_look : typeLookup (.type "method") "__call__" = pure (some (.builtin "method.__call__")) := by rw [typeLookup_type, builtinLookup_eq_fast]; kernel_rfl
theorem iter_entry : entryFor table "iter" = some Builtin.«iter» := entryFor_of_tree (by kernel_rfl)
theorem iter_args (a b : Value) : argsOk "iter" ⟨[a, b], []⟩ := by unfold argsOk; kernel_rfl

section
variable {prog : Program} {w : World} {A : Around} {E : Value → Shared → Prop} {s : Shared}
theorem cit_new {q : Addr} {t : Tok} {f self : Value} {Q : Value → Shared → Prop} (hq : s.heap.get? q = some (methodObj f self))
    (h : Q (.ref s.heap.objs.size) { s with heap := s.heap.push (citObj q t) }) :
    wpAny (model prog w) A (call (.builtin "iter") [.ref q, .str (Str.ofString "") t]) Q E s := by
  have hT : s.TypeIs (.ref q) "method" := ⟨_, hq, rfl⟩
  refine PySem.Calls.call_function_entry (by decide +kernel) (by decide +kernel) iter_entry (iter_args _ _) ?_
  unfold Builtin.«iter»
  refine wpAny_bind (m := someArgs "iter" 1 2 _) (wpAny_of_eq (a := [Value.ref q, .str (Str.ofString "") t]) (by first | rfl | kernel_rfl!) ?_)
  dsimp only
  refine wpAny_bind (wpAny_specialOf (name := Str.ofString "__call__") hT meth_call_look ?_)
  refine wpAny_ite_split (fun hab => absurd hab (by simp)) (fun _ => ?_)
  refine wpAny_bind (wpAny_rule (wpAny_bind ?_))
  unfold newFields
  exact wpAny_newObj_type (wpAny_pure ⟨_, rfl, h⟩) (by size_fits)
theorem cit_iter {I q : Addr} {t : Tok} {Q : Value → Shared → Prop} (hI : s.heap.get? I = some (citObj q t)) (h : Q (.ref I) s) : wpAny (model prog w) A (pyIter (.ref I)) Q E s := by
  have hT : s.TypeIs (.ref I) "callable_iterator" := ⟨_, hI, rfl⟩
  refine wpAny_pyIter_slot hT cit_iter_slot (wpAny_call_entry cit_iter_slot hT cit_iter_entry ?_ (cit_iter_args _))
  show wpAny _ _ (ret (.ref I)) _ _ s
  exact wpAny_pure ⟨_, rfl, "callable_iterator", _, hT, cit_next_slot.lookup, h⟩

noncomputable def CitPost (I q g : Addr) (t : Tok) (og : Obj) (Q : Option Value → Shared → Prop) (E : Value → Shared → Prop) (r : Result) (s' : Shared) : Prop := match r with
  | .ok (.ret v) => ∃ c tc, v = .str c tc ∧ s'.heap.get? I = some (citObj q t) ∧ (∃ self, s'.heap.get? q = some (methodObj (.ref g) self)) ∧ s'.heap.get? g = some og ∧
      (c ≠ Str.ofString "" → Q (some v) s') ∧ (c = Str.ofString "" → ∀ h', (∀ b o, b ≠ I → s'.heap.get? b = some o → h'.get? b = some o) → Q none { s' with heap := h' })
  | .ok _ => False
  | .error e => E e s'

theorem cit_borrows {q g : Addr} {self : Value} {og : Obj} {fd : FuncData} {Q : Bool → Shared → Prop} (hq : s.heap.get? q = some (methodObj (.ref g) self)) (hg : s.heap.get? g = some og) (hgf : og.data = .func fd) (h : Q true s) :
    wpAny (model prog w) A (borrowsExactly (.ref q)) Q E s := by
  unfold borrowsExactly
  dsimp only
  refine wpAny_bind (wpAny_load hq ?_)
  dsimp only
  rw [if_pos (by decide)]
  show wpAny _ _ (load g >>= _) _ _ _
  refine wpAny_bind (wpAny_load hg ?_)
  rw [hgf]
  exact wpAny_pure h
theorem cit_next {I q g x : Addr} {t : Tok} {og : Obj} {fd : FuncData} {Q : Option Value → Shared → Prop} (hh : A.handled = none) (hI : s.heap.get? I = some (citObj q t)) (hq : s.heap.get? q = some (methodObj (.ref g) (.ref x)))
    (hg : s.heap.get? g = some og) (hgf : og.data = .func fd)
    (hc : codeAny (model prog w) A.in1 (.call (.ref g) ⟨[.ref x], []⟩) (CitPost I q g t og Q (fun _ _ => False)) s) :
    wpAny (model prog w) A (pyNext (.ref I)) Q E s := by
  have hT : s.TypeIs (.ref I) "callable_iterator" := ⟨_, hI, rfl⟩
  unfold pyNext
  refine wpAny_bind (wpAny_attempt (wpAny_callSpecial?_slot (name := Str.ofString "__next__") hT cit_next_slot (wpAny_call_entry cit_next_slot hT cit_next_entry ?_ (cit_next_args _))))
  unfold Builtin.«callable_iterator.__next__»
  refine wpAny_bind (wpAny_of_eq (show slotArgs "__next__" 0 ⟨[.ref I], []⟩ = pure (.ref I, []) from by kernel_rfl) ?_)
  refine wpAny_bind (wpAny_field hI rfl (x := .bool false) rfl ?_)
  rw [if_neg (by decide)]
  refine wpAny_bind (wpAny_field hI rfl (x := .ref q) rfl ?_)
  refine wpAny_bind (wpAny_attempt ?_)
  unfold callOutOfASlot
  refine wpAny_bind (cit_borrows hq hg hgf ?_)
  rw [if_pos rfl]
  show wpAny _ _ (Sem.call (.call (.ref q) ⟨[], []⟩) none false [borrowed] _) _ _ _
  refine X.x_call ?_ (fun h => by cases h)
  show codeAny (model prog w) A.in1 _ _ _
  refine method_call hq (codeAny_mono hc (fun r s' hr => ?_))
  cases r with
  | error e => exact hr.elim
  | ok fl =>
    cases fl with
    | ret v =>
      obtain ⟨c, tc, rfl, hI', ⟨self, hq'⟩, hg', h1, h2⟩ := hr
      refine wpAny_pure ?_
      dsimp only
      refine wpAny_bind (wpAny_field hI' rfl (x := .bool false) rfl ?_)
      rw [if_neg (by decide)]
      refine wpAny_bind (wpAny_field hI' rfl (x := .str (Str.ofString "") t) rfl ?_)
      refine wpAny_bind (wpAny_holding (eqBool_str ?_))
      by_cases hce : c = Str.ofString ""
      · rw [if_neg (by rw [hce]; simp)]
        refine wpAny_bind (wpAny_rule (wpAny_bind ?_))
        refine wpAny_bind (m := field (.ref I) 0) (wpAny_field hI' rfl (x := .ref q) rfl ?_)
        refine wpAny_bind ?_
        unfold slotLetsGo
        dsimp only
        refine wpAny_bind (cit_borrows hq' hg' hgf ?_)
        rw [if_pos rfl]
        refine wpAny_pure ?_
        refine wpAny_bind (wpAny_setField_rec hI' (by simp) fun h₁ hI₁ hs₁ => ?_)
        refine wpAny_bind (wpAny_setField_rec hI₁ (by simp) fun h₂ hI₂ hs₂ => ?_)
        refine wpAny_setField_rec hI₂ (by simp) fun h₃ hI₃ hs₃ => ?_
        show wpAny _ _ (newExc (.type "StopIteration") [] >>= _) _ _ _
        refine wpAny_bind ?_
        simp only [newExc, newTuple]
        refine wpAny_bind (wpAny_newObj_type ?_ (by size_fits))
        refine wpAny_bind (m := firstArgMember _ _) (wpAny_of_eq (a := Value.none) (by first | rfl | (simp only [firstArgMember]; rfl)) ?_)
        refine wpAny_newObj_type ?_ (by size_fits)
        simp only [raiseNew]
        refine wpAny_bind (wpAny_handled ?_)
        rw [show A.in1.handled = none from hh]
        refine wpAny_bind (wpAny_pure (wpAny_throw ?_))
        refine wpAny_bind (wpAny_isInstance (T := "StopIteration") (b := true) ⟨_, Heap.get?_push_size _ rfl, rfl⟩ isSubtype_stop ?_)
        exact wpAny_pure (h2 hce _ fun b o hb e => Heap.get?_push_of_some _ (Heap.get?_push_of_some _ (hs₃.extBut _ _ hb (hs₂.extBut _ _ hb (hs₁.extBut _ _ hb e)))))
      · rw [if_pos (by simp; exact fun h => hce h.symm)]
        exact wpAny_pure ⟨_, rfl, wpAny_pure (h1 hce)⟩
    | _ => exact hr.elim
end

end
section
theorem fillL2b : PySem.Challenge.rw_pe0144_01 = PySem.Challenge.rw_pe0144_01 ∧ hd.heap_1 = hd.heap_1 := by
  w_top off
  k_fill
  exact ⟨rfl, rfl⟩
theorem mem_ins {p i1 i2 : Addr × Obj} {a r : List (Addr × Obj)} (h : p ∈ a ++ r) : p ∈ a ++ (i1 :: i2 :: r) := (List.mem_append.mp h).elim (fun h => List.mem_append_left _ h) fun h => List.mem_append_right _ (.tail _ (.tail _ h))
theorem mem_perm10 {z a1 a2 a3 a4 a5 a6 a7 a8 a9 a10 : Addr} (h : z ∈ [a1, a2, a3, a4, a5, a6, a7, a8, a9, a10]) : z ∈ [a1, a2, a3, a4, a5, a6, a7, a8, a9, a10] := h
theorem news_mono {h₀ h : Heap} {L : Addr} {l l' : List (Addr × Obj)} (N : News h₀ L h l) (hs : ∀ p ∈ l', p ∈ l) : News h₀ L h l' := fun p hp => N p (hs p hp)
theorem fr_ext {h₀ h : Heap} {L : Addr} {m m' : Str → Option Value} (F : Fr h₀ L h m) (e : ∀ y, m y = m' y) : Fr h₀ L h m' := by
  have : m = m' := funext e
  rw [← this]; exact F
/-- with the iterator and its method -/
noncomputable abbrev IX (I q0 x : Addr) (tI : Tok) (rest : List (Addr × Obj)) : List (Addr × Obj) := (I, citObj q0 tI) :: (q0, methodObj (.ref 49) (.ref x)) :: rest
theorem LX_tail {x dx f D f1 c1 ca ct la pb : Addr} {os : Array (Option Value)} {fd : FuncData} {oc oA oT : Obj} {q : Str} {doc pm ctv : Value} {e1 e2 e3 e4 er : Int} {k1 k2 k3 k4 kr tw : Tok}
  {pos : Int} {tp : Tok} {ln : Int} {tl : Tok} {items : Array Value} {n : Nat} {rest : List (Addr × Obj)} {p : Addr × Obj} (h : p ∈ rest) :
  p ∈ LX x dx f D f1 c1 ca ct la pb os fd oc oA oT q doc pm ctv e1 e2 e3 e4 er k1 k2 k3 k4 kr tw pos tp ln tl items n rest :=
  .tail _ (.tail _ (.tail _ (.tail _ (.tail _ (.tail _ (.tail _ (.tail _ (.tail _ (.tail _ h)))))))))
section
variable {prog : Program} {w : World} {p : Program} {loose : List Str} {mean : ExcName → Option Value} {mg mb : Str → Option Value}
  {dp un : Nat} {gd : Option (List Code)} {cn : Str} {cs : Scope} {a : Addr} {ccd : Value} {cl : List (Str × Addr)} {outer : List Env} {A₀ : Around} {base h₀ : Heap} {L : Addr} {m : Str → Option Value} {s : Shared} {Q E : Value → Shared → Prop} {rest : List (Addr × Obj)}
  {x dx f D f1 c1 ca ct la pb : Addr} {os : Array (Option Value)} {fd : FuncData} {oc oA oT : Obj} {q text : Str} {doc pm ctv : Value} {e1 e2 e3 e4 er : Int} {k1 k2 k3 k4 kr tw : Tok}
  {pos : Int} {tp : Tok} {ln : Int} {tl : Tok} {items : Array Value} {n : Nat}
theorem next_at {i c : Nat} {I q0 : Addr} {tI : Tok} {Q : Option Value → Shared → Prop}
  (B : Below A₀ base outer h₀) (F : Fr h₀ L s.heap m) (X : (hd.heap_1 w.params).In h₀)
  (N : News h₀ L s.heap (LX x dx f D f1 c1 ca ct la pb os fd oc oA oT q doc pm ctv e1 e2 e3 e4 er k1 k2 k3 k4 kr tw (i : Int) tp ln tl items n (IX I q0 x tI rest)))
  (T : Top p loose mean mg mb h₀) (hk : cs.kind = .function) (codeHd : CodeHd base 90 86) (ok : LexOk x dx f D f1 c1 ca ct la pb oc oA oT q text)
  (hd' : dp + 3 < recursionLimit) (hu : un + 21 < cLine) (hc : text.cps[i]? = some c) (n5 : ∀ p ∈ IX I q0 x tI rest, p.1 ≠ la) (n6 : ∀ p ∈ IX I q0 x tI rest, p.1 ≠ dx)
  (hret : ∀ t t' tl' h' tk', Fr h₀ L h' m → News h₀ L h' (LX x dx f D f1 c1 ca ct la pb os fd oc oA oT q doc pm ctv e1 e2 e3 e4 er k1 k2 k3 k4 kr tw ((i + 1 : Nat) : Int) t' (if c = 10 then ln + 1 else ln) tl' items n (IX I q0 x tI rest)) →
    Q (some (.str ⟨#[c]⟩ t)) {s with heap := h', toks := tk'}) :
  wpAny (model prog w) (ktrTop dp un gd cn cs L a ccd cl outer) (pyNext (.ref I)) Q E s := by
  have hg : ∃ fd', (hd.heap_1 w.params).lookup 49 = some ⟨.type "function", none, .func fd', #[]⟩ := ⟨_, by k_is⟩
  obtain ⟨fd', hg⟩ := hg
  have hI := (N _ (LX_tail (.head _))).1
  have hq := (N _ (LX_tail (.tail _ (.head _)))).1
  refine cit_next rfl hI hq (X.keeps F.keep _ _ hg) rfl ?_
  refine codeAny_mono (char_at (un := un + 1) (E := fun _ _ => False) (Q := fun v s' => CitPost I q0 49 tI ⟨.type "function", none, .func fd', #[]⟩ Q (fun _ _ => False) (.ok (.ret v)) s') B F X N T hk codeHd ok hd' (by omega) hc n5 n6 fun t t' tl' h' tk' F' N' => ?_) (fun r s' hr => ?_)
  · exact ⟨_, _, rfl, (N' _ (LX_tail (.head _))).1, ⟨_, (N' _ (LX_tail (.tail _ (.head _)))).1⟩, X.keeps F'.keep _ _ hg, fun _ => hret t t' tl' h' tk' F' N', fun e => by
      have : (⟨#[c]⟩ : Str).length = (Str.ofString "").length := by rw [e]
      rw [show (Str.ofString "").length = 0 from by decide] at this
      cases this⟩
  · cases r with
    | ok fl => cases fl <;> exact hr
    | error e => exact hr
theorem next_end {I q0 : Addr} {tI : Tok} {Q : Option Value → Shared → Prop}
  (B : Below A₀ base outer h₀) (F : Fr h₀ L s.heap m) (X : (hd.heap_1 w.params).In h₀)
  (N : News h₀ L s.heap (LX x dx f D f1 c1 ca ct la pb os fd oc oA oT q doc pm ctv e1 e2 e3 e4 er k1 k2 k3 k4 kr tw (text.length : Int) tp ln tl items n (IX I q0 x tI rest)))
  (T : Top p loose mean mg mb h₀) (hk : cs.kind = .function) (codeHd : CodeHd base 90 86) (ok : LexOk x dx f D f1 c1 ca ct la pb oc oA oT q text)
  (hd' : dp + 3 < recursionLimit) (hu : un + 21 < cLine) (n5 : ∀ p ∈ IX I q0 x tI rest, p.1 ≠ la) (n6 : ∀ p ∈ IX I q0 x tI rest, p.1 ≠ dx)
  (n8 : ∀ b ∈ [la, dx, pb, x, f, D, f1, c1, ca, ct], b ≠ I) (n9 : ∀ p ∈ rest, p.1 ≠ I) (hIL : I ≠ L) (hI0 : h₀.get? I = none)
  (hret : ∀ t' tl' h' tk', Fr h₀ L h' m → News h₀ L h' (LX x dx f D f1 c1 ca ct la pb os fd oc oA oT q doc pm ctv e1 e2 e3 e4 er k1 k2 k3 k4 kr tw (text.length : Int) t' ln tl' items n rest) →
    Q none {s with heap := h', toks := tk'}) :
  wpAny (model prog w) (ktrTop dp un gd cn cs L a ccd cl outer) (pyNext (.ref I)) Q E s := by
  have hg : ∃ fd', (hd.heap_1 w.params).lookup 49 = some ⟨.type "function", none, .func fd', #[]⟩ := ⟨_, by k_is⟩
  obtain ⟨fd', hg⟩ := hg
  have hI := (N _ (LX_tail (.head _))).1
  have hq := (N _ (LX_tail (.tail _ (.head _)))).1
  refine cit_next rfl hI hq (X.keeps F.keep _ _ hg) rfl ?_
  refine codeAny_mono (char_end (un := un + 1) (E := fun _ _ => False) (Q := fun v s' => CitPost I q0 49 tI ⟨.type "function", none, .func fd', #[]⟩ Q (fun _ _ => False) (.ok (.ret v)) s') B F X N T hk codeHd ok hd' (by omega) n5 n6 fun t t' tl' h' tk' F' N' => ?_) (fun r s' hr => ?_)
  · refine ⟨_, _, rfl, (N' _ (LX_tail (.head _))).1, ⟨_, (N' _ (LX_tail (.tail _ (.head _)))).1⟩, X.keeps F'.keep _ _ hg, fun e => absurd rfl e, fun _ h₂ hk₂ => ?_⟩
    refine hret t' tl' h₂ tk' ?_ ?_
    · obtain ⟨oL, es, ep, hL, hLd⟩ := F'.ns
      exact ⟨⟨oL, es, ep, hk₂ _ _ (fun z => hIL z.symm) hL, hLd⟩, fun b o e => hk₂ b o (fun z => by rw [z, hI0] at e; cases e) (F'.keep b o e), F'.above⟩
    · intro p hp
      have hp' : p ∈ LX x dx f D f1 c1 ca ct la pb os fd oc oA oT q doc pm ctv e1 e2 e3 e4 er k1 k2 k3 k4 kr tw (text.length : Int) t' ln tl' items n [] ++ rest := hp
      have hne : p.1 ≠ I := (List.mem_append.mp hp').elim (fun h => n8 p.1 (by
        have h2 := List.mem_map_of_mem (f := Prod.fst) h
        simp only [LX, List.map_cons, List.map_nil] at h2
        exact mem_perm10 h2)) (fun h => n9 p h)
      have hm : p ∈ LX x dx f D f1 c1 ca ct la pb os fd oc oA oT q doc pm ctv e1 e2 e3 e4 er k1 k2 k3 k4 kr tw (text.length : Int) t' ln tl' items n (IX I q0 x tI rest) := mem_ins (a := LX x dx f D f1 c1 ca ct la pb os fd oc oA oT q doc pm ctv e1 e2 e3 e4 er k1 k2 k3 k4 kr tw (text.length : Int) t' ln tl' items n []) hp'
      have := N' p hm
      exact ⟨hk₂ _ _ hne this.1, this.2⟩
  · cases r with
    | ok fl => cases fl <;> exact hr
    | error e => exact hr
end

end
section
/-- get_token's names -/
noncomputable def mT (tok : Str) (tt : Tok) (I x : Addr) (ch : Option Value) : Str → Option Value := fun y =>
  if y = Str.ofString "ch" then ch else if y = Str.ofString "fiter" then some (.ref I) else if y = Str.ofString "token" then some (.str tok tt) else if y = Str.ofString "self" then some (.ref x) else none
noncomputable def Dig (c : Nat) : Prop := 48 ≤ c ∧ c ≤ 57
section
variable {prog : Program} {w : World} {p : Program} {loose : List Str} {mean : ExcName → Option Value} {mg mb : Str → Option Value}
  {dp un : Nat} {gd : Option (List Code)} {cn : Str} {cs : Scope} {a : Addr} {ccd : Value} {outer : List Env} {A₀ : Around} {base h₀ : Heap} {L : Addr} {m : Str → Option Value} {s : Shared} {E : Value → Shared → Prop} {rest : List (Addr × Obj)}
  {x dx f D f1 c1 ca ct la pb : Addr} {os : Array (Option Value)} {fd : FuncData} {oc oA oT : Obj} {q text : Str} {doc pm ctv : Value} {e1 e2 e3 e4 er : Int} {k1 k2 k3 k4 kr tw : Tok}
  {pos : Int} {tp : Tok} {ln : Int} {tl : Tok} {items : Array Value} {n : Nat}
/-- what a turn leaves -/
noncomputable def Left (h₀ : Heap) (L : Addr) (s : Shared) (I x q0 : Addr) (tI : Tok) (tok : Str) (dx f D f1 c1 ca ct la pb : Addr) (os : Array (Option Value)) (fd : FuncData) (oc oA oT : Obj) (q : Str) (doc pm ctv : Value) (e1 e2 e3 e4 er : Int) (k1 k2 k3 k4 kr tw : Tok) (i : Nat) (ln : Int) (n : Nat) (rest : List (Addr × Obj)) (s' : Shared) : Prop :=
  ∃ tt ch tp tl h tk, s' = { s with heap := h, toks := tk } ∧ Fr h₀ L h (mT tok tt I x ch) ∧ News h₀ L h (LX x dx f D f1 c1 ca ct la pb os fd oc oA oT q doc pm ctv e1 e2 e3 e4 er k1 k2 k3 k4 kr tw (i : Int) tp ln tl #[] n (IX I q0 x tI rest))
theorem signs_rest {I q0 : Addr} {tI : Tok} {body : List Stmt} {Qf : Flow → Shared → Prop} {e : Nat} {W : Str} {iE : Nat}
  (B : Below A₀ base outer h₀) (X : (hd.heap_1 w.params).In h₀)
  (T : Top p loose mean mg mb h₀) (hk : cs.kind = .function) (codeHd : CodeHd base 90 86) (ok : LexOk x dx f D f1 c1 ca ct la pb oc oA oT q text)
  (hd' : dp + 3 < recursionLimit) (hu : un + 21 < cLine) (n5 : ∀ p ∈ IX I q0 x tI rest, p.1 ≠ la) (n6 : ∀ p ∈ IX I q0 x tI rest, p.1 ≠ dx)
  (hl : (envOf cn cs L a ccd).kindOf (Str.ofString "ch") = some .local)
  (turn : ∀ (c i : Nat) (tok : Str) tt tc tp tl h tk, Dig c → tok.length ≤ 10 → Fr h₀ L h (mT tok tt I x (some (.str ⟨#[c]⟩ tc))) →
    News h₀ L h (LX x dx f D f1 c1 ca ct la pb os fd oc oA oT q doc pm ctv e1 e2 e3 e4 er k1 k2 k3 k4 kr tw (i : Int) tp ln tl #[] n (IX I q0 x tI rest)) →
    wpAny (model prog w) (ktrTop dp un gd cn cs L a ccd [] outer) (execs body (envOf cn cs L a ccd)) (fun fl s' => fl = .next ∧ Left h₀ L s I x q0 tI (tok ++ ⟨#[c]⟩) dx f D f1 c1 ca ct la pb os fd oc oA oT q doc pm ctv e1 e2 e3 e4 er k1 k2 k3 k4 kr tw i ln n rest s') E { s with heap := h, toks := tk })
  (last : ∀ tt tc tp tl h tk, Fr h₀ L h (mT W tt I x (some (.str ⟨#[e]⟩ tc))) →
    News h₀ L h (LX x dx f D f1 c1 ca ct la pb os fd oc oA oT q doc pm ctv e1 e2 e3 e4 er k1 k2 k3 k4 kr tw ((iE + 1 : Nat) : Int) tp (if e = 10 then ln + 1 else ln) tl #[] n (IX I q0 x tI rest)) →
    wpAny (model prog w) (ktrTop dp un gd cn cs L a ccd [] outer) (execs body (envOf cn cs L a ccd)) (OwitFlow Qf (fun _ => False)) E { s with heap := h, toks := tk }) :
  ∀ (ds : List Nat) (k i : Nat) (tok : Str) (s' : Shared), (∀ d ∈ ds, Dig d) → tok ++ ⟨ds.toArray⟩ = W → tok.length + ds.length ≤ 10 → (∀ j (hj : j < ds.length), text.cps[i + j]? = some ds[j]) → text.cps[i + ds.length]? = some e → i + ds.length = iE → ds.length < k →
    Left h₀ L s I x q0 tI tok dx f D f1 c1 ca ct la pb os fd oc oA oT q doc pm ctv e1 e2 e3 e4 er k1 k2 k3 k4 kr tw i ln n rest s' →
    OwitRest prog w (ktrTop dp un gd cn cs L a ccd [] outer) E (envOf cn cs L a ccd) (Str.ofString "ch") body Qf I k s'
  | ds, 0, _, _, _, _, _, _, _, _, _, hk0, _ => absurd hk0 (Nat.not_lt_zero _)
  | [], k + 1, i, tok, s', hdg, hW, hlen, hat, hsep, hi, _, ⟨tt, ch, tp, tl, h, tk, es, F, N⟩ => by
    subst es
    have hW' : tok = W := by
      rw [← hW]
      apply Str.ext'
      rw [Str.cps_append]
      simp
    subst hW'
    have hi' : i = iE := by simpa using hi
    subst hi'
    refine OwitRest.succ (next_at (s := { s with heap := h, toks := tk }) B F X N T hk codeHd ok hd' hu (by simpa using hsep) n5 n6 fun t t' tl' h' tk' F' N' => ?_)
    show wpAny _ _ (storeName _ _ _) _ _ _
    refine stN F' N' (fun h₂ F₂ N₂ => ?_) hk hl
    refine wpAny_mono (last tt t t' tl' h₂ _ (fr_ext F₂ fun y => ?_) N₂) (fun fl s₂ hf => ?_) fun _ _ z => z
    · simp only [mT]; split <;> rfl
    · cases fl <;> first | exact hf | exact hf.elim
  | d :: ds, k + 1, i, tok, s', hdg, hW, hlen, hat, hsep, hi, hk1, ⟨tt, ch, tp, tl, h, tk, es, F, N⟩ => by
    subst es
    have hdd : Dig d := hdg d (.head _)
    have h10 : d ≠ 10 := by intro z; unfold Dig at hdd; omega
    have hc0 : text.cps[i]? = some d := hat 0 (by simp)
    have happ : (⟨#[d]⟩ : Str) ++ ⟨ds.toArray⟩ = ⟨(d :: ds).toArray⟩ := by
      apply Str.ext'
      rw [Str.cps_append]
      simp
    refine OwitRest.succ (next_at (s := { s with heap := h, toks := tk }) B F X N T hk codeHd ok hd' hu hc0 n5 n6 fun t t' tl' h' tk' F' N' => ?_)
    show wpAny _ _ (storeName _ _ _) _ _ _
    refine stN F' N' (fun h₂ F₂ N₂ => ?_) hk hl
    rw [if_neg h10] at N₂
    refine wpAny_mono (turn d (i + 1) tok tt t t' tl' h₂ _ hdd (by simp at hlen; omega) (fr_ext F₂ fun y => ?_) N₂) (fun fl s₂ hf => ?_) fun _ _ z => z
    · simp only [mT]; split <;> rfl
    · obtain ⟨rfl, hL⟩ := hf
      exact signs_rest B X T hk codeHd ok hd' hu n5 n6 hl turn last ds k (i + 1) (tok ++ ⟨#[d]⟩) s₂ (fun x hx => hdg x (.tail _ hx))
        (by rw [← hW, Str.append_assoc, happ]) (by simp only [Str.length_append]; simp at hlen; show tok.length + 1 + ds.length ≤ 10; omega)
        (fun j hj => by have := hat (j + 1) (by simpa using hj); rw [show i + 1 + j = i + (j + 1) from by omega]; simpa using this)
        (by rw [← hsep]; congr 1; simp; omega) (by rw [← hi]; simp; omega) (by simpa using hk1) hL
end

end
section
theorem fillL2d : PySem.Challenge.rw_pe0144_01 = PySem.Challenge.rw_pe0144_01 ∧ hd.heap_1 = hd.heap_1 := by
  w_top off
  k_fill
  exact ⟨rfl, rfl⟩
section
variable {prog : Program} {w : World} {A : Around} {E : Value → Shared → Prop} {s : Shared} {h₀ : Heap} {L : Addr} {m : Str → Option Value} {news : List (Addr × Obj)}
theorem cit_newN {q : Addr} {t : Tok} {f self : Value} {Q : Value → Shared → Prop} (F : Fr h₀ L s.heap m) (N : News h₀ L s.heap news) (hq : (q, methodObj f self) ∈ news)
    (h : ∀ I h', (∀ p ∈ news, p.1 < I) → Fr h₀ L h' m → News h₀ L h' ((I, citObj q t) :: news) → Q (.ref I) { s with heap := h' }) :
    wpAny (model prog w) A (call (.builtin "iter") [.ref q, .str (Str.ofString "") t]) Q E s :=
  cit_new (N _ hq).1 (h _ _ (fun p hp => Heap.lt_size (N p hp).1) (F.push _) (News.push F N _))
end
theorem dig_of {P : Nat → Bool} (hP : ((List.range 10).all fun i => P (48 + i)) = true) {c : Nat} (h : Dig c) : P c = true := by
  have h1 : c - 48 < 10 := Nat.sub_lt_left_of_lt_add h.1 (Nat.lt_succ_of_le h.2)
  have := List.all_eq_true.mp hP (c - 48) (List.mem_range.mpr h1)
  rwa [Nat.add_sub_cancel' h.1] at this
theorem dig_ws {c : Nat} (h : Dig c) : (Builtin.Str.occurrences (Str.ofString "\n\t\r ") { cps := #[c] } 0 (Str.ofString "\n\t\r ").length 1).isEmpty = true :=
  dig_of (P := fun c => (Builtin.Str.occurrences (Str.ofString "\n\t\r ") { cps := #[c] } 0 (Str.ofString "\n\t\r ").length 1).isEmpty) (by decide +kernel) h
theorem dig_q {c : Nat} (h : Dig c) : ((⟨#[c]⟩ : Str) == Str.ofString "\"") = false :=
  Bool.not_eq_true' _ ▸ dig_of (P := fun c => !((⟨#[c]⟩ : Str) == Str.ofString "\"")) (by decide +kernel) h
theorem dig_b {c : Nat} (h : Dig c) : ((⟨#[c]⟩ : Str) == Str.ofString "\\") = false :=
  Bool.not_eq_true' _ ▸ dig_of (P := fun c => !((⟨#[c]⟩ : Str) == Str.ofString "\\")) (by decide +kernel) h
theorem dig_ne10 {c : Nat} (h : Dig c) : c ≠ 10 := by unfold Dig at h; omega
theorem sep_ws {c : Nat} (h : c = 32 ∨ c = 10) : (Builtin.Str.occurrences (Str.ofString "\n\t\r ") { cps := #[c] } 0 (Str.ofString "\n\t\r ").length 1).isEmpty = false := by
  rcases h with rfl | rfl <;> decide +kernel
section
variable {prog : Program} {w : World} {p : Program} {loose : List Str} {mean : ExcName → Option Value} {mg mb : Str → Option Value}
  {dp un : Nat} {gd : Option (List Code)} {cn : Str} {cs : Scope} {a : Addr} {ccd : Value} {cl : List (Str × Addr)} {outer : List Env} {A₀ : Around} {base h₀ : Heap} {L : Addr} {m : Str → Option Value} {s : Shared} {Q E : Value → Shared → Prop} {rest : List (Addr × Obj)}
  {x dx f D f1 c1 ca ct la pb : Addr} {os : Array (Option Value)} {fd : FuncData} {oc oA oT : Obj} {q text : Str} {doc pm ctv : Value} {e1 e2 e3 e4 er : Int} {k1 k2 k3 k4 kr tw : Tok}
  {pos : Int} {tp : Tok} {ln : Int} {tl : Tok} {items : Array Value} {n : Nat}
theorem token_spec {i d e : Nat} {ds : List Nat}
  (B : Below A₀ base outer h₀) (F : Fr h₀ L s.heap m) (X : (hd.heap_1 w.params).In h₀)
  (N : News h₀ L s.heap (LX x dx f D f1 c1 ca ct la pb os fd oc oA oT q doc pm ctv e1 e2 e3 e4 er k1 k2 k3 k4 kr tw (i : Int) tp ln tl #[] n rest))
  (T : Top p loose mean mg mb h₀) (hk : cs.kind = .function) (codeHd : CodeHd base 90 86) (ok : LexOk x dx f D f1 c1 ca ct la pb oc oA oT q text)
  (hd' : dp + 5 < recursionLimit) (hu : un + 30 < cLine) (n5 : ∀ p ∈ rest, p.1 ≠ la) (n6 : ∀ p ∈ rest, p.1 ≠ dx) (n7 : ∀ p ∈ rest, p.1 ≠ pb) (hdd : Dig d) (hc : text.cps[i]? = some d)
  (hds : ∀ d ∈ ds, Dig d) (h10 : ds.length ≤ 8) (hat : ∀ j (hj : j < ds.length), text.cps[i + 1 + j]? = some ds[j]) (hsep : text.cps[i + 1 + ds.length]? = some e) (he : e = 32 ∨ e = 10)
  (hret : ∀ t t' tl' h' tk', Fr h₀ L h' m → News h₀ L h' (LX x dx f D f1 c1 ca ct la pb os fd oc oA oT q doc pm ctv e1 e2 e3 e4 er k1 k2 k3 k4 kr tw ((i + 1 + ds.length + 1 : Nat) : Int) t' (if e = 10 then ln + 1 else ln) tl' #[] n rest) →
    Q (.str ⟨(d :: ds).toArray⟩ t) {s with heap := h', toks := tk'}) :
  wpAny (model prog w) (ktrTop dp un gd cn cs L a ccd cl outer) (call (.ref 56) [.ref x]) Q E s := by
  have ok' := ok
  obtain ⟨⟨vs, tq, d1, d2⟩, d3, ⟨t2, d4⟩, ⟨o1, o2, o3, o4, o5, o6, o7, o8, o9⟩, hx⟩ := ok'
  refine wpAny_call ?_
  dsimp only [LX] at N
  k_dflt cell_enter
  repeat' (first | (k_unfold; (try dsimp only)) | (k_end; wrow_close) | (with_reducible (k_here; (with_reducible show wpAny _ _ (call (Value.builtin "iter") [Value.ref _, Value.str _ _]) _ _ _); k_dflt (refine' cit_newN ?k1zq5 ?k2zq5 ?k3zq5 ?_; (case k1zq5 => k_asm); (case k2zq5 => k_asm); (case k3zq5 => k_mem); k_whole; intro Izq' hzq' l1zq Fzq' Nzq'; (try k_lt l1zq); (try dsimp only); (try k_fold)))) | walk1 | (dsimp only; walk1) | (leave1; walk_say "STEP leave1"; try dsimp only) | fail "no step")
  refine owit_for ?_
  repeat' (first | (k_unfold; (try dsimp only)) | (k_end; wrow_close) | (with_reducible (k_here; (with_reducible show wpAny _ _ (call (Value.builtin "iter") [Value.ref _, Value.str _ _]) _ _ _); k_dflt (refine' cit_newN ?k1zq5 ?k2zq5 ?k3zq5 ?_; (case k1zq5 => k_asm); (case k2zq5 => k_asm); (case k3zq5 => k_mem); k_whole; intro Izq' hzq' l1zq Fzq' Nzq'; (try k_lt l1zq); (try dsimp only); (try k_fold)))) | walk1 | (dsimp only; walk1) | (leave1; walk_say "STEP leave1"; try dsimp only) | fail "no step")
  refine' cit_iter (News.get ?a1 ?a2) (OwitAt.intro (OwitRest.succ ?_))
  case a1 => k_asm
  case a2 => k_mem
  refine' next_at (i := i) (rest := rest) (os := os) (fd := fd) (doc := doc) (pm := pm) (ctv := ctv) (e1 := e1) (e2 := e2) (e3 := e3) (e4 := e4) (er := er) (k1 := k1) (k2 := k2) (k3 := k3) (k4 := k4) (kr := kr) (tw := tw) (tp := tp) (ln := ln) (tl := tl) (items := #[]) (n := n) ?b1 ?b2 ?b3 (news_mono ?b4 ?b5) ?b6 ?b7 ?b8 ok ?b9 ?b10 hc ?b11 ?b12 ?_
  case b1 => k_asm
  case b2 => k_asm
  case b3 => k_asm
  case b4 => k_asm
  case b5 => kcj_all
  case b6 => k_asm
  case b7 => exact rfl
  case b8 => k_asm
  case b9 => ktr_room
  case b10 => ktr_units
  case b11 => exact List.forall_mem_cons.mpr ⟨Nat.ne_of_gt (by dsimp only; omega), List.forall_mem_cons.mpr ⟨Nat.ne_of_gt (by dsimp only; omega), n5⟩⟩
  case b12 => exact List.forall_mem_cons.mpr ⟨Nat.ne_of_gt (by dsimp only; omega), List.forall_mem_cons.mpr ⟨Nat.ne_of_gt (by dsimp only; omega), n6⟩⟩
  intro t' t2' tl' h' tk' F' N'
  rw [if_neg (dig_ne10 hdd)] at N'
  dsimp only [OwitTurn, LX, IX] at N' ⊢
  have w1 := dig_ws hdd
  have w2 := dig_q hdd
  have w3 := dig_b hdd
  repeat' (first | (k_unfold; (try dsimp only)) | (k_end; wrow_close) | (with_reducible (k_here; (with_reducible show wpAny _ _ (call (Value.builtin "iter") [Value.ref _, Value.str _ _]) _ _ _); k_dflt (refine' cit_newN ?k1zq5 ?k2zq5 ?k3zq5 ?_; (case k1zq5 => k_asm); (case k2zq5 => k_asm); (case k3zq5 => k_mem); k_whole; intro Izq' hzq' l1zq Fzq' Nzq'; (try k_lt l1zq); (try dsimp only); (try k_fold)))) | walk1 | (dsimp only; walk1) | (leave1; walk_say "STEP leave1"; try dsimp only) | fail "no step")
  refine owit_for ?_
  repeat' (first | (k_unfold; (try dsimp only)) | (k_end; wrow_close) | (with_reducible (k_here; (with_reducible show wpAny _ _ (call (Value.builtin "iter") [Value.ref _, Value.str _ _]) _ _ _); k_dflt (refine' cit_newN ?k1zq5 ?k2zq5 ?k3zq5 ?_; (case k1zq5 => k_asm); (case k2zq5 => k_asm); (case k3zq5 => k_mem); k_whole; intro Izq' hzq' l1zq Fzq' Nzq'; (try k_lt l1zq); (try dsimp only); (try k_fold)))) | walk1 | (dsimp only; walk1) | (leave1; walk_say "STEP leave1"; try dsimp only) | fail "no step")
  refine' cit_iter (News.get ?a3 ?a4) (OwitAt.intro ?_)
  case a3 => k_asm
  case a4 => k_mem
  refine' signs_rest (e := e) (W := ⟨(d :: ds).toArray⟩) (iE := i + 1 + ds.length) (s := s) (rest := rest) (os := os) (fd := fd) (doc := doc) (pm := pm) (ctv := ctv) (e1 := e1) (e2 := e2) (e3 := e3) (e4 := e4) (er := er) (k1 := k1) (k2 := k2) (k3 := k3) (k4 := k4) (kr := kr) (tw := tw) (n := n) (ln := ln) ?c1 ?c2 ?c3 ?c4 ?c5 ok ?c6 ?c7 ?c8 ?c9 ?c10 ?turn ?last ds 64 (i + 1) ⟨#[d]⟩ _ hds ?c11 ?c12 hat hsep ?c13 ?c14 ⟨_, _, _, _, _, _, rfl, fr_ext ?c15 ?c16, news_mono ?c17 ?c18⟩
  case c17 => k_asm
  case c18 => kcj_all
  case c15 => k_asm
  case c1 => k_asm
  case c2 => k_asm
  case c3 => k_asm
  case c4 => exact rfl
  case c5 => k_asm
  case c6 => ktr_room
  case c7 => ktr_units
  case c8 => exact List.forall_mem_cons.mpr ⟨Nat.ne_of_gt (by dsimp only; omega), List.forall_mem_cons.mpr ⟨Nat.ne_of_gt (by dsimp only; omega), n5⟩⟩
  case c9 => exact List.forall_mem_cons.mpr ⟨Nat.ne_of_gt (by dsimp only; omega), List.forall_mem_cons.mpr ⟨Nat.ne_of_gt (by dsimp only; omega), n6⟩⟩
  case c10 => exact rfl
  case c11 =>
    apply Str.ext'
    rw [Str.cps_append]
    simp
  case c12 => show 1 + ds.length ≤ 10; omega
  case c13 => rfl
  case c14 => omega
  case c16 =>
    intro y
    simp only [mT]
    by_cases g1 : y = Str.ofString "ch"
    · subst g1; rfl
    by_cases g2 : y = Str.ofString "fiter"
    · subst g2; rfl
    by_cases g3 : y = Str.ofString "token"
    · subst g3; rfl
    by_cases g4 : y = Str.ofString "self"
    · subst g4; rfl
    have g4' : (y == Str.ofString "self") = false := by simpa using g4
    simp only [g1, g2, g3, g4, if_false]
    first
      | (simp [List.lookup, g4']; done)
  case turn =>
    intro c2 i2 tok2 tt2 tc2 tp2 tl2 h2 tk2 hdc htl F2 N2
    have w1 := dig_ws hdc
    have w2 := dig_q hdc
    have w3 := dig_b hdc
    dsimp only [LX, IX] at N2
    delta mT at F2
    (try dsimp only at F2)
    repeat' (first | (k_unfold; (try dsimp only)) | (k_end; wrow_close) | (with_reducible (k_here; (with_reducible show wpAny _ _ (call (Value.builtin "iter") [Value.ref _, Value.str _ _]) _ _ _); k_dflt (refine' cit_newN ?k1zq5 ?k2zq5 ?k3zq5 ?_; (case k1zq5 => k_asm); (case k2zq5 => k_asm); (case k3zq5 => k_mem); k_whole; intro Izq' hzq' l1zq Fzq' Nzq'; (try k_lt l1zq); (try dsimp only); (try k_fold)))) | walk1 | (dsimp only; walk1) | (leave1; walk_say "STEP leave1"; try dsimp only) | fail "no step")
    refine' ⟨_, _, _, _, _, _, rfl, fr_ext ?q1 ?q2, news_mono ?q3 ?q4⟩
    case q3 => k_asm
    case q4 => kcj_all
    case q1 => k_asm
    case q2 =>
      intro y
      simp only [mT]
      by_cases g1 : y = Str.ofString "ch"
      · subst g1; rfl
      by_cases g2 : y = Str.ofString "fiter"
      · subst g2; rfl
      by_cases g3 : y = Str.ofString "token"
      · subst g3; rfl
      simp only [g1, g2, g3, if_false]
  case last =>
    intro tt2 tc2 tp2 tl2 h2 tk2 F2 N2
    dsimp only [LX, IX] at N2
    delta mT at F2
    (try dsimp only at F2)
    have w1 := sep_ws he
    repeat' (first | (k_unfold; (try dsimp only)) | (k_end; wrow_close) | (with_reducible (k_here; (with_reducible show wpAny _ _ (call (Value.builtin "iter") [Value.ref _, Value.str _ _]) _ _ _); k_dflt (refine' cit_newN ?k1zq5 ?k2zq5 ?k3zq5 ?_; (case k1zq5 => k_asm); (case k2zq5 => k_asm); (case k3zq5 => k_mem); k_whole; intro Izq' hzq' l1zq Fzq' Nzq'; (try k_lt l1zq); (try dsimp only); (try k_fold)))) | walk1 | (dsimp only; walk1) | (leave1; walk_say "STEP leave1"; try dsimp only) | fail "no step")
    refine' hret _ _ _ _ _ ?q1 (news_mono ?q2 ?q3)
    case q1 => assumption
    case q2 => assumption
    case q3 => kcj_all
end

end
section
theorem fillL2e : PySem.Challenge.rw_pe0144_01 = PySem.Challenge.rw_pe0144_01 ∧ hd.heap_1 = hd.heap_1 := by
  w_top off
  k_fill
  exact ⟨rfl, rfl⟩
theorem quo_ws {c : Nat} (h : c = 34) : (Builtin.Str.occurrences (Str.ofString "\n\t\r ") { cps := #[c] } 0 (Str.ofString "\n\t\r ").length 1).isEmpty = true := by subst h; decide +kernel
theorem quo_q {c : Nat} (h : c = 34) : ((⟨#[c]⟩ : Str) == Str.ofString "\"") = true := by subst h; decide +kernel
theorem quo_n {c : Nat} (h : c = 34) : c ≠ 10 := by subst h; decide
section
variable {prog : Program} {w : World} {p : Program} {loose : List Str} {mean : ExcName → Option Value} {mg mb : Str → Option Value}
  {dp un : Nat} {gd : Option (List Code)} {cn : Str} {cs : Scope} {a : Addr} {ccd : Value} {cl : List (Str × Addr)} {outer : List Env} {A₀ : Around} {base h₀ : Heap} {L : Addr} {m : Str → Option Value} {s : Shared} {Q E : Value → Shared → Prop} {rest : List (Addr × Obj)}
  {x dx f D f1 c1 ca ct la pb : Addr} {os : Array (Option Value)} {fd : FuncData} {oc oA oT : Obj} {q text : Str} {doc pm ctv : Value} {e1 e2 e3 e4 er : Int} {k1 k2 k3 k4 kr tw : Tok}
  {pos : Int} {tp : Tok} {ln : Int} {tl : Tok} {items : Array Value} {n : Nat}
theorem quoted_spec {i c : Nat} {ds : List Nat}
  (B : Below A₀ base outer h₀) (F : Fr h₀ L s.heap m) (X : (hd.heap_1 w.params).In h₀)
  (N : News h₀ L s.heap (LX x dx f D f1 c1 ca ct la pb os fd oc oA oT q doc pm ctv e1 e2 e3 e4 er k1 k2 k3 k4 kr tw (i : Int) tp ln tl #[] n rest))
  (T : Top p loose mean mg mb h₀) (hk : cs.kind = .function) (codeHd : CodeHd base 90 86) (ok : LexOk x dx f D f1 c1 ca ct la pb oc oA oT q text)
  (hd' : dp + 5 < recursionLimit) (hu : un + 30 < cLine) (n5 : ∀ p ∈ rest, p.1 ≠ la) (n6 : ∀ p ∈ rest, p.1 ≠ dx) (n7 : ∀ p ∈ rest, p.1 ≠ pb) (hc : text.cps[i]? = some c)
  (hds : ∀ d ∈ ds, Dig d) (h10 : ds.length ≤ 8) (hat : ∀ j (hj : j < ds.length), text.cps[i + 1 + j]? = some ds[j]) (hsep : text.cps[i + 1 + ds.length]? = some c) (he : c = 34)
  (hret : ∀ t t' tl' h' tk', Fr h₀ L h' m → News h₀ L h' (LX x dx f D f1 c1 ca ct la pb os fd oc oA oT q doc pm ctv e1 e2 e3 e4 er k1 k2 k3 k4 kr tw ((i + 1 + ds.length + 1 : Nat) : Int) t' ln tl' #[] n rest) →
    Q (.str ⟨ds.toArray⟩ t) {s with heap := h', toks := tk'}) :
  wpAny (model prog w) (ktrTop dp un gd cn cs L a ccd cl outer) (call (.ref 56) [.ref x]) Q E s := by
  have ok' := ok
  obtain ⟨⟨vs, tq, d1, d2⟩, d3, ⟨t2, d4⟩, ⟨o1, o2, o3, o4, o5, o6, o7, o8, o9⟩, hx⟩ := ok'
  refine wpAny_call ?_
  dsimp only [LX] at N
  k_dflt cell_enter
  repeat' (first | (k_unfold; (try dsimp only)) | (k_end; wrow_close) | (with_reducible (k_here; (with_reducible show wpAny _ _ (call (Value.builtin "iter") [Value.ref _, Value.str _ _]) _ _ _); k_dflt (refine' cit_newN ?k1zq6 ?k2zq6 ?k3zq6 ?_; (case k1zq6 => k_asm); (case k2zq6 => k_asm); (case k3zq6 => k_mem); k_whole; intro Izq' hzq' l1zq Fzq' Nzq'; (try k_lt l1zq); (try dsimp only); (try k_fold)))) | walk1 | (dsimp only; walk1) | (leave1; walk_say "STEP leave1"; try dsimp only) | fail "no step")
  refine owit_for ?_
  repeat' (first | (k_unfold; (try dsimp only)) | (k_end; wrow_close) | (with_reducible (k_here; (with_reducible show wpAny _ _ (call (Value.builtin "iter") [Value.ref _, Value.str _ _]) _ _ _); k_dflt (refine' cit_newN ?k1zq6 ?k2zq6 ?k3zq6 ?_; (case k1zq6 => k_asm); (case k2zq6 => k_asm); (case k3zq6 => k_mem); k_whole; intro Izq' hzq' l1zq Fzq' Nzq'; (try k_lt l1zq); (try dsimp only); (try k_fold)))) | walk1 | (dsimp only; walk1) | (leave1; walk_say "STEP leave1"; try dsimp only) | fail "no step")
  refine' cit_iter (News.get ?a1 ?a2) (OwitAt.intro (OwitRest.succ ?_))
  case a1 => k_asm
  case a2 => k_mem
  refine' next_at (i := i) (rest := rest) (os := os) (fd := fd) (doc := doc) (pm := pm) (ctv := ctv) (e1 := e1) (e2 := e2) (e3 := e3) (e4 := e4) (er := er) (k1 := k1) (k2 := k2) (k3 := k3) (k4 := k4) (kr := kr) (tw := tw) (tp := tp) (ln := ln) (tl := tl) (items := #[]) (n := n) ?b1 ?b2 ?b3 (news_mono ?b4 ?b5) ?b6 ?b7 ?b8 ok ?b9 ?b10 hc ?b11 ?b12 ?_
  case b1 => k_asm
  case b2 => k_asm
  case b3 => k_asm
  case b4 => k_asm
  case b5 => kcj_all
  case b6 => k_asm
  case b7 => exact rfl
  case b8 => k_asm
  case b9 => ktr_room
  case b10 => ktr_units
  case b11 => exact List.forall_mem_cons.mpr ⟨Nat.ne_of_gt (by dsimp only; omega), List.forall_mem_cons.mpr ⟨Nat.ne_of_gt (by dsimp only; omega), n5⟩⟩
  case b12 => exact List.forall_mem_cons.mpr ⟨Nat.ne_of_gt (by dsimp only; omega), List.forall_mem_cons.mpr ⟨Nat.ne_of_gt (by dsimp only; omega), n6⟩⟩
  intro t' t2' tl' h' tk' F' N'
  rw [if_neg (quo_n he)] at N'
  dsimp only [OwitTurn, LX, IX] at N' ⊢
  have w1 := quo_ws he
  have w2 := quo_q he
  repeat' (first | (k_unfold; (try dsimp only)) | (k_end; wrow_close) | (with_reducible (k_here; (with_reducible show wpAny _ _ (call (Value.builtin "iter") [Value.ref _, Value.str _ _]) _ _ _); k_dflt (refine' cit_newN ?k1zq6 ?k2zq6 ?k3zq6 ?_; (case k1zq6 => k_asm); (case k2zq6 => k_asm); (case k3zq6 => k_mem); k_whole; intro Izq' hzq' l1zq Fzq' Nzq'; (try k_lt l1zq); (try dsimp only); (try k_fold)))) | walk1 | (dsimp only; walk1) | (leave1; walk_say "STEP leave1"; try dsimp only) | fail "no step")
  refine owit_for ?_
  repeat' (first | (k_unfold; (try dsimp only)) | (k_end; wrow_close) | (with_reducible (k_here; (with_reducible show wpAny _ _ (call (Value.builtin "iter") [Value.ref _, Value.str _ _]) _ _ _); k_dflt (refine' cit_newN ?k1zq6 ?k2zq6 ?k3zq6 ?_; (case k1zq6 => k_asm); (case k2zq6 => k_asm); (case k3zq6 => k_mem); k_whole; intro Izq' hzq' l1zq Fzq' Nzq'; (try k_lt l1zq); (try dsimp only); (try k_fold)))) | walk1 | (dsimp only; walk1) | (leave1; walk_say "STEP leave1"; try dsimp only) | fail "no step")
  refine' cit_iter (News.get ?a3 ?a4) (OwitAt.intro ?_)
  case a3 => k_asm
  case a4 => k_mem
  refine' signs_rest (e := c) (W := ⟨ds.toArray⟩) (iE := i + 1 + ds.length) (s := s) (rest := rest) (os := os) (fd := fd) (doc := doc) (pm := pm) (ctv := ctv) (e1 := e1) (e2 := e2) (e3 := e3) (e4 := e4) (er := er) (k1 := k1) (k2 := k2) (k3 := k3) (k4 := k4) (kr := kr) (tw := tw) (n := n) (ln := ln) ?c1 ?c2 ?c3 ?c4 ?c5 ok ?c6 ?c7 ?c8 ?c9 ?c10 ?turn ?last ds 64 (i + 1) (Str.ofString "") _ hds ?c11 ?c12 hat hsep ?c13 ?c14 ⟨_, _, _, _, _, _, rfl, fr_ext ?c15 ?c16, news_mono ?c17 ?c18⟩
  case c17 => k_asm
  case c18 => kcj_all
  case c15 => k_asm
  case c1 => k_asm
  case c2 => k_asm
  case c3 => k_asm
  case c4 => exact rfl
  case c5 => k_asm
  case c6 => ktr_room
  case c7 => ktr_units
  case c8 => exact List.forall_mem_cons.mpr ⟨Nat.ne_of_gt (by dsimp only; omega), List.forall_mem_cons.mpr ⟨Nat.ne_of_gt (by dsimp only; omega), n5⟩⟩
  case c9 => exact List.forall_mem_cons.mpr ⟨Nat.ne_of_gt (by dsimp only; omega), List.forall_mem_cons.mpr ⟨Nat.ne_of_gt (by dsimp only; omega), n6⟩⟩
  case c10 => exact rfl
  case c11 =>
    apply Str.ext'
    rw [Str.cps_append]
    simp
    rfl
  case c12 => show 0 + ds.length ≤ 10; omega
  case c13 => rfl
  case c14 => omega
  case c16 =>
    intro y
    simp only [mT]
    by_cases g1 : y = Str.ofString "ch"
    · subst g1; rfl
    by_cases g2 : y = Str.ofString "fiter"
    · subst g2; rfl
    by_cases g3 : y = Str.ofString "token"
    · subst g3; rfl
    by_cases g4 : y = Str.ofString "self"
    · subst g4; rfl
    have g4' : (y == Str.ofString "self") = false := by simpa using g4
    simp only [g1, g2, g3, g4, if_false]
    first
      | (simp [List.lookup, g4']; done)
  case turn =>
    intro c2 i2 tok2 tt2 tc2 tp2 tl2 h2 tk2 hdc htl F2 N2
    have w1 := dig_ws hdc
    have w2 := dig_q hdc
    have w3 := dig_b hdc
    dsimp only [LX, IX] at N2
    delta mT at F2
    (try dsimp only at F2)
    repeat' (first | (k_unfold; (try dsimp only)) | (k_end; wrow_close) | (with_reducible (k_here; (with_reducible show wpAny _ _ (call (Value.builtin "iter") [Value.ref _, Value.str _ _]) _ _ _); k_dflt (refine' cit_newN ?k1zq6 ?k2zq6 ?k3zq6 ?_; (case k1zq6 => k_asm); (case k2zq6 => k_asm); (case k3zq6 => k_mem); k_whole; intro Izq' hzq' l1zq Fzq' Nzq'; (try k_lt l1zq); (try dsimp only); (try k_fold)))) | walk1 | (dsimp only; walk1) | (leave1; walk_say "STEP leave1"; try dsimp only) | fail "no step")
    refine' ⟨_, _, _, _, _, _, rfl, fr_ext ?q1 ?q2, news_mono ?q3 ?q4⟩
    case q3 => k_asm
    case q4 => kcj_all
    case q1 => k_asm
    case q2 =>
      intro y
      simp only [mT]
      by_cases g1 : y = Str.ofString "ch"
      · subst g1; rfl
      by_cases g2 : y = Str.ofString "fiter"
      · subst g2; rfl
      by_cases g3 : y = Str.ofString "token"
      · subst g3; rfl
      simp only [g1, g2, g3, if_false]
  case last =>
    intro tt2 tc2 tp2 tl2 h2 tk2 F2 N2
    rw [if_neg (quo_n he)] at N2
    dsimp only [LX, IX] at N2
    delta mT at F2
    (try dsimp only at F2)
    have w1 := quo_q he
    repeat' (first | (k_unfold; (try dsimp only)) | (k_end; wrow_close) | (with_reducible (k_here; (with_reducible show wpAny _ _ (call (Value.builtin "iter") [Value.ref _, Value.str _ _]) _ _ _); k_dflt (refine' cit_newN ?k1zq6 ?k2zq6 ?k3zq6 ?_; (case k1zq6 => k_asm); (case k2zq6 => k_asm); (case k3zq6 => k_mem); k_whole; intro Izq' hzq' l1zq Fzq' Nzq'; (try k_lt l1zq); (try dsimp only); (try k_fold)))) | walk1 | (dsimp only; walk1) | (leave1; walk_say "STEP leave1"; try dsimp only) | fail "no step")
    refine' hret _ _ _ _ _ ?q1 (news_mono ?q2 ?q3)
    case q1 => assumption
    case q2 => assumption
    case q3 => kcj_all
end

end
section
theorem fillL2f : PySem.Challenge.rw_pe0144_01 = PySem.Challenge.rw_pe0144_01 ∧ hd.heap_1 = hd.heap_1 := by
  w_top off
  k_fill
  exact ⟨rfl, rfl⟩
theorem bs_ws {c : Nat} (h : c = 92) : (Builtin.Str.occurrences (Str.ofString "\n\t\r ") { cps := #[c] } 0 (Str.ofString "\n\t\r ").length 1).isEmpty = true := by subst h; decide +kernel
theorem bs_q {c : Nat} (h : c = 92) : ((⟨#[c]⟩ : Str) == Str.ofString "\"") = false := by subst h; decide +kernel
theorem bs_b {c : Nat} (h : c = 92) : ((⟨#[c]⟩ : Str) == Str.ofString "\\") = true := by subst h; decide +kernel
theorem bs_n {c : Nat} (h : c = 92) : c ≠ 10 := by subst h; decide
section
variable {prog : Program} {w : World} {p : Program} {loose : List Str} {mean : ExcName → Option Value} {mg mb : Str → Option Value}
  {dp un : Nat} {gd : Option (List Code)} {cn : Str} {cs : Scope} {a : Addr} {ccd : Value} {cl : List (Str × Addr)} {outer : List Env} {A₀ : Around} {base h₀ : Heap} {L : Addr} {m : Str → Option Value} {s : Shared} {Q E : Value → Shared → Prop} {rest : List (Addr × Obj)}
  {x dx f D f1 c1 ca ct la pb : Addr} {os : Array (Option Value)} {fd : FuncData} {oc oA oT : Obj} {q text : Str} {doc pm ctv : Value} {e1 e2 e3 e4 er : Int} {k1 k2 k3 k4 kr tw : Tok}
  {pos : Int} {tp : Tok} {ln : Int} {tl : Tok} {items : Array Value} {n : Nat}
theorem slash_spec {i c d e : Nat} {ds : List Nat}
  (B : Below A₀ base outer h₀) (F : Fr h₀ L s.heap m) (X : (hd.heap_1 w.params).In h₀)
  (N : News h₀ L s.heap (LX x dx f D f1 c1 ca ct la pb os fd oc oA oT q doc pm ctv e1 e2 e3 e4 er k1 k2 k3 k4 kr tw (i : Int) tp ln tl #[] n rest))
  (T : Top p loose mean mg mb h₀) (hk : cs.kind = .function) (codeHd : CodeHd base 90 86) (ok : LexOk x dx f D f1 c1 ca ct la pb oc oA oT q text)
  (hd' : dp + 5 < recursionLimit) (hu : un + 30 < cLine) (n5 : ∀ p ∈ rest, p.1 ≠ la) (n6 : ∀ p ∈ rest, p.1 ≠ dx) (n7 : ∀ p ∈ rest, p.1 ≠ pb) (hc : text.cps[i]? = some c) (hcc : c = 92) (hdd : Dig d) (hc2 : text.cps[i + 1]? = some d)
  (hds : ∀ d ∈ ds, Dig d) (h10 : ds.length ≤ 8) (hat : ∀ j (hj : j < ds.length), text.cps[i + 1 + 1 + j]? = some ds[j]) (hsep : text.cps[i + 1 + 1 + ds.length]? = some e) (he : e = 32 ∨ e = 10)
  (hret : ∀ t t' tl' h' tk', Fr h₀ L h' m → News h₀ L h' (LX x dx f D f1 c1 ca ct la pb os fd oc oA oT q doc pm ctv e1 e2 e3 e4 er k1 k2 k3 k4 kr tw ((i + 1 + 1 + ds.length + 1 : Nat) : Int) t' (if e = 10 then ln + 1 else ln) tl' #[] n rest) →
    Q (.str ⟨(d :: ds).toArray⟩ t) {s with heap := h', toks := tk'}) :
  wpAny (model prog w) (ktrTop dp un gd cn cs L a ccd cl outer) (call (.ref 56) [.ref x]) Q E s := by
  have ok' := ok
  obtain ⟨⟨vs, tq, d1, d2⟩, d3, ⟨t2, d4⟩, ⟨o1, o2, o3, o4, o5, o6, o7, o8, o9⟩, hx⟩ := ok'
  refine wpAny_call ?_
  dsimp only [LX] at N
  k_dflt cell_enter
  repeat' (first | (k_unfold; (try dsimp only)) | (k_end; wrow_close) | (with_reducible (k_here; (with_reducible show wpAny _ _ (call (Value.builtin "iter") [Value.ref _, Value.str _ _]) _ _ _); k_dflt (refine' cit_newN ?k1zq7 ?k2zq7 ?k3zq7 ?_; (case k1zq7 => k_asm); (case k2zq7 => k_asm); (case k3zq7 => k_mem); k_whole; intro Izq' hzq' l1zq Fzq' Nzq'; (try k_lt l1zq); (try dsimp only); (try k_fold)))) | walk1 | (dsimp only; walk1) | (leave1; walk_say "STEP leave1"; try dsimp only) | fail "no step")
  refine owit_for ?_
  repeat' (first | (k_unfold; (try dsimp only)) | (k_end; wrow_close) | (with_reducible (k_here; (with_reducible show wpAny _ _ (call (Value.builtin "iter") [Value.ref _, Value.str _ _]) _ _ _); k_dflt (refine' cit_newN ?k1zq7 ?k2zq7 ?k3zq7 ?_; (case k1zq7 => k_asm); (case k2zq7 => k_asm); (case k3zq7 => k_mem); k_whole; intro Izq' hzq' l1zq Fzq' Nzq'; (try k_lt l1zq); (try dsimp only); (try k_fold)))) | walk1 | (dsimp only; walk1) | (leave1; walk_say "STEP leave1"; try dsimp only) | fail "no step")
  refine' cit_iter (News.get ?a1 ?a2) (OwitAt.intro (OwitRest.succ ?_))
  case a1 => k_asm
  case a2 => k_mem
  refine' next_at (i := i) (rest := rest) (os := os) (fd := fd) (doc := doc) (pm := pm) (ctv := ctv) (e1 := e1) (e2 := e2) (e3 := e3) (e4 := e4) (er := er) (k1 := k1) (k2 := k2) (k3 := k3) (k4 := k4) (kr := kr) (tw := tw) (tp := tp) (ln := ln) (tl := tl) (items := #[]) (n := n) ?b1 ?b2 ?b3 (news_mono ?b4 ?b5) ?b6 ?b7 ?b8 ok ?b9 ?b10 hc ?b11 ?b12 ?_
  case b1 => k_asm
  case b2 => k_asm
  case b3 => k_asm
  case b4 => k_asm
  case b5 => kcj_all
  case b6 => k_asm
  case b7 => exact rfl
  case b8 => k_asm
  case b9 => ktr_room
  case b10 => ktr_units
  case b11 => exact List.forall_mem_cons.mpr ⟨Nat.ne_of_gt (by dsimp only; omega), List.forall_mem_cons.mpr ⟨Nat.ne_of_gt (by dsimp only; omega), n5⟩⟩
  case b12 => exact List.forall_mem_cons.mpr ⟨Nat.ne_of_gt (by dsimp only; omega), List.forall_mem_cons.mpr ⟨Nat.ne_of_gt (by dsimp only; omega), n6⟩⟩
  intro t' t2' tl' h' tk' F' N'
  rw [if_neg (bs_n hcc)] at N'
  dsimp only [OwitTurn, LX, IX] at N' ⊢
  have w1 := bs_ws hcc
  have w2 := bs_q hcc
  have w3 := bs_b hcc
  repeat' (first | (k_unfold; (try dsimp only)) | (k_end; wrow_close) | (with_reducible (k_here; (with_reducible show wpAny _ _ (call (Value.builtin "iter") [Value.ref _, Value.str _ _]) _ _ _); k_dflt (refine' cit_newN ?k1zq7 ?k2zq7 ?k3zq7 ?_; (case k1zq7 => k_asm); (case k2zq7 => k_asm); (case k3zq7 => k_mem); k_whole; intro Izq' hzq' l1zq Fzq' Nzq'; (try k_lt l1zq); (try dsimp only); (try k_fold)))) | walk1 | (dsimp only; walk1) | (leave1; walk_say "STEP leave1"; try dsimp only) | fail "no step")
  refine wpAny_call ?_
  refine' char_at (i := i + 1) (c := d) (text := text) ?b1 ?b2 ?b3 ?b4 ?b6 ?b7 ?b8 ok ?b9 ?b10 hc2 ?b11 ?b12 ?_
  case b4 => assumption
  case b1 => k_asm
  case b2 => k_asm
  case b3 => k_asm
  case b6 => k_asm
  case b7 => exact rfl
  case b8 => k_asm
  case b9 => ktr_room
  case b10 => ktr_units
  case b11 => exact List.forall_mem_cons.mpr ⟨Nat.ne_of_gt (by dsimp only; omega), List.forall_mem_cons.mpr ⟨Nat.ne_of_gt (by dsimp only; omega), n5⟩⟩
  case b12 => exact List.forall_mem_cons.mpr ⟨Nat.ne_of_gt (by dsimp only; omega), List.forall_mem_cons.mpr ⟨Nat.ne_of_gt (by dsimp only; omega), n6⟩⟩
  intro t5' t6' tl3' h5' tk5' F5' N5'
  rw [if_neg (dig_ne10 hdd)] at N5'
  dsimp only [LX, IX] at N5' ⊢
  repeat' (first | (k_unfold; (try dsimp only)) | (k_end; wrow_close) | (with_reducible (k_here; (with_reducible show wpAny _ _ (call (Value.builtin "iter") [Value.ref _, Value.str _ _]) _ _ _); k_dflt (refine' cit_newN ?k1zq7 ?k2zq7 ?k3zq7 ?_; (case k1zq7 => k_asm); (case k2zq7 => k_asm); (case k3zq7 => k_mem); k_whole; intro Izq' hzq' l1zq Fzq' Nzq'; (try k_lt l1zq); (try dsimp only); (try k_fold)))) | walk1 | (dsimp only; walk1) | (leave1; walk_say "STEP leave1"; try dsimp only) | fail "no step")
  refine owit_for ?_
  repeat' (first | (k_unfold; (try dsimp only)) | (k_end; wrow_close) | (with_reducible (k_here; (with_reducible show wpAny _ _ (call (Value.builtin "iter") [Value.ref _, Value.str _ _]) _ _ _); k_dflt (refine' cit_newN ?k1zq7 ?k2zq7 ?k3zq7 ?_; (case k1zq7 => k_asm); (case k2zq7 => k_asm); (case k3zq7 => k_mem); k_whole; intro Izq' hzq' l1zq Fzq' Nzq'; (try k_lt l1zq); (try dsimp only); (try k_fold)))) | walk1 | (dsimp only; walk1) | (leave1; walk_say "STEP leave1"; try dsimp only) | fail "no step")
  refine' cit_iter (News.get ?a3 ?a4) (OwitAt.intro ?_)
  case a3 => k_asm
  case a4 => k_mem
  refine' signs_rest (e := e) (W := ⟨(d :: ds).toArray⟩) (iE := i + 1 + 1 + ds.length) (s := s) (rest := rest) (os := os) (fd := fd) (doc := doc) (pm := pm) (ctv := ctv) (e1 := e1) (e2 := e2) (e3 := e3) (e4 := e4) (er := er) (k1 := k1) (k2 := k2) (k3 := k3) (k4 := k4) (kr := kr) (tw := tw) (n := n) (ln := ln) ?c1 ?c2 ?c3 ?c4 ?c5 ok ?c6 ?c7 ?c8 ?c9 ?c10 ?turn ?last ds 64 (i + 1 + 1) ⟨#[d]⟩ _ hds ?c11 ?c12 hat hsep ?c13 ?c14 ⟨_, _, _, _, _, _, rfl, fr_ext ?c15 ?c16, news_mono ?c17 ?c18⟩
  case c17 => k_asm
  case c18 => kcj_all
  case c15 => k_asm
  case c1 => k_asm
  case c2 => k_asm
  case c3 => k_asm
  case c4 => exact rfl
  case c5 => k_asm
  case c6 => ktr_room
  case c7 => ktr_units
  case c8 => exact List.forall_mem_cons.mpr ⟨Nat.ne_of_gt (by dsimp only; omega), List.forall_mem_cons.mpr ⟨Nat.ne_of_gt (by dsimp only; omega), n5⟩⟩
  case c9 => exact List.forall_mem_cons.mpr ⟨Nat.ne_of_gt (by dsimp only; omega), List.forall_mem_cons.mpr ⟨Nat.ne_of_gt (by dsimp only; omega), n6⟩⟩
  case c10 => exact rfl
  case c11 =>
    apply Str.ext'
    rw [Str.cps_append]
    simp
  case c12 => show 1 + ds.length ≤ 10; omega
  case c13 => rfl
  case c14 => omega
  case c16 =>
    intro y
    simp only [mT]
    by_cases g1 : y = Str.ofString "ch"
    · subst g1; rfl
    by_cases g2 : y = Str.ofString "fiter"
    · subst g2; rfl
    by_cases g3 : y = Str.ofString "token"
    · subst g3; rfl
    by_cases g4 : y = Str.ofString "self"
    · subst g4; rfl
    have g4' : (y == Str.ofString "self") = false := by simpa using g4
    simp only [g1, g2, g3, g4, if_false]
    first
      | (simp [List.lookup, g4']; done)
  case turn =>
    intro c2 i2 tok2 tt2 tc2 tp2 tl2 h2 tk2 hdc htl F2 N2
    have w1 := dig_ws hdc
    have w2 := dig_q hdc
    have w3 := dig_b hdc
    dsimp only [LX, IX] at N2
    delta mT at F2
    (try dsimp only at F2)
    repeat' (first | (k_unfold; (try dsimp only)) | (k_end; wrow_close) | (with_reducible (k_here; (with_reducible show wpAny _ _ (call (Value.builtin "iter") [Value.ref _, Value.str _ _]) _ _ _); k_dflt (refine' cit_newN ?k1zq7 ?k2zq7 ?k3zq7 ?_; (case k1zq7 => k_asm); (case k2zq7 => k_asm); (case k3zq7 => k_mem); k_whole; intro Izq' hzq' l1zq Fzq' Nzq'; (try k_lt l1zq); (try dsimp only); (try k_fold)))) | walk1 | (dsimp only; walk1) | (leave1; walk_say "STEP leave1"; try dsimp only) | fail "no step")
    refine' ⟨_, _, _, _, _, _, rfl, fr_ext ?q1 ?q2, news_mono ?q3 ?q4⟩
    case q3 => k_asm
    case q4 => kcj_all
    case q1 => k_asm
    case q2 =>
      intro y
      simp only [mT]
      by_cases g1 : y = Str.ofString "ch"
      · subst g1; rfl
      by_cases g2 : y = Str.ofString "fiter"
      · subst g2; rfl
      by_cases g3 : y = Str.ofString "token"
      · subst g3; rfl
      simp only [g1, g2, g3, if_false]
  case last =>
    intro tt2 tc2 tp2 tl2 h2 tk2 F2 N2
    dsimp only [LX, IX] at N2
    delta mT at F2
    (try dsimp only at F2)
    have w1 := sep_ws he
    repeat' (first | (k_unfold; (try dsimp only)) | (k_end; wrow_close) | (with_reducible (k_here; (with_reducible show wpAny _ _ (call (Value.builtin "iter") [Value.ref _, Value.str _ _]) _ _ _); k_dflt (refine' cit_newN ?k1zq7 ?k2zq7 ?k3zq7 ?_; (case k1zq7 => k_asm); (case k2zq7 => k_asm); (case k3zq7 => k_mem); k_whole; intro Izq' hzq' l1zq Fzq' Nzq'; (try k_lt l1zq); (try dsimp only); (try k_fold)))) | walk1 | (dsimp only; walk1) | (leave1; walk_say "STEP leave1"; try dsimp only) | fail "no step")
    refine' hret _ _ _ _ _ ?q1 (news_mono ?q2 ?q3)
    case q1 => assumption
    case q2 => assumption
    case q3 => kcj_all
end

end
section
theorem fillL2g : PySem.Challenge.rw_pe0144_01 = PySem.Challenge.rw_pe0144_01 ∧ hd.heap_1 = hd.heap_1 := by
  w_top off
  k_fill
  exact ⟨rfl, rfl⟩
theorem all_tail {f : Addr} {r : List (Addr × Obj)} {p1 p2 p3 p4 p5 p6 p7 p8 p9 p10 p11 : Prop} (h : p1 ∧ p2 ∧ p3 ∧ p4 ∧ p5 ∧ p6 ∧ p7 ∧ p8 ∧ p9 ∧ p10 ∧ p11 ∧ AllLt f r) : AllLt f r := h.2.2.2.2.2.2.2.2.2.2.2
theorem news_frame {h₀ h : Heap} {L I : Addr} {o : Obj} {l : List (Addr × Obj)} (N : News h₀ L h l) (m : (I, o) ∈ l) : I ≠ L := (N _ m).2.1
theorem news_fresh {h₀ h : Heap} {L I : Addr} {o : Obj} {l : List (Addr × Obj)} (N : News h₀ L h l) (m : (I, o) ∈ l) : h₀.get? I = none := (N _ m).2.2
section
variable {prog : Program} {w : World} {p : Program} {loose : List Str} {mean : ExcName → Option Value} {mg mb : Str → Option Value}
  {dp un : Nat} {gd : Option (List Code)} {cn : Str} {cs : Scope} {a : Addr} {ccd : Value} {cl : List (Str × Addr)} {outer : List Env} {A₀ : Around} {base h₀ : Heap} {L : Addr} {m : Str → Option Value} {s : Shared} {Q E : Value → Shared → Prop} {rest : List (Addr × Obj)}
  {x dx f D f1 c1 ca ct la pb : Addr} {os : Array (Option Value)} {fd : FuncData} {oc oA oT : Obj} {q text : Str} {doc pm ctv : Value} {e1 e2 e3 e4 er : Int} {k1 k2 k3 k4 kr tw : Tok}
  {pos : Int} {tp : Tok} {ln : Int} {tl : Tok} {items : Array Value} {n : Nat}
theorem end_spec
  (B : Below A₀ base outer h₀) (F : Fr h₀ L s.heap m) (X : (hd.heap_1 w.params).In h₀)
  (N : News h₀ L s.heap (LX x dx f D f1 c1 ca ct la pb os fd oc oA oT q doc pm ctv e1 e2 e3 e4 er k1 k2 k3 k4 kr tw (text.length : Int) tp ln tl #[] n rest))
  (T : Top p loose mean mg mb h₀) (hk : cs.kind = .function) (codeHd : CodeHd base 90 86) (ok : LexOk x dx f D f1 c1 ca ct la pb oc oA oT q text)
  (hd' : dp + 5 < recursionLimit) (hu : un + 30 < cLine) (n5 : ∀ p ∈ rest, p.1 ≠ la) (n6 : ∀ p ∈ rest, p.1 ≠ dx) (n7 : ∀ p ∈ rest, p.1 ≠ pb)
  (hret : ∀ t t' tl' h' tk', Fr h₀ L h' m → News h₀ L h' (LX x dx f D f1 c1 ca ct la pb os fd oc oA oT q doc pm ctv e1 e2 e3 e4 er k1 k2 k3 k4 kr tw (text.length : Int) t' ln tl' #[] n rest) →
    Q (.str (Str.ofString "") t) {s with heap := h', toks := tk'}) :
  wpAny (model prog w) (ktrTop dp un gd cn cs L a ccd cl outer) (call (.ref 56) [.ref x]) Q E s := by
  have ok' := ok
  obtain ⟨⟨vs, tq, d1, d2⟩, d3, ⟨t2, d4⟩, ⟨o1, o2, o3, o4, o5, o6, o7, o8, o9⟩, hx⟩ := ok'
  refine wpAny_call ?_
  dsimp only [LX] at N
  k_dflt cell_enter
  repeat' (first | (k_unfold; (try dsimp only)) | (k_end; wrow_close) | (with_reducible (k_here; (with_reducible show wpAny _ _ (call (Value.builtin "iter") [Value.ref _, Value.str _ _]) _ _ _); k_dflt (refine' cit_newN ?k1zq8 ?k2zq8 ?k3zq8 ?_; (case k1zq8 => k_asm); (case k2zq8 => k_asm); (case k3zq8 => k_mem); k_whole; intro Izq' hzq' l1zq Fzq' Nzq'; (try k_lt l1zq); (try dsimp only); (try k_fold)))) | walk1 | (dsimp only; walk1) | (leave1; walk_say "STEP leave1"; try dsimp only) | fail "no step")
  refine owit_for ?_
  repeat' (first | (k_unfold; (try dsimp only)) | (k_end; wrow_close) | (with_reducible (k_here; (with_reducible show wpAny _ _ (call (Value.builtin "iter") [Value.ref _, Value.str _ _]) _ _ _); k_dflt (refine' cit_newN ?k1zq8 ?k2zq8 ?k3zq8 ?_; (case k1zq8 => k_asm); (case k2zq8 => k_asm); (case k3zq8 => k_mem); k_whole; intro Izq' hzq' l1zq Fzq' Nzq'; (try k_lt l1zq); (try dsimp only); (try k_fold)))) | walk1 | (dsimp only; walk1) | (leave1; walk_say "STEP leave1"; try dsimp only) | fail "no step")
  refine' cit_iter (News.get ?a1 ?a2) (OwitAt.intro (OwitRest.succ ?_))
  case a1 => k_asm
  case a2 => k_mem
  refine' next_end (text := text) (rest := rest) (os := os) (fd := fd) (doc := doc) (pm := pm) (ctv := ctv) (e1 := e1) (e2 := e2) (e3 := e3) (e4 := e4) (er := er) (k1 := k1) (k2 := k2) (k3 := k3) (k4 := k4) (kr := kr) (tw := tw) (tp := tp) (ln := ln) (tl := tl) (items := #[]) (n := n) ?b1 ?b2 ?b3 (news_mono ?b4 ?b5) ?b6 ?b7 ?b8 ok ?b9 ?b10 ?b11 ?b12 ?b13 ?b14 ?b15 ?b16 ?_
  case b1 => k_asm
  case b2 => k_asm
  case b3 => k_asm
  case b4 => k_asm
  case b5 => kcj_all
  case b6 => k_asm
  case b7 => exact rfl
  case b8 => k_asm
  case b9 => ktr_room
  case b10 => ktr_units
  case b11 => exact List.forall_mem_cons.mpr ⟨Nat.ne_of_gt (by dsimp only; omega), List.forall_mem_cons.mpr ⟨Nat.ne_of_gt (by dsimp only; omega), n5⟩⟩
  case b12 => exact List.forall_mem_cons.mpr ⟨Nat.ne_of_gt (by dsimp only; omega), List.forall_mem_cons.mpr ⟨Nat.ne_of_gt (by dsimp only; omega), n6⟩⟩
  case b13 =>
    intro b hb
    simp only [List.mem_cons, List.not_mem_nil, or_false] at hb
    rcases hb with rfl | rfl | rfl | rfl | rfl | rfl | rfl | rfl | rfl | rfl <;> exact Nat.ne_of_lt (by omega)
  case b14 => exact ne_of_allLt (all_tail (by assumption))
  case b15 => refine' news_frame ?z1 ?z2; (case z1 => k_asm); (case z2 => k_mem)
  case b16 => refine' news_fresh ?z1 ?z2; (case z1 => k_asm); (case z2 => k_mem)
  intro t2' tl' h' tk' F' N'
  dsimp only [OwitTurn, LX, IX] at N' ⊢
  repeat' (first | (k_unfold; (try dsimp only)) | (k_end; wrow_close) | (with_reducible (k_here; (with_reducible show wpAny _ _ (call (Value.builtin "iter") [Value.ref _, Value.str _ _]) _ _ _); k_dflt (refine' cit_newN ?k1zq8 ?k2zq8 ?k3zq8 ?_; (case k1zq8 => k_asm); (case k2zq8 => k_asm); (case k3zq8 => k_mem); k_whole; intro Izq' hzq' l1zq Fzq' Nzq'; (try k_lt l1zq); (try dsimp only); (try k_fold)))) | walk1 | (dsimp only; walk1) | (leave1; walk_say "STEP leave1"; try dsimp only) | fail "no step")
  refine' hret _ _ _ _ _ ?q1 ?q2
  case q1 => assumption
  case q2 => assumption
end

end
section
theorem fillL2h : PySem.Challenge.rw_pe0144_01 = PySem.Challenge.rw_pe0144_01 ∧ hd.heap_1 = hd.heap_1 := by
  w_top off
  k_fill
  exact ⟨rfl, rfl⟩
section
variable {prog : Program} {w : World} {p : Program} {loose : List Str} {mean : ExcName → Option Value} {mg mb : Str → Option Value}
  {dp un : Nat} {gd : Option (List Code)} {cn : Str} {cs : Scope} {a : Addr} {ccd : Value} {cl : List (Str × Addr)} {outer : List Env} {A₀ : Around} {base h₀ : Heap} {L : Addr} {m : Str → Option Value} {s : Shared} {Q E : Value → Shared → Prop} {rest : List (Addr × Obj)}
  {x dx f D f1 c1 ca ct la pb : Addr} {os : Array (Option Value)} {fd : FuncData} {oc oA oT : Obj} {q text : Str} {doc pm ctv : Value} {e1 e2 e3 e4 er : Int} {k1 k2 k3 k4 kr tw : Tok}
  {pos : Int} {tp : Tok} {ln : Int} {tl : Tok} {items : Array Value} {n : Nat}
theorem push_spec {v0 : Str} {t0 : Tok}
  (B : Below A₀ base outer h₀) (F : Fr h₀ L s.heap m) (X : (hd.heap_1 w.params).In h₀)
  (N : News h₀ L s.heap (LX x dx f D f1 c1 ca ct la pb os fd oc oA oT q doc pm ctv e1 e2 e3 e4 er k1 k2 k3 k4 kr tw pos tp ln tl items n rest))
  (T : Top p loose mean mg mb h₀) (hk : cs.kind = .function) (ok : LexOk x dx f D f1 c1 ca ct la pb oc oA oT q text)
  (hd' : dp + 5 < recursionLimit) (hu : un + 30 < cLine) (hi : items.size ≤ 10) (n5 : ∀ p ∈ rest, p.1 ≠ la) (n6 : ∀ p ∈ rest, p.1 ≠ dx) (n7 : ∀ p ∈ rest, p.1 ≠ pb)
  (hret : ∀ h' tk', Fr h₀ L h' m → News h₀ L h' (LX x dx f D f1 c1 ca ct la pb os fd oc oA oT q doc pm ctv e1 e2 e3 e4 er k1 k2 k3 k4 kr tw pos tp ln tl (items.push (.str v0 t0)) (n + 1) rest) →
    Q .none {s with heap := h', toks := tk'}) :
  wpAny (model prog w) (ktrTop dp un gd cn cs L a ccd cl outer) (call (.ref 63) [.ref x, .str v0 t0]) Q E s := by
  have ok' := ok
  obtain ⟨⟨vs, tq, d1, d2⟩, d3, ⟨t2, d4⟩, ⟨o1, o2, o3, o4, o5, o6, o7, o8, o9⟩, hx⟩ := ok'
  refine wpAny_call ?_
  dsimp only [LX] at N
  k_dflt cell_enter
  k_steps
  refine' hret _ _ ?q1 ?q2
  case q1 => assumption
  case q2 => assumption
theorem pop_spec {v0 v1 v2 : Str} {t0 t1 t9 : Tok}
  (B : Below A₀ base outer h₀) (F : Fr h₀ L s.heap m) (X : (hd.heap_1 w.params).In h₀)
  (N : News h₀ L s.heap (LX x dx f D f1 c1 ca ct la pb os fd oc oA oT q doc pm ctv e1 e2 e3 e4 er k1 k2 k3 k4 kr tw pos tp ln tl #[.str v0 t0, .str v1 t1, .str v2 t9] n rest))
  (T : Top p loose mean mg mb h₀) (hk : cs.kind = .function) (ok : LexOk x dx f D f1 c1 ca ct la pb oc oA oT q text)
  (hd' : dp + 5 < recursionLimit) (hu : un + 30 < cLine) (n5 : ∀ p ∈ rest, p.1 ≠ la) (n6 : ∀ p ∈ rest, p.1 ≠ dx) (n7 : ∀ p ∈ rest, p.1 ≠ pb)
  (hret : ∀ n' h' tk', Fr h₀ L h' m → News h₀ L h' (LX x dx f D f1 c1 ca ct la pb os fd oc oA oT q doc pm ctv e1 e2 e3 e4 er k1 k2 k3 k4 kr tw pos tp ln tl #[.str v1 t1, .str v2 t9] n' rest) →
    Q (.str v0 t0) {s with heap := h', toks := tk'}) :
  wpAny (model prog w) (ktrTop dp un gd cn cs L a ccd cl outer) (call (.ref 56) [.ref x]) Q E s := by
  have ok' := ok
  obtain ⟨⟨vs, tq, d1, d2⟩, d3, ⟨t2, d4⟩, ⟨o1, o2, o3, o4, o5, o6, o7, o8, o9⟩, hx⟩ := ok'
  refine wpAny_call ?_
  dsimp only [LX] at N
  k_dflt cell_enter
  k_steps
  refine' wpAny_truthy_list (items := #[.str v0 t0, .str v1 t1, .str v2 t9]) ?z1 (by show ((3 : Nat) : Int) < 2 ^ 63; decide) ?_
  case z1 => is_list
  show if (true = true) then _ else _
  rw [if_pos rfl]
  k_steps
  refine' hret _ _ _ ?q1 ?q2
  case q1 => assumption
  case q2 => assumption
end

end
section
theorem news_mono' {h₀ h : Heap} {L : Addr} {l l' : List (Addr × Obj)} (N : News h₀ L h l) (hs : ∀ p ∈ l', p ∈ l) : News h₀ L h l' := fun p hp => N p (hs p hp)
theorem fillL3m : PySem.Challenge.rw_pe0144_01 = PySem.Challenge.rw_pe0144_01 ∧ hd.heap_1 = hd.heap_1 := by
  w_top off
  k_fill
  exact ⟨rfl, rfl⟩
theorem allLt_mono {c f : Addr} (hc : @LT.lt Nat _ c f) : ∀ {l : List (Addr × Obj)}, AllLt c l → AllLt f l
  | [], _ => trivial
  | _ :: _, h => ⟨Nat.lt_trans h.1 hc, allLt_mono hc h.2⟩
theorem allLt_up {c f : Addr} {o : Obj} {l : List (Addr × Obj)} (h : AllLt c l) (hc : @LT.lt Nat _ c f) : AllLt f ((c, o) :: l) := ⟨hc, allLt_mono hc h⟩
local macro_rules | `(tactic| k_room) => `(tactic| ktr_room)
theorem allLt_ne {f : Addr} {news : List (Addr × Obj)} (h : 86 < f ∧ AllLt f news) : (∀ p ∈ news, p.1 ≠ f + 1 + 1) ∧ (∀ p ∈ news, p.1 ≠ f + 1) := by
  have h2 := h.2
  clear h
  induction news with
  | nil => exact ⟨(fun _ h => nomatch h), (fun _ h => nomatch h)⟩
  | cons q r ih =>
    obtain ⟨i1, i2⟩ := ih h2.2
    exact ⟨List.forall_mem_cons.mpr ⟨Nat.ne_of_lt (Nat.lt_succ_of_lt (Nat.lt_succ_of_lt h2.1)), i1⟩, List.forall_mem_cons.mpr ⟨Nat.ne_of_lt (Nat.lt_succ_of_lt h2.1), i2⟩⟩
section
variable {prog : Program} {w : World} {p : Program} {loose : List Str} {mean : ExcName → Option Value} {mg mb : Str → Option Value}
  {dp un : Nat} {gd : Option (List Code)} {cn : Str} {cs : Scope} {a : Addr} {ccd : Value} {cl : List (Str × Addr)} {outer : List Env} {A₀ : Around} {base h₀ : Heap} {L : Addr} {m : Str → Option Value} {s : Shared} {Q E : Value → Shared → Prop} {news : List (Addr × Obj)}
/-- what the caller of the machine is told -/
noncomputable abbrev MachRet (h₀ : Heap) (L : Addr) (m : Str → Option Value) (text : Str) (news : List (Addr × Obj)) (s : Shared) (Q : Value → Shared → Prop) : Prop :=
  ∀ (x dx f D f1 c1 ca ct la pb : Addr) (os : Array (Option Value)) (fd : FuncData) (oc oA oT : Obj) (q : Str) (doc pm ctv : Value) (e1 e2 e3 e4 er : Int) (k1 k2 k3 k4 kr tw : Tok) (tp tl : Tok) (ps : Array Value) (h' : Heap) (tk' : Nat),
    LexOk x dx f D f1 c1 ca ct la pb oc oA oT q text → AllLt ct news → Fr h₀ L h' m → News h₀ L h' (LX x dx f D f1 c1 ca ct la pb os fd oc oA oT q doc pm ctv e1 e2 e3 e4 er k1 k2 k3 k4 kr tw 0 tp 1 tl #[] 0 (news ++ [(86, tabObj ps)])) → Q (.ref x) {s with heap := h', toks := tk'}
theorem allLt_one {f : Addr} {news : List (Addr × Obj)} : ∀ {news : List (Addr × Obj)}, AllLt f news → AllLt (f + 1) news
  | [], _ => trivial
  | _ :: _, h => ⟨Nat.lt_succ_of_lt h.1, allLt_one (news := news) h.2⟩
theorem mach_end {text : Str} {x dx f D f1 c1 c2 la pb L' : Addr} {os : Array (Option Value)} {fd : FuncData} {oc oc2 oA oT : Obj} {ps : Array Value} {q : Str} {doc pm ctv : Value} {e1 e2 e3 e4 er : Int} {k1 k2 k3 k4 kr tw : Tok} {tp tl : Tok} {h' : Heap} {tk' : Nat} {vs : Array Value} {tq t2 : Tok}
  (hret : MachRet h₀ L m text news s Q) (F : Fr h₀ L h' m)
  (N : News h₀ L h' ((pb, W.listOf #[] 0) :: (x, instObj 66 dx) ::
    (dx, dictOf [⟨e1, .str (Str.ofString "lineno") k1, .int 1 tl⟩, ⟨e2, .str (Str.ofString "instream") k2, .ref f⟩, ⟨e3, .str (Str.ofString "whitespace") k3, .str (Str.ofString "\n\t\r ") tw⟩, ⟨e4, .str (Str.ofString "pushback") k4, .ref pb⟩] 4) ::
    (D, dictOf [⟨er, .str (Str.ofString "read") kr, .ref f1⟩] 1) :: (f, ⟨.type "function", some D, .func fd, os⟩) :: (c2, oc2) :: (f1, rdFn q (L' + 1) (L' + 1 + 1) doc pm c1 ctv) :: (c1, oc) :: (la, W.listOf #[.int 0 tp] 0) :: (L' + 1 + 1, oA) :: (L' + 1, oT) :: (86, tabObj ps) :: news))
  (d1 : oc.data = .fields vs) (d2 : vs[1]? = some (.str q tq)) (d3 : oA.data = Data.cell (some (.ref la))) (d4 : oT.data = Data.cell (some (.str text t2)))
  (l0 : 86 < L' ∧ AllLt L' news) (l1 : @LT.lt Nat _ (L' + 1 + 1) la) (l2 : @LT.lt Nat _ la c1) (l3 : @LT.lt Nat _ c1 f1) (l4 : @LT.lt Nat _ f1 c2) (l5 : @LT.lt Nat _ c2 f) (l6 : @LT.lt Nat _ f D) (l7 : @LT.lt Nat _ D dx) (l8 : @LT.lt Nat _ dx x) (l9 : @LT.lt Nat _ x pb) (hx : text.length ≤ 100) :
  Q (.ref x) {s with heap := h', toks := tk'} := by
  refine hret x dx f D f1 c1 (L' + 1 + 1) (L' + 1) la pb os fd oc oA oT q doc pm ctv e1 e2 e3 e4 er k1 k2 k3 k4 kr tw tp tl ps h' tk' ⟨⟨vs, tq, d1, d2⟩, d3, ⟨t2, d4⟩, ⟨Nat.lt_succ_self _, l1, l2, l3, Nat.lt_trans l4 l5, l6, l7, l8, l9⟩, hx⟩ (allLt_one (news := news) l0.2) F (news_mono' N ?_)
  exact List.forall_mem_cons.mpr ⟨(.tail _ (.tail _ (.tail _ (.tail _ (.tail _ (.tail _ (.tail _ (.tail _ (.head _))))))))), List.forall_mem_cons.mpr ⟨(.tail _ (.tail _ (.head _))), List.forall_mem_cons.mpr ⟨(.head _), List.forall_mem_cons.mpr ⟨(.tail _ (.head _)), List.forall_mem_cons.mpr ⟨(.tail _ (.tail _ (.tail _ (.tail _ (.head _))))), List.forall_mem_cons.mpr ⟨(.tail _ (.tail _ (.tail _ (.head _)))), List.forall_mem_cons.mpr ⟨(.tail _ (.tail _ (.tail _ (.tail _ (.tail _ (.tail _ (.head _))))))), List.forall_mem_cons.mpr ⟨(.tail _ (.tail _ (.tail _ (.tail _ (.tail _ (.tail _ (.tail _ (.head _)))))))), List.forall_mem_cons.mpr ⟨(.tail _ (.tail _ (.tail _ (.tail _ (.tail _ (.tail _ (.tail _ (.tail _ (.tail _ (.head _)))))))))), List.forall_mem_cons.mpr ⟨(.tail _ (.tail _ (.tail _ (.tail _ (.tail _ (.tail _ (.tail _ (.tail _ (.tail _ (.tail _ (.head _))))))))))), fun p hp => (List.mem_append.mp hp).elim (fun h => (.tail _ (.tail _ (.tail _ (.tail _ (.tail _ (.tail _ (.tail _ (.tail _ (.tail _ (.tail _ (.tail _ (.tail _ h))))))))))))) (fun h => by rw [List.mem_singleton.mp h]; exact (.tail _ (.tail _ (.tail _ (.tail _ (.tail _ (.tail _ (.tail _ (.tail _ (.tail _ (.tail _ (.tail _ (.head _)))))))))))))⟩⟩⟩⟩⟩⟩⟩⟩⟩⟩
theorem machine_spec {text : Str} {t1 : Tok}
  (B : Below A₀ base outer h₀) (F : Fr h₀ L s.heap m) (X : (hd.heap_1 w.params).In h₀) (N : News h₀ L s.heap ((86, tabObj #[]) :: news)) (codeHd : CodeHd base 90 86) (T : Top p loose mean mg mb h₀) (hk : cs.kind = .function)
  (l0 : 86 < L) (hn : ∀ p ∈ news, p.1 ≠ 86)
  (hd' : dp + 3 < recursionLimit) (hu : un + 20 < cLine)
  (hx : text.length ≤ 100)
  (hret : MachRet h₀ L m text news s Q) :
  wpAny (model prog w) (ktrTop dp un gd cn cs L a ccd cl outer) (call (.ref 91) [.str text t1]) Q E s := by
  refine wpAny_call ?_
  k_dflt ((refine' code_defC ?k1zq9 ?k2zq9 ?k3zq9 ?k4zq9 ?k5zq9 ?kAzq9 ?kFzq9 ?kKzq9 ?k6zq9 ?k7zq9 ?k8zq9 ?k9zq9 ?kBzq9 ?kDzq9 ?_ ?c2zq9 ?c3zq9 ?c4zq9; (case kAzq9 => exact rfl); (case kFzq9 => exact rfl); (case kKzq9 => assumption); (case k1zq9 => k_asm); (case k2zq9 => k_asm); (case k3zq9 => k_asm); (case k4zq9 => k_asm); (case k5zq9 => k_asm); (case k6zq9 => k_is); (case k7zq9 => k_is); (case k8zq9 => ktr_room); (case k9zq9 => exact BindsTo.of_eq rfl); (case kBzq9 => exact rfl); (case kDzq9 => decide +kernel); (case c2zq9 => exact rfl); (case c3zq9 => exact rfl); (case c4zq9 => exact rfl); k_whole; intro gzq' Lzq' hzq' tkzq' cellszq' FGzq' Fzq' Nzq' Yzq' Bzq' Xzq' Tzq' l1zq; (try k_lt l1zq); k_cells Yzq'; (try simp only [List.cons_append, List.nil_append] at Nzq'); (try dsimp only); (try k_lift Bzq'); (try k_fold)))
  obtain ⟨nq1, nq2⟩ := allLt_ne (by assumption)
  repeat' (first | (k_unfold; (try dsimp only)) | (k_end; wrow_close) | (with_reducible (k_here; (with_reducible show wpAny _ _ (setAttr (Value.ref _) _ (Value.ref _)) _ _ _); k_dflt (refine' fn_setattrN ?k1zq10 ?k2zq10 ?k3zq10 ?k4zq10 ?_; (case k1zq10 => k_asm); (case k2zq10 => k_asm); (case k3zq10 => (refine ne_of_allLt (allLt_up ?_ ?_); rotate_left; (assumption); (simp only [AllLt] at *; (repeat' apply And.intro) <;> first | omega | (simp only [*])))); (case k4zq10 => exact fn_read); k_whole; intro Dzq' hzq' tkzq' ezq' tzq' l1zq Fzq' Nzq'; (try k_lt l1zq); (try dsimp only); (try k_fold)))) | walk1 | (dsimp only; walk1) | (leave1; walk_say "STEP leave1"; try dsimp only) | fail "no step")
  refine' mach_end hret ?F ?N ?d1 ?d2 ?d3 ?d4 ?l0 ?l1 ?l2 ?l3 ?l4 ?l5 ?l6 ?l7 ?l8 ?l9 hx
  case N => with_unfolding_all assumption
  case F => assumption
  case d1 => assumption
  case d2 => assumption
  case d3 => assumption
  case d4 => refine Eq.trans (by assumption) ?_; rfl
  case l0 => assumption
  all_goals first | assumption | omega
end

end
section
theorem fillL4a : PySem.Challenge.rw_pe0144_01 = PySem.Challenge.rw_pe0144_01 ∧ hd.heap_1 = hd.heap_1 := by
  w_top off
  w_top off
  k_fill
  exact ⟨rfl, rfl⟩
noncomputable def fnBody : Stmt → List Stmt
  | .FunctionDef _ _ b _ _ _ _ _ _ _ => b
  | _ => []
noncomputable def fnScope : Stmt → Scope
  | .FunctionDef _ _ _ _ _ _ sc _ _ _ => sc
  | _ => default
noncomputable def whTest : Stmt → PySem.Expr
  | .While t _ _ _ => t
  | _ => .Constant .none 0 default
noncomputable def whBody : Stmt → List Stmt
  | .While _ b _ _ => b
  | _ => []
noncomputable def forBody : Stmt → List Stmt
  | .For _ _ b _ _ => b
  | _ => []
noncomputable def levDef : Stmt := PySem.Challenge.pw_pe0144_01.main.body.getD 10 default
noncomputable def preW : Stmt := (fnBody levDef).getD 2 default
noncomputable def postW : Stmt := (fnBody levDef).getD 6 default
/-- the walk's names: a, b, the bound, pre, post -/
noncomputable def mP (x y : Str) (mc : Int) (pre : Int) (t1 t2 t3 t4 : Tok) : Str → Option Value := fun z =>
  if z = Str.ofString "pre" then some (.int pre t4) else if z = Str.ofString "a" then some (.str x t1) else if z = Str.ofString "b" then some (.str y t2) else if z = Str.ofString "max_cost" then some (.int mc t3) else none
section
variable {prog : Program} {w : World} {p : Program} {loose : List Str} {mean : ExcName → Option Value} {mg mb : Str → Option Value}
  {dp un : Nat} {gd : Option (List Code)} {cn : Str} {a : Addr} {ccd : Value} {outer : List Env} {A₀ : Around} {base h₀ : Heap} {L : Addr} {m : Str → Option Value} {s : Shared} {Q E : Value → Shared → Prop} {news : List (Addr × Obj)}
theorem pre_turn {x y : Str} {mc k : Int} {t1 t2 t3 t4 : Tok} {R : Flow → Shared → Prop} {S : Shared → Prop}
  (B : Below A₀ base outer h₀) (F : Fr h₀ L s.heap (mP x y mc k t1 t2 t3 t4)) (X : (hd.heap_1 w.params).In h₀) (N : News h₀ L s.heap news) (T : Top p loose mean mg mb h₀)
  (hd' : dp + 3 < recursionLimit) (hu : un + 20 < cLine) (hx : x.length = 6) (hy : y.length = 6) (h0 : 0 ≤ k) (h6 : k < 6)
  (c1 : (((Txt.slice x (some k) none).length : Int) != 0) = true) (c2 : (((Txt.slice y (some k) none).length : Int) != 0) = true)
  (hR : ∀ t h' tk', (Txt.item x k == Txt.item y k) = true → Fr h₀ L h' (mP x y mc (k + 1) t1 t2 t3 t) → News h₀ L h' news → R .next {s with heap := h', toks := tk'})
  (hS : ∀ h' tk', (Txt.item x k == Txt.item y k) = false → Fr h₀ L h' (mP x y mc k t1 t2 t3 t4) → News h₀ L h' news → S {s with heap := h', toks := tk'}) :
  wpAny (model prog w) (ktrTop dp un gd cn (fnScope levDef) L a ccd [] outer) (isTrue (whTest preW) (envOf cn (fnScope levDef) L a ccd) (eval (whTest preW) (envOf cn (fnScope levDef) L a ccd)))
    (fun b s₂ => WhlIf b (wpAny (model prog w) (ktrTop dp un gd cn (fnScope levDef) L a ccd [] outer) (execs (whBody preW) (envOf cn (fnScope levDef) L a ccd)) R E s₂) (S s₂)) E s := by
  unfold preW levDef PySem.Challenge.pw_pe0144_01
  dsimp only [fnBody, fnScope, whTest, whBody, List.getD, List.getD_eq_getElem?_getD, List.getElem?_cons_succ, List.getElem?_cons_zero, Option.getD]
  delta mP at F
  (try dsimp only at F)
  k_steps
  · refine' hR _ _ _ ?c (fr_ext ?f ?e) ?n
    case c => assumption
    case f => assumption
    case n => assumption
    case e => intro z; simp only [mP]; split <;> rfl
  · refine' hS _ _ ?c (fr_ext ?f ?e) ?n
    case c => assumption
    case f => assumption
    case n => assumption
    case e => intro z; rfl
theorem pre_stop {x y : Str} {mc k : Int} {t1 t2 t3 t4 : Tok} {R : Flow → Shared → Prop} {S : Shared → Prop}
  (B : Below A₀ base outer h₀) (F : Fr h₀ L s.heap (mP x y mc k t1 t2 t3 t4)) (X : (hd.heap_1 w.params).In h₀) (N : News h₀ L s.heap news) (T : Top p loose mean mg mb h₀)
  (hx : x.length = 6) (hy : y.length = 6) (h0 : 0 ≤ k) (h6 : k ≤ 6)
  (c1 : (((Txt.slice x (some k) none).length : Int) != 0) = false)
  (hS : ∀ h' tk', Fr h₀ L h' (mP x y mc k t1 t2 t3 t4) → News h₀ L h' news → S {s with heap := h', toks := tk'}) :
  wpAny (model prog w) (ktrTop dp un gd cn (fnScope levDef) L a ccd [] outer) (isTrue (whTest preW) (envOf cn (fnScope levDef) L a ccd) (eval (whTest preW) (envOf cn (fnScope levDef) L a ccd)))
    (fun b s₂ => WhlIf b (wpAny (model prog w) (ktrTop dp un gd cn (fnScope levDef) L a ccd [] outer) (execs (whBody preW) (envOf cn (fnScope levDef) L a ccd)) R E s₂) (S s₂)) E s := by
  unfold preW levDef PySem.Challenge.pw_pe0144_01
  dsimp only [fnBody, fnScope, whTest, whBody, List.getD, List.getD_eq_getElem?_getD, List.getElem?_cons_succ, List.getElem?_cons_zero, Option.getD]
  delta mP at F
  (try dsimp only at F)
  k_steps
  refine' hS _ _ (fr_ext ?f ?e) ?n
  case f => assumption
  case n => assumption
  case e => intro z; rfl
theorem slice_len_from {x : Str} {k : Int} (h0 : 0 ≤ k) (h6 : k ≤ x.length) : ((Txt.slice x (some k) none).length : Int) = x.length - k := by
  rw [slice_from_eq h0 h6 rfl]
  show ((((x.cps.toList.drop k.toNat).take ((x.length : Int) - k).toNat).toArray.size : Nat) : Int) = _
  have : x.cps.toList.length = x.length := rfl
  rw [List.size_toArray, List.length_take, List.length_drop, this]
  omega
noncomputable def preK (x y : Str) : Nat → Int → Int
  | 0, k => k
  | n + 1, k => if k < 6 then (if (Txt.item x k == Txt.item y k) = true then preK x y n (k + 1) else k) else k
theorem pre_loop {x y : Str} {mc : Int} {t1 t2 t3 : Tok} {Q : Flow → Shared → Prop}
  (B : Below A₀ base outer h₀) (X : (hd.heap_1 w.params).In h₀) (T : Top p loose mean mg mb h₀)
  (hd' : dp + 3 < recursionLimit) (hu : un + 20 < cLine) (hx : x.length = 6) (hy : y.length = 6)
  (hE : PassesOwn (model prog w) (ktrTop dp un gd cn (fnScope levDef) L a ccd [] outer) (envOf cn (fnScope levDef) L a ccd) E) :
  ∀ (n : Nat) (k : Int) (t4 : Tok) (s : Shared), 0 ≤ k → k ≤ 6 → 7 - k ≤ n → Fr h₀ L s.heap (mP x y mc k t1 t2 t3 t4) → News h₀ L s.heap news →
  (∀ t h' tk', Fr h₀ L h' (mP x y mc (preK x y n k) t1 t2 t3 t) → News h₀ L h' news → Q .next {s with heap := h', toks := tk'}) →
  WhlRest prog w (ktrTop dp un gd cn (fnScope levDef) L a ccd [] outer) E (envOf cn (fnScope levDef) L a ccd) (whTest preW) (whBody preW) [] Q n s
  | 0, k, _, _, h0, h6, hn, _, _, _ => absurd hn (by omega)
  | n + 1, k, t4, s, h0, h6, hn, F, N, hQ => by
    refine whl_turn hE ?_
    by_cases hk : k < 6
    · have l1 := slice_len_from (x := x) (k := k) h0 (by omega)
      have l2 := slice_len_from (x := y) (k := k) h0 (by omega)
      refine pre_turn B F X N T hd' hu hx hy h0 hk (by simp; omega) (by simp; omega) (fun t h' tk' c F' N' => ?_) (fun h' tk' c F' N' => ?_)
      · show WhlRest _ _ _ _ _ _ _ _ _ n _
        refine pre_loop B X T hd' hu hx hy hE n (k + 1) t _ (by omega) (by omega) (by omega) F' N' fun t' h2 tk2 F2 N2 => ?_
        have := hQ t' h2 tk2 (by rw [preK, if_pos hk, if_pos c]; exact F2) N2
        exact this
      · refine wpAny_execs_nil ?_
        exact hQ t4 h' tk' (by rw [preK, if_pos hk, if_neg (by rw [c]; decide)]; exact F') N'
    · have l1 := slice_len_from (x := x) (k := k) h0 (by omega)
      refine pre_stop B F X N T hx hy h0 h6 (by simp; omega) (fun h' tk' F' N' => ?_)
      refine wpAny_execs_nil ?_
      exact hQ t4 h' tk' (by rw [preK, if_neg hk]; exact F') N'
end

end
section
theorem fillL4b : PySem.Challenge.rw_pe0144_01 = PySem.Challenge.rw_pe0144_01 ∧ hd.heap_1 = hd.heap_1 := by
  w_top off
  w_top off
  k_fill
  exact ⟨rfl, rfl⟩
noncomputable def mQ (x y : Str) (mc : Int) (pre post : Int) (t1 t2 t3 t4 t5 : Tok) : Str → Option Value := fun z =>
  if z = Str.ofString "post" then some (.int post t5) else if z = Str.ofString "b" then some (.str y t2) else if z = Str.ofString "a" then some (.str x t1) else if z = Str.ofString "pre" then some (.int pre t4) else if z = Str.ofString "max_cost" then some (.int mc t3) else none
noncomputable def cutS (x : Str) (j : Int) : Str := if j = 0 then Txt.slice x none none else Txt.slice x none (some j)
section
variable {prog : Program} {w : World} {p : Program} {loose : List Str} {mean : ExcName → Option Value} {mg mb : Str → Option Value}
  {dp un : Nat} {gd : Option (List Code)} {cn : Str} {a : Addr} {ccd : Value} {outer : List Env} {A₀ : Around} {base h₀ : Heap} {L : Addr} {m : Str → Option Value} {s : Shared} {Q E : Value → Shared → Prop} {news : List (Addr × Obj)}
theorem post_turn0 {x y : Str} {mc pre j : Int} {t1 t2 t3 t4 t5 : Tok} {R : Flow → Shared → Prop} {S : Shared → Prop}
  (B : Below A₀ base outer h₀) (F : Fr h₀ L s.heap (mQ x y mc pre j t1 t2 t3 t4 t5)) (X : (hd.heap_1 w.params).In h₀) (N : News h₀ L s.heap news) (T : Top p loose mean mg mb h₀)
  (hd' : dp + 3 < recursionLimit) (hu : un + 20 < cLine) (hx : 1 ≤ x.length ∧ x.length ≤ 6) (hy : y.length = x.length) (hj : j = 0) (hz : (j != 0) = false)
  (c1 : (((Txt.slice x none none).length : Int) != 0) = true) (c2 : (((Txt.slice y none none).length : Int) != 0) = true)
  (hR : ∀ t h' tk', (Txt.item x (j - 1) == Txt.item y (j - 1)) = true → Fr h₀ L h' (mQ x y mc pre (j - 1) t1 t2 t3 t4 t) → News h₀ L h' news → R .next {s with heap := h', toks := tk'})
  (hS : ∀ h' tk', (Txt.item x (j - 1) == Txt.item y (j - 1)) = false → Fr h₀ L h' (mQ x y mc pre j t1 t2 t3 t4 t5) → News h₀ L h' news → S {s with heap := h', toks := tk'}) :
  wpAny (model prog w) (ktrTop dp un gd cn (fnScope levDef) L a ccd [] outer) (isTrue (whTest postW) (envOf cn (fnScope levDef) L a ccd) (eval (whTest postW) (envOf cn (fnScope levDef) L a ccd)))
    (fun b s₂ => WhlIf b (wpAny (model prog w) (ktrTop dp un gd cn (fnScope levDef) L a ccd [] outer) (execs (whBody postW) (envOf cn (fnScope levDef) L a ccd)) R E s₂) (S s₂)) E s := by
  unfold postW levDef PySem.Challenge.pw_pe0144_01
  dsimp only [fnBody, fnScope, whTest, whBody, List.getD, List.getD_eq_getElem?_getD, List.getElem?_cons_succ, List.getElem?_cons_zero, Option.getD]
  delta mQ at F
  (try dsimp only at F)
  repeat' (first | (k_unfold; (try dsimp only)) | (k_end; wrow_close) | (with_reducible (k_here; (with_reducible show wpAny _ _ (subscriptTail _ (PySem.Expr.Slice none (some _) none _) (Value.str _ _) (Value.ref _)) _ _ _); k_dflt (refine' slice_strN_nn_len ?k1zq11 ?k2zq11 ?_ ?k3zq11 ?k4zq11 ?k5zq11; (case k1zq11 => k_asm); (case k2zq11 => k_asm); (case k3zq11 => with_unfolding_all rfl); (case k4zq11 => (intro _; with_unfolding_all rfl)); (case k5zq11 => size_fits); intro _ _ _ Fzq' Nzq' _; (try dsimp only)))) | walk1 | (dsimp only; walk1) | (leave1; walk_say "STEP leave1"; try dsimp only) | fail "no step")
  · refine' hR _ _ _ ?c (fr_ext ?f ?e) ?n
    case c => assumption
    case f => assumption
    case n => assumption
    case e => intro z; simp only [mQ]; split <;> rfl
  · refine' hS _ _ ?c (fr_ext ?f ?e) ?n
    case c => assumption
    case f => assumption
    case n => assumption
    case e => intro z; rfl
theorem post_turn1 {x y : Str} {mc pre j : Int} {t1 t2 t3 t4 t5 : Tok} {R : Flow → Shared → Prop} {S : Shared → Prop}
  (B : Below A₀ base outer h₀) (F : Fr h₀ L s.heap (mQ x y mc pre j t1 t2 t3 t4 t5)) (X : (hd.heap_1 w.params).In h₀) (N : News h₀ L s.heap news) (T : Top p loose mean mg mb h₀)
  (hd' : dp + 3 < recursionLimit) (hu : un + 20 < cLine) (hx : 1 ≤ x.length ∧ x.length ≤ 6) (hy : y.length = x.length) (hj : j < 0) (hj2 : -(x.length : Int) < j) (hz : (j != 0) = true)
  (c1 : (((Txt.slice x none (some j)).length : Int) != 0) = true) (c2 : (((Txt.slice y none (some j)).length : Int) != 0) = true)
  (hR : ∀ t h' tk', (Txt.item x (j - 1) == Txt.item y (j - 1)) = true → Fr h₀ L h' (mQ x y mc pre (j - 1) t1 t2 t3 t4 t) → News h₀ L h' news → R .next {s with heap := h', toks := tk'})
  (hS : ∀ h' tk', (Txt.item x (j - 1) == Txt.item y (j - 1)) = false → Fr h₀ L h' (mQ x y mc pre j t1 t2 t3 t4 t5) → News h₀ L h' news → S {s with heap := h', toks := tk'}) :
  wpAny (model prog w) (ktrTop dp un gd cn (fnScope levDef) L a ccd [] outer) (isTrue (whTest postW) (envOf cn (fnScope levDef) L a ccd) (eval (whTest postW) (envOf cn (fnScope levDef) L a ccd)))
    (fun b s₂ => WhlIf b (wpAny (model prog w) (ktrTop dp un gd cn (fnScope levDef) L a ccd [] outer) (execs (whBody postW) (envOf cn (fnScope levDef) L a ccd)) R E s₂) (S s₂)) E s := by
  unfold postW levDef PySem.Challenge.pw_pe0144_01
  dsimp only [fnBody, fnScope, whTest, whBody, List.getD, List.getD_eq_getElem?_getD, List.getElem?_cons_succ, List.getElem?_cons_zero, Option.getD]
  delta mQ at F
  (try dsimp only at F)
  repeat' (first | (k_unfold; (try dsimp only)) | (k_end; wrow_close) | (with_reducible (k_here; (with_reducible show wpAny _ _ (subscriptTail _ (PySem.Expr.Slice none (some _) none _) (Value.str _ _) (Value.ref _)) _ _ _); k_dflt (refine' slice_strN_nn_len ?k1zq11 ?k2zq11 ?_ ?k3zq11 ?k4zq11 ?k5zq11; (case k1zq11 => k_asm); (case k2zq11 => k_asm); (case k3zq11 => with_unfolding_all rfl); (case k4zq11 => (intro _; with_unfolding_all rfl)); (case k5zq11 => size_fits); intro _ _ _ Fzq' Nzq' _; (try dsimp only)))) | walk1 | (dsimp only; walk1) | (leave1; walk_say "STEP leave1"; try dsimp only) | fail "no step")
  · refine' hR _ _ _ ?c (fr_ext ?f ?e) ?n
    case c => assumption
    case f => assumption
    case n => assumption
    case e => intro z; simp only [mQ]; split <;> rfl
  · refine' hS _ _ ?c (fr_ext ?f ?e) ?n
    case c => assumption
    case f => assumption
    case n => assumption
    case e => intro z; rfl
theorem post_stop {x y : Str} {mc pre j : Int} {t1 t2 t3 t4 t5 : Tok} {R : Flow → Shared → Prop} {S : Shared → Prop}
  (B : Below A₀ base outer h₀) (F : Fr h₀ L s.heap (mQ x y mc pre j t1 t2 t3 t4 t5)) (X : (hd.heap_1 w.params).In h₀) (N : News h₀ L s.heap news) (T : Top p loose mean mg mb h₀)
  (hx : 1 ≤ x.length ∧ x.length ≤ 6) (hj : j < 0) (hj2 : -(x.length : Int) ≤ j) (hz : (j != 0) = true)
  (c1 : (((Txt.slice x none (some j)).length : Int) != 0) = false)
  (hS : ∀ h' tk', Fr h₀ L h' (mQ x y mc pre j t1 t2 t3 t4 t5) → News h₀ L h' news → S {s with heap := h', toks := tk'}) :
  wpAny (model prog w) (ktrTop dp un gd cn (fnScope levDef) L a ccd [] outer) (isTrue (whTest postW) (envOf cn (fnScope levDef) L a ccd) (eval (whTest postW) (envOf cn (fnScope levDef) L a ccd)))
    (fun b s₂ => WhlIf b (wpAny (model prog w) (ktrTop dp un gd cn (fnScope levDef) L a ccd [] outer) (execs (whBody postW) (envOf cn (fnScope levDef) L a ccd)) R E s₂) (S s₂)) E s := by
  unfold postW levDef PySem.Challenge.pw_pe0144_01
  dsimp only [fnBody, fnScope, whTest, whBody, List.getD, List.getD_eq_getElem?_getD, List.getElem?_cons_succ, List.getElem?_cons_zero, Option.getD]
  delta mQ at F
  (try dsimp only at F)
  repeat' (first | (k_unfold; (try dsimp only)) | (k_end; wrow_close) | (with_reducible (k_here; (with_reducible show wpAny _ _ (subscriptTail _ (PySem.Expr.Slice none (some _) none _) (Value.str _ _) (Value.ref _)) _ _ _); k_dflt (refine' slice_strN_nn_len ?k1zq11 ?k2zq11 ?_ ?k3zq11 ?k4zq11 ?k5zq11; (case k1zq11 => k_asm); (case k2zq11 => k_asm); (case k3zq11 => with_unfolding_all rfl); (case k4zq11 => (intro _; with_unfolding_all rfl)); (case k5zq11 => size_fits); intro _ _ _ Fzq' Nzq' _; (try dsimp only)))) | walk1 | (dsimp only; walk1) | (leave1; walk_say "STEP leave1"; try dsimp only) | fail "no step")
  refine' hS _ _ (fr_ext ?f ?e) ?n
  case f => assumption
  case n => assumption
  case e => intro z; rfl
theorem slice_len_to {x : Str} {j : Int} (h0 : j < 0) (h6 : -(x.length : Int) ≤ j) : ((Txt.slice x none (some j)).length : Int) = x.length + j := by
  rw [beq_iff_eq.mp (slice_closes_to_neg (x := x) (j := j) h0 h6 rfl)]
  show ((((x.cps.toList.drop (0 : Int).toNat).take (j + (x.length : Int) - 0).toNat).toArray.size : Nat) : Int) = _
  have : x.cps.toList.length = x.length := rfl
  rw [List.size_toArray, List.length_take, List.length_drop, this]
  omega
theorem slice_len_all {x : Str} : (Txt.slice x none none).length = x.length := by
  have e : Txt.slice x none none = Txt.slice x (some 0) none := by
    unfold Txt.slice
    have : Builtin.Str.strSliceIndices none none 1 x.length = Builtin.Str.strSliceIndices (some 0) none 1 x.length := by
      have h2 : (1 : Int) > 0 := by decide
      have h0 : ¬ ((0 : Int) < 0) := by decide
      simp only [Builtin.Str.strSliceIndices, h2, h0, if_false, if_true]
      rw [show max 0 (min (0 : Int) x.length) = 0 from by omega]
    rw [this]
  have h := slice_len_from (x := x) (k := 0) (by omega) (by omega)
  rw [e]
  omega
noncomputable def postK (x y : Str) : Nat → Int → Int
  | 0, j => j
  | n + 1, j => if -(x.length : Int) < j then (if (Txt.item x (j - 1) == Txt.item y (j - 1)) = true then postK x y n (j - 1) else j) else j
theorem post_loop {x y : Str} {mc pre : Int} {t1 t2 t3 t4 : Tok} {Q : Flow → Shared → Prop}
  (B : Below A₀ base outer h₀) (X : (hd.heap_1 w.params).In h₀) (T : Top p loose mean mg mb h₀)
  (hd' : dp + 3 < recursionLimit) (hu : un + 20 < cLine) (hx : 1 ≤ x.length ∧ x.length ≤ 6) (hy : y.length = x.length)
  (hE : PassesOwn (model prog w) (ktrTop dp un gd cn (fnScope levDef) L a ccd [] outer) (envOf cn (fnScope levDef) L a ccd) E) :
  ∀ (n : Nat) (j : Int) (t5 : Tok) (s : Shared), j ≤ 0 → -(x.length : Int) ≤ j → x.length + 1 + j ≤ n → Fr h₀ L s.heap (mQ x y mc pre j t1 t2 t3 t4 t5) → News h₀ L s.heap news →
  (∀ t h' tk', Fr h₀ L h' (mQ x y mc pre (postK x y n j) t1 t2 t3 t4 t) → News h₀ L h' news → Q .next {s with heap := h', toks := tk'}) →
  WhlRest prog w (ktrTop dp un gd cn (fnScope levDef) L a ccd [] outer) E (envOf cn (fnScope levDef) L a ccd) (whTest postW) (whBody postW) [] Q n s
  | 0, j, _, _, h0, h6, hn, _, _, _ => absurd hn (by omega)
  | n + 1, j, t5, s, h0, h6, hn, F, N, hQ => by
    refine whl_turn hE ?_
    by_cases hk : -(x.length : Int) < j
    · have goR : ∀ t h' tk', (Txt.item x (j - 1) == Txt.item y (j - 1)) = true → Fr h₀ L h' (mQ x y mc pre (j - 1) t1 t2 t3 t4 t) → News h₀ L h' news →
          WhlPost prog w (ktrTop dp un gd cn (fnScope levDef) L a ccd [] outer) E (envOf cn (fnScope levDef) L a ccd) (whTest postW) (whBody postW) [] Q n .next {s with heap := h', toks := tk'} := fun t h' tk' c F' N' => by
        show WhlRest _ _ _ _ _ _ _ _ _ n _
        refine post_loop B X T hd' hu hx hy hE n (j - 1) t _ (by omega) (by omega) (by omega) F' N' fun t' h2 tk2 F2 N2 => ?_
        have := hQ t' h2 tk2 (by rw [postK, if_pos hk, if_pos c]; exact F2) N2
        exact this
      have goS : ∀ h' tk', (Txt.item x (j - 1) == Txt.item y (j - 1)) = false → Fr h₀ L h' (mQ x y mc pre j t1 t2 t3 t4 t5) → News h₀ L h' news →
          wpAny (model prog w) (ktrTop dp un gd cn (fnScope levDef) L a ccd [] outer) (execs [] (envOf cn (fnScope levDef) L a ccd)) Q E {s with heap := h', toks := tk'} := fun h' tk' c F' N' =>
        wpAny_execs_nil (hQ t5 h' tk' (by rw [postK, if_pos hk, if_neg (by rw [c]; decide)]; exact F') N')
      by_cases hj : j = 0
      · have l1 := slice_len_all (x := x)
        have l2 := slice_len_all (x := y)
        exact post_turn0 B F X N T hd' hu hx hy hj (by simp; omega) (by simp; omega) (by simp; omega) goR goS
      · have l1 := slice_len_to (x := x) (j := j) (by omega) (by omega)
        have l2 := slice_len_to (x := y) (j := j) (by omega) (by omega)
        exact post_turn1 B F X N T hd' hu hx hy (by omega) hk (by simp; omega) (by simp; omega) (by simp; omega) goR goS
    · have l1 := slice_len_to (x := x) (j := j) (by omega) (by omega)
      refine post_stop B F X N T hx (by omega) (by omega) (by simp; omega) (by simp; omega) (fun h' tk' F' N' => ?_)
      refine wpAny_execs_nil ?_
      exact hQ t5 h' tk' (by rw [postK, if_neg hk]; exact F') N'
end

end
section
theorem fillL4c : PySem.Challenge.rw_pe0144_01 = PySem.Challenge.rw_pe0144_01 ∧ hd.heap_1 = hd.heap_1 := by
  w_top off
  w_top off
  k_fill
  exact ⟨rfl, rfl⟩
noncomputable def outF : Stmt := (fnBody levDef).getD 15 default
noncomputable def innF : Stmt := (forBody outF).getD 3 default
/-- the names in the inner loop -/
theorem chain_ext (ks : List Str) {m m' : Str → Option Value} (h1 : ∀ z, (∀ k, ks.contains k = true → z ≠ k) → m z = m' z) (h2 : ∀ k ∈ ks, m k = m' k) (z : Str) : m z = m' z := by
  by_cases h : z ∈ ks
  · exact h2 z h
  · exact h1 z fun k hk e => h (by rw [e]; exact List.contains_iff_mem.mp hk)
theorem ite_nin {z k : Str} {ks : List Str} {v rest : Option Value} (hz : ∀ k, ks.contains k = true → z ≠ k) (hk : ks.contains k = true) (h : rest = none) : (if z = k then v else rest) = none := by
  rw [if_neg (hz k hk)]
  exact h
noncomputable def levNames : List Str := [Str.ofString "a", Str.ofString "b", Str.ofString "max_cost", Str.ofString "pre", Str.ofString "post", Str.ofString "row", Str.ofString "result", Str.ofString "bindex", Str.ofString "bchar", Str.ofString "distance", Str.ofString "minimum", Str.ofString "index", Str.ofString "substitute", Str.ofString "insert_delete"]
noncomputable def mI (x y : Str) (mc pre post : Int) (row : Addr) (bi : Int) (bc : Str) (d r mn : Int) (vi vs vd : Option Value) (t1 t2 t3 t4 t5 t6 t7 t8 t9 t10 : Tok) : Str → Option Value := fun z =>
  if z = Str.ofString "index" then vi else if z = Str.ofString "minimum" then some (.int mn t10) else if z = Str.ofString "result" then some (.int r t9) else if z = Str.ofString "insert_delete" then vd else
  if z = Str.ofString "distance" then some (.int d t8) else if z = Str.ofString "substitute" then vs else
  if z = Str.ofString "bchar" then some (.str bc t7) else if z = Str.ofString "bindex" then some (.int bi t6) else if z = Str.ofString "row" then some (.ref row) else
  if z = Str.ofString "b" then some (.str y t2) else if z = Str.ofString "a" then some (.str x t1) else if z = Str.ofString "post" then some (.int post t5) else if z = Str.ofString "pre" then some (.int pre t4) else if z = Str.ofString "max_cost" then some (.int mc t3) else none
noncomputable def inStep (bc x : Str) (st : Int × Int × Int × List Int) (k : Int) : Int × Int × Int × List Int :=
  let d' := st.2.2.2.getD k.toNat 0
  let sub := st.1 + substI bc (Txt.item x k)
  let ins := (if d' < st.2.1 then d' else st.2.1) + 2
  let r' := if sub < ins then sub else ins
  (d', r', if r' < st.2.2.1 then r' else st.2.2.1, st.2.2.2.set k.toNat r')
section
variable {prog : Program} {w : World} {p : Program} {loose : List Str} {mean : ExcName → Option Value} {mg mb : Str → Option Value}
  {dp un : Nat} {gd : Option (List Code)} {cn : Str} {a : Addr} {ccd : Value} {outer : List Env} {A₀ : Around} {base h₀ : Heap} {L : Addr} {m : Str → Option Value} {s : Shared} {Q E : Value → Shared → Prop} {rest : List (Addr × Obj)}
theorem inner_turn {x y : Str} {mc pre post : Int} {row : Addr} {bi k : Int} {bc : Str} {d r mn : Int} {vi vs vd : Option Value} {t1 t2 t3 t4 t5 t6 t7 t8 t9 t10 tk : Tok} {vals : List Value} {ns : List Int} {c : Nat} {R : Flow → Shared → Prop}
  (B : Below A₀ base outer h₀) (F : Fr h₀ L s.heap (fun z => if z = Str.ofString "index" then some (.int k tk) else mI x y mc pre post row bi bc d r mn vi vs vd t1 t2 t3 t4 t5 t6 t7 t8 t9 t10 z)) (X : (hd.heap_1 w.params).In h₀) (N : News h₀ L s.heap ((row, W.listOf vals.toArray c) :: rest)) (T : Top p loose mean mg mb h₀)
  (hi : IntsAre vals ns) (n5 : ∀ p ∈ rest, p.1 ≠ row)
  (hd' : dp + 3 < recursionLimit) (hu : un + 20 < cLine) (hx : x.length ≤ 6) (hbc : bc.length ≤ 1) (hl : ns.length = x.length) (h0 : 0 ≤ k) (hk : k < x.length)
  (hR : ∀ mn' vs' vd' t8' t9' t10' vals' h' tk', (inStep bc x (d, r, mn, ns) k).2.2.1 = mn' → IntsAre vals' (inStep bc x (d, r, mn, ns) k).2.2.2 → (inStep bc x (d, r, mn, ns) k).2.2.2.length = x.length →
    Fr h₀ L h' (mI x y mc pre post row bi bc (inStep bc x (d, r, mn, ns) k).1 (inStep bc x (d, r, mn, ns) k).2.1 mn' (some (.int k tk)) vs' vd' t1 t2 t3 t4 t5 t6 t7 t8' t9' t10') →
    News h₀ L h' ((row, W.listOf vals'.toArray c) :: rest) → R .next {s with heap := h', toks := tk'}) :
  wpAny (model prog w) (ktrTop dp un gd cn (fnScope levDef) L a ccd [] outer) (execs (forBody innF) (envOf cn (fnScope levDef) L a ccd)) R E s := by
  unfold innF outF levDef PySem.Challenge.pw_pe0144_01
  dsimp only [fnBody, fnScope, forBody, List.getD, List.getD_eq_getElem?_getD, List.getElem?_cons_succ, List.getElem?_cons_zero, Option.getD]
  delta mI at F
  (try dsimp only at F)
  repeat' (first | (k_unfold; (try dsimp only)) | (k_end; wrow_close) | (with_reducible (k_here; (with_reducible show wpAny _ _ (call (Value.ref 77) [Value.str _ _, Value.str _ _]) _ _ _); k_dflt (refine' subst_spec ?k1zq12 ?k2zq12 ?k3zq12 ?k4zq12 ?k5zq12 ?k6zq12 ?k7zq12 ?k8zq12 ?k9zq12 ?k10zq12 ?_; (case k1zq12 => k_asm); (case k2zq12 => k_asm); (case k3zq12 => k_asm); (case k4zq12 => k_asm); (case k5zq12 => k_asm); (case k6zq12 => exact rfl); (case k7zq12 => ktr_room); (case k8zq12 => ktr_units); (case k9zq12 => (first | omega | (simp; done))); (case k10zq12 => (first | omega | (simp; done))); k_whole; intro tzq' hzq' tkzq' Fzq' Nzq'; (try dsimp only); (try k_fold)))) | walk1 | (dsimp only; walk1) | (leave1; walk_say "STEP leave1"; try dsimp only) | fail "no step")
  · refine' hR _ _ _ _ _ _ _ _ _ ?m1 ?i1 ?l1 (fr_ext ?f1 ?e1) ?n1
    case f1 => assumption
    case n1 => assumption
    case i1 => assumption
    case l1 => exact Eq.trans (by assumption) hl
    case e1 => (with_unfolding_all (refine chain_ext levNames (fun z hz => Eq.trans (b := none) ?_ (Eq.symm ?_)) ?_; (repeat (refine ite_nin hz ?_ ?_; rfl)); rfl; (repeat (refine ite_nin hz ?_ ?_; rfl)); rfl; unfold levNames; (repeat (refine List.forall_mem_cons.mpr ⟨?_, ?_⟩; rfl)); exact List.forall_mem_nil _))
    case m1 => exact if_pos (by assumption)
  · refine' hR _ _ _ _ _ _ _ _ _ ?m2 ?i2 ?l2 (fr_ext ?f2 ?e2) ?n2
    case f2 => assumption
    case n2 => assumption
    case i2 => assumption
    case l2 => exact Eq.trans (by assumption) hl
    case e2 => (with_unfolding_all (refine chain_ext levNames (fun z hz => Eq.trans (b := none) ?_ (Eq.symm ?_)) ?_; (repeat (refine ite_nin hz ?_ ?_; rfl)); rfl; (repeat (refine ite_nin hz ?_ ?_; rfl)); rfl; unfold levNames; (repeat (refine List.forall_mem_cons.mpr ⟨?_, ?_⟩; rfl)); exact List.forall_mem_nil _))
    case m2 => exact if_neg (by assumption)
end

end
section
theorem fillL4d : PySem.Challenge.rw_pe0144_01 = PySem.Challenge.rw_pe0144_01 ∧ hd.heap_1 = hd.heap_1 := by
  w_top off
  w_top off
  k_fill
  exact ⟨rfl, rfl⟩
/-- the inner loop's state: σ, a frame, a ledger -/
noncomputable def RI (x y : Str) (mc pre post : Int) (row : Addr) (bi : Int) (bc : Str) (t1 t2 t3 t4 t5 t6 t7 : Tok) (c : Nat) (rest : List (Addr × Obj)) (σ : Int × Int × Int × List Int) (m : Str → Option Value) (nx : List (Addr × Obj)) : Prop :=
  ∃ vi vs vd t8 t9 t10 vals, IntsAre vals σ.2.2.2 ∧ σ.2.2.2.length = x.length ∧ m = mI x y mc pre post row bi bc σ.1 σ.2.1 σ.2.2.1 vi vs vd t1 t2 t3 t4 t5 t6 t7 t8 t9 t10 ∧ nx = (row, W.listOf vals.toArray c) :: rest
noncomputable def inFold (bc x : Str) (st : Int × Int × Int × List Int) : Int × Int × Int × List Int := (rangeKs 0 x.length).foldl (inStep bc x) st
section
variable {prog : Program} {w : World} {p : Program} {loose : List Str} {mean : ExcName → Option Value} {mg mb : Str → Option Value}
  {dp un : Nat} {gd : Option (List Code)} {cn : Str} {a : Addr} {ccd : Value} {outer : List Env} {A₀ : Around} {base h₀ : Heap} {L : Addr} {m : Str → Option Value} {s : Shared} {Q E : Value → Shared → Prop} {rest : List (Addr × Obj)}
theorem inner_loop {x y : Str} {mc pre post : Int} {row : Addr} {bi : Int} {bc : Str} {d r mn : Int} {vi vs vd : Option Value} {t1 t2 t3 t4 t5 t6 t7 t8 t9 t10 : Tok} {vals : List Value} {ns : List Int} {c : Nat} {Q : Flow → Shared → Prop} {rg : Addr} {ta tb tc : Tok}
  (hr : IsRange s.heap rg 0 (x.length : Int) 1 ta tb tc)
  (B : Below A₀ base outer h₀) (F : Fr h₀ L s.heap (mI x y mc pre post row bi bc d r mn vi vs vd t1 t2 t3 t4 t5 t6 t7 t8 t9 t10)) (X : (hd.heap_1 w.params).In h₀) (N : News h₀ L s.heap ((row, W.listOf vals.toArray c) :: rest)) (T : Top p loose mean mg mb h₀)
  (hi : IntsAre vals ns) (n5 : ∀ p ∈ rest, p.1 ≠ row)
  (hd' : dp + 3 < recursionLimit) (hu : un + 20 < cLine) (hx : x.length ≤ 6) (hbc : bc.length ≤ 1) (hl : ns.length = x.length)
  (done : ∀ m₁ nx h tk, RI x y mc pre post row bi bc t1 t2 t3 t4 t5 t6 t7 c rest (inFold bc x (d, r, mn, ns)) m₁ nx → Fr h₀ L h m₁ → News h₀ L h nx → Q .next { s with heap := h, toks := tk }) :
  wpAny (model prog w) (ktrTop dp un gd cn (fnScope levDef) L a ccd [] outer) (pyIter (.ref rg))
    (fun it s₂ => LoopAtV prog w (ktrTop dp un gd cn (fnScope levDef) L a ccd [] outer) h₀ (envOf cn (fnScope levDef) L a ccd) (Str.ofString "index") (forBody innF) Q E it s₂) E s := by
  refine iter_rangeS (n := x.length) (RI x y mc pre post row bi bc t1 t2 t3 t4 t5 t6 t7 c rest) (inStep bc x) (d, r, mn, ns) rfl hr (small_one (by omega) (by omega) (by omega) (by omega)) (rangeSize_nat _ _) F N
    ⟨vi, vs, vd, t8, t9, t10, vals, hi, hl, rfl, rfl⟩ ?_ ?_
  · rintro k t ⟨d', r', mn', ns'⟩ m₁ nx h tk own hk hoff ⟨vi', vs', vd', t8', t9', t10', vals', hi', hl', rfl, rfl⟩ F' N'
    have hk' := mem_rangeKs hk
    refine inner_turn (rest := rest ++ own) B F' X N' T hi' (fun p hp => ?_) hd' hu hx hbc hl' (by omega) (by omega) (fun mn2 vs2 vd2 t82 t92 t102 vals2 h2 tk2 hm hi2 hl2 F2 N2 => ?_)
    · rcases List.mem_append.mp hp with h | h
      · exact n5 p h
      · exact hoff p h row (by simp)
    · subst hm
      exact ⟨h2, tk2, _, _, _, rfl, F2, N2, fun p hp => (List.mem_cons.mp hp).elim (fun e => e ▸ .head _) (fun e => .tail _ (List.mem_append.mpr (.inl e))), fun p hp => .tail _ (List.mem_append.mpr (.inr hp)), rfl, ⟨_, _, _, _, _, _, _, hi2, hl2, rfl, rfl⟩⟩
  · intro m₁ nx h tk hR F' N'
    exact done m₁ nx h tk hR F' N'
theorem inner_loop2 {x y : Str} {mc pre post : Int} {row : Addr} {bi : Int} {bc : Str} {d r mn : Int} {vi vs vd : Option Value} {t1 t2 t3 t4 t5 t6 t7 t8 t9 t10 : Tok} {vals : List Value} {ns : List Int} {c : Nat} {Q : Flow → Shared → Prop} {rg : Addr} {ta tb tc : Tok}
  (hr : IsRange s.heap rg 0 (x.length : Int) 1 ta tb tc)
  (B : Below A₀ base outer h₀) (F : Fr h₀ L s.heap (mI x y mc pre post row bi bc d r mn vi vs vd t1 t2 t3 t4 t5 t6 t7 t8 t9 t10)) (X : (hd.heap_1 w.params).In h₀) (N : News h₀ L s.heap ((row, W.listOf vals.toArray c) :: rest)) (T : Top p loose mean mg mb h₀)
  (hi : IntsAre vals ns) (n5 : ∀ p ∈ rest, p.1 ≠ row)
  (hd' : dp + 3 < recursionLimit) (hu : un + 20 < cLine) (hx : x.length ≤ 6) (hbc : bc.length ≤ 1) (hl : ns.length = x.length)
  (done : ∀ vi vs vd t8 t9 t10 vals h tk, IntsAre vals (inFold bc x (d, r, mn, ns)).2.2.2 → (inFold bc x (d, r, mn, ns)).2.2.2.length = x.length → Fr h₀ L h (fun z => if z = Str.ofString "index" then vi else if z = Str.ofString "minimum" then some (.int (inFold bc x (d, r, mn, ns)).2.2.1 t10) else if z = Str.ofString "result" then some (.int (inFold bc x (d, r, mn, ns)).2.1 t9) else if z = Str.ofString "insert_delete" then vd else
    if z = Str.ofString "distance" then some (.int (inFold bc x (d, r, mn, ns)).1 t8) else if z = Str.ofString "substitute" then vs else
    if z = Str.ofString "bchar" then some (.str bc t7) else if z = Str.ofString "bindex" then some (.int bi t6) else if z = Str.ofString "row" then some (.ref row) else
    if z = Str.ofString "b" then some (.str y t2) else if z = Str.ofString "a" then some (.str x t1) else if z = Str.ofString "post" then some (.int post t5) else if z = Str.ofString "pre" then some (.int pre t4) else if z = Str.ofString "max_cost" then some (.int mc t3) else none) → News h₀ L h ((row, W.listOf vals.toArray c) :: rest) → Q .next { s with heap := h, toks := tk }) :
  wpAny (model prog w) (ktrTop dp un gd cn (fnScope levDef) L a ccd [] outer) (pyIter (.ref rg))
    (fun it s₂ => LoopAtV prog w (ktrTop dp un gd cn (fnScope levDef) L a ccd [] outer) h₀ (envOf cn (fnScope levDef) L a ccd) (Str.ofString "index") (forBody innF) Q E it s₂) E s :=
  inner_loop hr B F X N T hi n5 hd' hu hx hbc hl fun m₁ nx h tk hR F' N' => by
    obtain ⟨vi, vs, vd, t8, t9, t10, vals, hi', hl', rfl, rfl⟩ := hR
    exact done vi vs vd t8 t9 t10 vals h tk hi' hl' F' N'
end

end
section
theorem fillL4e : PySem.Challenge.rw_pe0144_01 = PySem.Challenge.rw_pe0144_01 ∧ hd.heap_1 = hd.heap_1 := by
  w_top off
  w_top off
  k_fill
  exact ⟨rfl, rfl⟩
/-- the names in the outer loop -/
noncomputable def mO (x y : Str) (mc pre post : Int) (row : Addr) (vbi vbc vdi : Option Value) (r : Int) (vmn vi vs vd : Option Value) (t1 t2 t3 t4 t5 t9 : Tok) : Str → Option Value := fun z =>
  if z = Str.ofString "bindex" then vbi else if z = Str.ofString "result" then some (.int r t9) else if z = Str.ofString "index" then vi else if z = Str.ofString "minimum" then vmn else if z = Str.ofString "insert_delete" then vd else
  if z = Str.ofString "distance" then vdi else if z = Str.ofString "substitute" then vs else
  if z = Str.ofString "bchar" then vbc else if z = Str.ofString "row" then some (.ref row) else
  if z = Str.ofString "b" then some (.str y t2) else if z = Str.ofString "a" then some (.str x t1) else if z = Str.ofString "post" then some (.int post t5) else if z = Str.ofString "pre" then some (.int pre t4) else if z = Str.ofString "max_cost" then some (.int mc t3) else none
section
variable {prog : Program} {w : World} {p : Program} {loose : List Str} {mean : ExcName → Option Value} {mg mb : Str → Option Value}
  {dp un : Nat} {gd : Option (List Code)} {cn : Str} {a : Addr} {ccd : Value} {outer : List Env} {A₀ : Around} {base h₀ : Heap} {L : Addr} {m : Str → Option Value} {s : Shared} {Q E : Value → Shared → Prop} {rest : List (Addr × Obj)}
theorem outer_turn {x y : Str} {mc pre post : Int} {row : Addr} {k : Int} {vbc vdi vmn vi vs vd : Option Value} {r : Int} {t1 t2 t3 t4 t5 t9 tk : Tok} {vals : List Value} {ns : List Int} {c : Nat} {R : Flow → Shared → Prop}
  (B : Below A₀ base outer h₀) (F : Fr h₀ L s.heap (mO x y mc pre post row (some (.int k tk)) vbc vdi r vmn vi vs vd t1 t2 t3 t4 t5 t9)) (X : (hd.heap_1 w.params).In h₀) (N : News h₀ L s.heap ((row, W.listOf vals.toArray c) :: rest)) (T : Top p loose mean mg mb h₀)
  (hi : IntsAre vals ns) (n5 : ∀ p ∈ rest, p.1 ≠ row)
  (hd' : dp + 3 < recursionLimit) (hu : un + 20 < cLine) (hx : x.length ≤ 6) (hl : ns.length = x.length) (hy : y.length = x.length) (h0 : 0 ≤ k) (hk : k < x.length)
  (hE : PassesOwn (model prog w) (ktrTop dp un gd cn (fnScope levDef) L a ccd [] outer) (envOf cn (fnScope levDef) L a ccd) E)
  (hmn : (inFold (Txt.item y k) x (k * 2, k * 2, 9223372036854775807, ns)).2.2.1 ≤ mc)
  (hR : ∀ vbc' vdi' vmn' vi' vs' vd' t9' vals' h' tk', IntsAre vals' (inFold (Txt.item y k) x (k * 2, k * 2, 9223372036854775807, ns)).2.2.2 → (inFold (Txt.item y k) x (k * 2, k * 2, 9223372036854775807, ns)).2.2.2.length = x.length →
    Fr h₀ L h' (mO x y mc pre post row (some (.int k tk)) vbc' vdi' (inFold (Txt.item y k) x (k * 2, k * 2, 9223372036854775807, ns)).2.1 vmn' vi' vs' vd' t1 t2 t3 t4 t5 t9') → News h₀ L h' ((row, W.listOf vals'.toArray c) :: rest) → R .next {s with heap := h', toks := tk'}) :
  wpAny (model prog w) (ktrTop dp un gd cn (fnScope levDef) L a ccd [] outer) (execs (forBody outF) (envOf cn (fnScope levDef) L a ccd)) R E s := by
  unfold outF
  unfold levDef PySem.Challenge.pw_pe0144_01 at hE ⊢
  dsimp only [fnBody, fnScope, forBody, List.getD, List.getD_eq_getElem?_getD, List.getElem?_cons_succ, List.getElem?_cons_zero, Option.getD] at hE ⊢
  delta mO at F
  (try dsimp only at F)
  repeat' (first | (k_unfold; (try dsimp only)) | (k_end; wrow_close) | (with_reducible ((with_reducible show wpAny _ _ (pyIter (Value.ref _)) (fun it s₂ => LoopAtV _ _ _ _ _ _ _ _ _ it s₂) _ _); (rename IsRange _ _ _ _ _ _ _ _ => rgXzq); with_unfolding_all refine' inner_loop2 rgXzq ?k1zq14 (fr_ext ?k2zq14 ?k3zq14) ?k4zq14 ?k5zq14 ?k6zq14 ?k7zq14 ?k8zq14 ?k9zq14 ?k10zq14 ?k11zq14 ?k12zq14 ?k13zq14 ?_; (case k1zq14 => k_asm); (case k2zq14 => k_asm); (case k5zq14 => k_asm); (case k6zq14 => k_asm); (case k7zq14 => assumption); (case k3zq14 => (intro zzq; simp only [mI]; by_cases g0 : zzq = Str.ofString "index"; (subst g0; rfl); by_cases g1 : zzq = Str.ofString "minimum"; (subst g1; rfl); by_cases g2 : zzq = Str.ofString "result"; (subst g2; rfl); by_cases g3 : zzq = Str.ofString "insert_delete"; (subst g3; rfl); by_cases g4 : zzq = Str.ofString "distance"; (subst g4; rfl); by_cases g5 : zzq = Str.ofString "substitute"; (subst g5; rfl); by_cases g6 : zzq = Str.ofString "bchar"; (subst g6; rfl); by_cases g7 : zzq = Str.ofString "bindex"; (subst g7; rfl); by_cases g8 : zzq = Str.ofString "row"; (subst g8; rfl); by_cases g9 : zzq = Str.ofString "b"; (subst g9; rfl); by_cases g10 : zzq = Str.ofString "a"; (subst g10; rfl); by_cases g11 : zzq = Str.ofString "post"; (subst g11; rfl); by_cases g12 : zzq = Str.ofString "pre"; (subst g12; rfl); by_cases g13 : zzq = Str.ofString "max_cost"; (subst g13; rfl); simp only [g0, g1, g2, g3, g4, g5, g6, g7, g8, g9, g10, g11, g12, g13, if_false])); (case k4zq14 => k_asm); (case k8zq14 => assumption); (case k9zq14 => ktr_room); (case k10zq14 => ktr_units); (case k11zq14 => with_unfolding_all assumption); (case k12zq14 => (first | omega | (simp; done))); (case k13zq14 => with_unfolding_all assumption); (intro vizq' vszq' vdzq' t8zq' t9zq' t10zq' valszq' hzq' tkzq' hizq' hlzq' Fzq' Nzq'); (try dsimp only))) | (with_reducible ((with_reducible show wpAny _ _ (exec (PySem.Stmt.For (PySem.Expr.Name _ _) (PySem.Expr.Call _ _ _ _) (_ :: _) [] _) _) _ _ _); (k_here; (rename Fr _ _ _ _ => lFzq'); (with_unfolding_all refine' For_invVF lFzq' ?k1zq13 ?k2zq13 ?_ ?k3zq13 ?k4zq13; (case k1zq13 => exact rfl); (case k2zq13 => exact rfl); (case k3zq13 => (intro _; rfl)); (case k4zq13 => assumption); k_whole)))) | walk1 | (dsimp only; walk1) | (leave1; walk_say "STEP leave1"; try dsimp only) | fail "no step")
  · refine' hR _ _ _ _ _ _ _ _ _ _ ?i1 ?l1 (fr_ext ?f1 ?e1) ?n1
    case f1 => assumption
    case n1 => assumption
    case i1 => assumption
    case l1 => assumption
    case e1 => (with_unfolding_all (refine chain_ext levNames (fun z hz => Eq.trans (b := none) ?_ (Eq.symm ?_)) ?_; (repeat (refine ite_nin hz ?_ ?_; rfl)); rfl; (repeat (refine ite_nin hz ?_ ?_; rfl)); rfl; unfold levNames; (repeat (refine List.forall_mem_cons.mpr ⟨?_, ?_⟩; rfl)); exact List.forall_mem_nil _))
end
section
variable {prog : Program} {w : World} {A : Around} {E : Value → Shared → Prop} {s : Shared} {env : Env} {h₀ : Heap} {x : Str} {body : List Stmt} {Q : Flow → Shared → Prop}
/-- a loop over range(n), told by the turn's number -/
theorem range_turns {r : Addr} {t₀ u₀ v₀ : Tok} {n : Nat} {m₀ : Str → Option Value} {news : List (Addr × Obj)} (J : Nat → (Str → Option Value) → List (Addr × Obj) → Prop)
    (hh : A.handled = none) (hr : IsRange s.heap r 0 (n : Int) 1 t₀ u₀ v₀) (hn : n < 1000) (F : Fr h₀ env.locals s.heap m₀) (N : News h₀ env.locals s.heap news) (hJ : J 0 m₀ news)
    (turn : ∀ i t m₁ nx h tk own, i < n → OwnOff own (news.map (·.1)) → J i m₁ nx → Fr h₀ env.locals h (fun y => if y = x then some (.int (i : Int) t) else m₁ y) → News h₀ env.locals h (nx ++ own) →
      wpAny (model prog w) A (execs body env) (InvPostN h₀ env.locals (J (i + 1)) own (news.map (·.1)) { s with heap := h, toks := tk } Q) E { s with heap := h, toks := tk })
    (done : ∀ m₁ nx h tk, J n m₁ nx → Fr h₀ env.locals h m₁ → News h₀ env.locals h nx → Q .next { s with heap := h, toks := tk }) :
    wpAny (model prog w) A (pyIter (.ref r)) (fun it s₂ => LoopAtV prog w A h₀ env x body Q E it s₂) E s := by
  have hsz : Builtin.Range.rangeSize 0 (n : Int) 1 = (n : Int) := by
    have := rangeSize_nat 0 (n : Int)
    simpa using this
  refine wpAny_pyIter_range hr (small_one (by omega) (by omega) (by omega) (by omega)) ?_
  have W := (Walks.range (prog := prog) (w := w) hh s.heap.objs.size 0 1 n).bound
  have hI : ∀ d, d < s.heap.objs.size → d ≠ s.heap.objs.size := fun d hd => Nat.ne_of_lt hd
  refine loop_invN J W (fun hm => hI _ F.ns.lt (List.mem_singleton.mp hm)) (fun b hb => by rw [List.mem_singleton.mp hb]; exact next_is_new F)
    (fun p hp hm => hI _ (Heap.lt_size (N p hp).1) (List.mem_singleton.mp hm)) (fun p hp hm => hI _ (Heap.lt_size (N p hp).1) (List.mem_singleton.mp hm)) ?_ (F.push _)
    (fun p hp => ⟨Heap.get?_push_of_some _ (N p hp).1, (N p hp).2⟩) hJ ?_ done
  · show IsRangeIter _ _ _ _ _
    rw [hsz]
    simpa using Heap.get?_push_size _ rfl
  · rintro i v m₁ nx h tk own hi ⟨_, t, rfl⟩ _ hoff hj F' N'
    have e : (0 : Int) + (i : Int) * 1 = (i : Int) := by omega
    rw [e] at F'
    exact turn i t m₁ nx h tk own hi hoff hj F' N'
end

end
section
theorem fillL4f : PySem.Challenge.rw_pe0144_01 = PySem.Challenge.rw_pe0144_01 ∧ hd.heap_1 = hd.heap_1 := by
  w_top off
  w_top off
  k_fill
  exact ⟨rfl, rfl⟩
section
variable {prog : Program} {w : World} {p : Program} {loose : List Str} {mean : ExcName → Option Value} {mg mb : Str → Option Value}
  {dp un : Nat} {gd : Option (List Code)} {cn : Str} {a : Addr} {ccd : Value} {outer : List Env} {A₀ : Around} {base h₀ : Heap} {L : Addr} {m : Str → Option Value} {s : Shared} {E : Value → Shared → Prop} {news : List (Addr × Obj)} {tail : List Stmt} {Q : Flow → Shared → Prop}
theorem lev_seg1 {x y : Str} {mc : Int} {t1 t2 t3 : Tok}
  (B : Below A₀ base outer h₀) (F : Fr h₀ L s.heap (fun z => if z = Str.ofString "a" then some (.str x t1) else if z = Str.ofString "b" then some (.str y t2) else if z = Str.ofString "max_cost" then some (.int mc t3) else none)) (X : (hd.heap_1 w.params).In h₀) (N : News h₀ L s.heap news) (T : Top p loose mean mg mb h₀)
  (hd' : dp + 3 < recursionLimit) (hu : un + 20 < cLine) (hx : x.length = 6) (hy : y.length = 6)
  (hE : PassesOwn (model prog w) (ktrTop dp un gd cn (fnScope levDef) L a ccd [] outer) (envOf cn (fnScope levDef) L a ccd) E)
  (hret : ∀ t h' tk', (x == y) = true → Fr h₀ L h' (fun z => if z = Str.ofString "a" then some (.str x t1) else if z = Str.ofString "b" then some (.str y t2) else if z = Str.ofString "max_cost" then some (.int mc t3) else none) → News h₀ L h' news → Q (.ret (.int 0 t)) {s with heap := h', toks := tk'})
  (hnext : ∀ t h' tk', (x == y) = false → Fr h₀ L h' (mP x y mc (preK x y 7 0) t1 t2 t3 t) → News h₀ L h' news → wpAny (model prog w) (ktrTop dp un gd cn (fnScope levDef) L a ccd [] outer) (execs tail (envOf cn (fnScope levDef) L a ccd)) Q E {s with heap := h', toks := tk'}) :
  wpAny (model prog w) (ktrTop dp un gd cn (fnScope levDef) L a ccd [] outer) (execs ((fnBody levDef).getD 0 default :: (fnBody levDef).getD 1 default :: (fnBody levDef).getD 2 default :: tail) (envOf cn (fnScope levDef) L a ccd)) Q E s := by
  dsimp only [levDef, PySem.Challenge.pw_pe0144_01, fnBody, fnScope, List.getD, List.getD_eq_getElem?_getD, List.getElem?_cons_succ, List.getElem?_cons_zero, Option.getD] at hE hnext ⊢
  repeat' (first | (k_unfold; (try dsimp only)) | (k_end; wrow_close) | (with_reducible ((with_reducible show wpAny _ _ (exec (PySem.Stmt.While (PySem.Expr.BoolOp _ _ _) _ _ _) _) _ _ _); (refine whl_start 7 ?_; with_unfolding_all refine' pre_loop ?k1zq15 ?k2zq15 ?k3zq15 ?k4zq15 ?k5zq15 ?k6zq15 ?k7zq15 ?k8zq15 7 0 _ _ (by omega) (by omega) (by omega) (fr_ext ?k9zq15 ?k10zq15) ?k11zq15 ?_; (case k9zq15 => k_asm); (case k10zq15 => (with_unfolding_all (refine chain_ext levNames (fun zzq hzzq => Eq.trans (b := none) ?_ (Eq.symm ?_)) ?_; (repeat (refine ite_nin hzzq ?_ ?_; rfl)); rfl; (repeat (refine ite_nin hzzq ?_ ?_; rfl)); rfl; unfold levNames; (repeat (refine List.forall_mem_cons.mpr ⟨?_, ?_⟩; rfl)); exact List.forall_mem_nil _))); (case k1zq15 => k_asm); (case k2zq15 => k_asm); (case k3zq15 => k_asm); (case k4zq15 => assumption); (case k5zq15 => assumption); (case k6zq15 => assumption); (case k7zq15 => assumption); (case k8zq15 => assumption); (case k11zq15 => k_asm); intro tzq' hzq' tkzq' Fzq' Nzq'; (try dsimp only)))) | walk1 | (dsimp only; walk1) | (leave1; walk_say "STEP leave1"; try dsimp only) | fail "no step")
  · refine' hret _ _ _ ?c1 ?f1 ?n1
    case c1 => assumption
    case f1 => assumption
    case n1 => assumption
  · refine' hnext _ _ _ ?c2 ?f2 ?n2
    case c2 => assumption
    case f2 => assumption
    case n2 => assumption
theorem lev_seg2 {x y : Str} {mc k : Int} {t1 t2 t3 t4 : Tok}
  (B : Below A₀ base outer h₀) (F : Fr h₀ L s.heap (mP x y mc k t1 t2 t3 t4)) (X : (hd.heap_1 w.params).In h₀) (N : News h₀ L s.heap news) (T : Top p loose mean mg mb h₀)
  (hd' : dp + 3 < recursionLimit) (hu : un + 20 < cLine) (hx : x.length = 6) (hy : y.length = 6) (h0 : 0 ≤ k) (h6 : k ≤ 6) (hx1 : 1 ≤ (Txt.slice x (some k) none).length ∧ (Txt.slice x (some k) none).length ≤ 6) (hy1 : (Txt.slice y (some k) none).length = (Txt.slice x (some k) none).length)
  (hE : PassesOwn (model prog w) (ktrTop dp un gd cn (fnScope levDef) L a ccd [] outer) (envOf cn (fnScope levDef) L a ccd) E)
  (hnext : ∀ t1' t2' t5' h' tk', Fr h₀ L h' (mQ (Txt.slice x (some k) none) (Txt.slice y (some k) none) mc k (postK (Txt.slice x (some k) none) (Txt.slice y (some k) none) 7 0) t1' t2' t3 t4 t5') → News h₀ L h' news → wpAny (model prog w) (ktrTop dp un gd cn (fnScope levDef) L a ccd [] outer) (execs tail (envOf cn (fnScope levDef) L a ccd)) Q E {s with heap := h', toks := tk'}) :
  wpAny (model prog w) (ktrTop dp un gd cn (fnScope levDef) L a ccd [] outer) (execs ((fnBody levDef).getD 3 default :: (fnBody levDef).getD 4 default :: (fnBody levDef).getD 5 default :: (fnBody levDef).getD 6 default :: tail) (envOf cn (fnScope levDef) L a ccd)) Q E s := by
  dsimp only [levDef, PySem.Challenge.pw_pe0144_01, fnBody, fnScope, List.getD, List.getD_eq_getElem?_getD, List.getElem?_cons_succ, List.getElem?_cons_zero, Option.getD] at hE hnext ⊢
  delta mP at F
  (try dsimp only at F)
  repeat' (first | (k_unfold; (try dsimp only)) | (k_end; wrow_close) | (with_reducible ((with_reducible show wpAny _ _ (exec (PySem.Stmt.While (PySem.Expr.BoolOp _ _ _) _ _ _) _) _ _ _); (refine whl_start 7 ?_; with_unfolding_all refine' post_loop ?k1zq16 ?k2zq16 ?k3zq16 ?k4zq16 ?k5zq16 ?k6zq16 ?k7zq16 ?k8zq16 7 0 _ _ (by omega) (by omega) ?k12zq16 (fr_ext ?k9zq16 ?k10zq16) ?k11zq16 ?_; (case k9zq16 => k_asm); (case k10zq16 => (with_unfolding_all (refine chain_ext levNames (fun zzq hzzq => Eq.trans (b := none) ?_ (Eq.symm ?_)) ?_; (repeat (refine ite_nin hzzq ?_ ?_; rfl)); rfl; (repeat (refine ite_nin hzzq ?_ ?_; rfl)); rfl; unfold levNames; (repeat (refine List.forall_mem_cons.mpr ⟨?_, ?_⟩; rfl)); exact List.forall_mem_nil _))); (case k12zq16 => omega); (case k1zq16 => k_asm); (case k2zq16 => k_asm); (case k3zq16 => k_asm); (case k4zq16 => assumption); (case k5zq16 => assumption); (case k6zq16 => assumption); (case k7zq16 => assumption); (case k8zq16 => assumption); (case k11zq16 => k_asm); intro tzq' hzq' tkzq' Fzq' Nzq'; (try dsimp only)))) | (with_reducible ((with_reducible show wpAny _ _ (exec (PySem.Stmt.While (PySem.Expr.BoolOp _ _ _) _ _ _) _) _ _ _); (refine whl_start 7 ?_; with_unfolding_all refine' pre_loop ?k1zq15 ?k2zq15 ?k3zq15 ?k4zq15 ?k5zq15 ?k6zq15 ?k7zq15 ?k8zq15 7 0 _ _ (by omega) (by omega) (by omega) (fr_ext ?k9zq15 ?k10zq15) ?k11zq15 ?_; (case k9zq15 => k_asm); (case k10zq15 => (with_unfolding_all (refine chain_ext levNames (fun zzq hzzq => Eq.trans (b := none) ?_ (Eq.symm ?_)) ?_; (repeat (refine ite_nin hzzq ?_ ?_; rfl)); rfl; (repeat (refine ite_nin hzzq ?_ ?_; rfl)); rfl; unfold levNames; (repeat (refine List.forall_mem_cons.mpr ⟨?_, ?_⟩; rfl)); exact List.forall_mem_nil _))); (case k1zq15 => k_asm); (case k2zq15 => k_asm); (case k3zq15 => k_asm); (case k4zq15 => assumption); (case k5zq15 => assumption); (case k6zq15 => assumption); (case k7zq15 => assumption); (case k8zq15 => assumption); (case k11zq15 => k_asm); intro tzq' hzq' tkzq' Fzq' Nzq'; (try dsimp only)))) | walk1 | (dsimp only; walk1) | (leave1; walk_say "STEP leave1"; try dsimp only) | fail "no step")
  refine' hnext _ _ _ _ _ ?f2 ?n2
  case f2 => assumption
  case n2 => assumption
theorem lev_seg3a {x y : Str} {mc pre post : Int} {t1 t2 t3 t4 t5 : Tok}
  (B : Below A₀ base outer h₀) (F : Fr h₀ L s.heap (mQ x y mc pre post t1 t2 t3 t4 t5)) (X : (hd.heap_1 w.params).In h₀) (N : News h₀ L s.heap news) (T : Top p loose mean mg mb h₀)
  (hd' : dp + 3 < recursionLimit) (hu : un + 20 < cLine) (hx : x.length ≤ 6) (hy : y.length ≤ 6) (hz : (post != 0) = false)
  (hE : PassesOwn (model prog w) (ktrTop dp un gd cn (fnScope levDef) L a ccd [] outer) (envOf cn (fnScope levDef) L a ccd) E)
  (hnext : ∀ t1' t2' h' tk', Fr h₀ L h' (mQ (Txt.slice x none none) (Txt.slice y none none) mc pre post t1' t2' t3 t4 t5) → News h₀ L h' news → wpAny (model prog w) (ktrTop dp un gd cn (fnScope levDef) L a ccd [] outer) (execs tail (envOf cn (fnScope levDef) L a ccd)) Q E {s with heap := h', toks := tk'}) :
  wpAny (model prog w) (ktrTop dp un gd cn (fnScope levDef) L a ccd [] outer) (execs ((fnBody levDef).getD 7 default :: (fnBody levDef).getD 8 default :: tail) (envOf cn (fnScope levDef) L a ccd)) Q E s := by
  dsimp only [levDef, PySem.Challenge.pw_pe0144_01, fnBody, fnScope, List.getD, List.getD_eq_getElem?_getD, List.getElem?_cons_succ, List.getElem?_cons_zero, Option.getD] at hE hnext ⊢
  delta mQ at F
  (try dsimp only at F)
  repeat' (first | (k_unfold; (try dsimp only)) | (k_end; wrow_close) | (with_reducible (k_here; (with_reducible show wpAny _ _ (subscriptTail _ (PySem.Expr.Slice none (some _) none _) (Value.str _ _) (Value.ref _)) _ _ _); k_dflt (refine' slice_strN_nn_len ?k1zq17 ?k2zq17 ?_ ?k3zq17 ?k4zq17 ?k5zq17; (case k1zq17 => k_asm); (case k2zq17 => k_asm); (case k3zq17 => with_unfolding_all rfl); (case k4zq17 => (intro _; with_unfolding_all rfl)); (case k5zq17 => size_fits); intro _ _ _ Fzq' Nzq' _; (try dsimp only)))) | (with_reducible ((with_reducible show wpAny _ _ (exec (PySem.Stmt.While (PySem.Expr.BoolOp _ _ _) _ _ _) _) _ _ _); (refine whl_start 7 ?_; with_unfolding_all refine' post_loop ?k1zq16 ?k2zq16 ?k3zq16 ?k4zq16 ?k5zq16 ?k6zq16 ?k7zq16 ?k8zq16 7 0 _ _ (by omega) (by omega) ?k12zq16 (fr_ext ?k9zq16 ?k10zq16) ?k11zq16 ?_; (case k9zq16 => k_asm); (case k10zq16 => (with_unfolding_all (refine chain_ext levNames (fun zzq hzzq => Eq.trans (b := none) ?_ (Eq.symm ?_)) ?_; (repeat (refine ite_nin hzzq ?_ ?_; rfl)); rfl; (repeat (refine ite_nin hzzq ?_ ?_; rfl)); rfl; unfold levNames; (repeat (refine List.forall_mem_cons.mpr ⟨?_, ?_⟩; rfl)); exact List.forall_mem_nil _))); (case k12zq16 => omega); (case k1zq16 => k_asm); (case k2zq16 => k_asm); (case k3zq16 => k_asm); (case k4zq16 => assumption); (case k5zq16 => assumption); (case k6zq16 => assumption); (case k7zq16 => assumption); (case k8zq16 => assumption); (case k11zq16 => k_asm); intro tzq' hzq' tkzq' Fzq' Nzq'; (try dsimp only)))) | (with_reducible ((with_reducible show wpAny _ _ (exec (PySem.Stmt.While (PySem.Expr.BoolOp _ _ _) _ _ _) _) _ _ _); (refine whl_start 7 ?_; with_unfolding_all refine' pre_loop ?k1zq15 ?k2zq15 ?k3zq15 ?k4zq15 ?k5zq15 ?k6zq15 ?k7zq15 ?k8zq15 7 0 _ _ (by omega) (by omega) (by omega) (fr_ext ?k9zq15 ?k10zq15) ?k11zq15 ?_; (case k9zq15 => k_asm); (case k10zq15 => (with_unfolding_all (refine chain_ext levNames (fun zzq hzzq => Eq.trans (b := none) ?_ (Eq.symm ?_)) ?_; (repeat (refine ite_nin hzzq ?_ ?_; rfl)); rfl; (repeat (refine ite_nin hzzq ?_ ?_; rfl)); rfl; unfold levNames; (repeat (refine List.forall_mem_cons.mpr ⟨?_, ?_⟩; rfl)); exact List.forall_mem_nil _))); (case k1zq15 => k_asm); (case k2zq15 => k_asm); (case k3zq15 => k_asm); (case k4zq15 => assumption); (case k5zq15 => assumption); (case k6zq15 => assumption); (case k7zq15 => assumption); (case k8zq15 => assumption); (case k11zq15 => k_asm); intro tzq' hzq' tkzq' Fzq' Nzq'; (try dsimp only)))) | walk1 | (dsimp only; walk1) | (leave1; walk_say "STEP leave1"; try dsimp only) | fail "no step")
  refine' hnext _ _ _ _ (fr_ext ?f2 ?e2) ?n2
  case f2 => assumption
  case n2 => assumption
  case e2 => (with_unfolding_all (refine chain_ext levNames (fun z hz => Eq.trans (b := none) ?_ (Eq.symm ?_)) ?_; (repeat (refine ite_nin hz ?_ ?_; rfl)); rfl; (repeat (refine ite_nin hz ?_ ?_; rfl)); rfl; unfold levNames; (repeat (refine List.forall_mem_cons.mpr ⟨?_, ?_⟩; rfl)); exact List.forall_mem_nil _))
theorem lev_seg3b {x y : Str} {mc pre post : Int} {t1 t2 t3 t4 t5 : Tok}
  (B : Below A₀ base outer h₀) (F : Fr h₀ L s.heap (mQ x y mc pre post t1 t2 t3 t4 t5)) (X : (hd.heap_1 w.params).In h₀) (N : News h₀ L s.heap news) (T : Top p loose mean mg mb h₀)
  (hd' : dp + 3 < recursionLimit) (hu : un + 20 < cLine) (hx : x.length ≤ 6) (hy : y.length ≤ 6) (hz : (post != 0) = true)
  (hE : PassesOwn (model prog w) (ktrTop dp un gd cn (fnScope levDef) L a ccd [] outer) (envOf cn (fnScope levDef) L a ccd) E)
  (hnext : ∀ t1' t2' h' tk', Fr h₀ L h' (mQ (Txt.slice x none (some post)) (Txt.slice y none (some post)) mc pre post t1' t2' t3 t4 t5) → News h₀ L h' news → wpAny (model prog w) (ktrTop dp un gd cn (fnScope levDef) L a ccd [] outer) (execs tail (envOf cn (fnScope levDef) L a ccd)) Q E {s with heap := h', toks := tk'}) :
  wpAny (model prog w) (ktrTop dp un gd cn (fnScope levDef) L a ccd [] outer) (execs ((fnBody levDef).getD 7 default :: (fnBody levDef).getD 8 default :: tail) (envOf cn (fnScope levDef) L a ccd)) Q E s := by
  dsimp only [levDef, PySem.Challenge.pw_pe0144_01, fnBody, fnScope, List.getD, List.getD_eq_getElem?_getD, List.getElem?_cons_succ, List.getElem?_cons_zero, Option.getD] at hE hnext ⊢
  delta mQ at F
  (try dsimp only at F)
  repeat' (first | (k_unfold; (try dsimp only)) | (k_end; wrow_close) | (with_reducible (k_here; (with_reducible show wpAny _ _ (subscriptTail _ (PySem.Expr.Slice none (some _) none _) (Value.str _ _) (Value.ref _)) _ _ _); k_dflt (refine' slice_strN_nn_len ?k1zq17 ?k2zq17 ?_ ?k3zq17 ?k4zq17 ?k5zq17; (case k1zq17 => k_asm); (case k2zq17 => k_asm); (case k3zq17 => with_unfolding_all rfl); (case k4zq17 => (intro _; with_unfolding_all rfl)); (case k5zq17 => size_fits); intro _ _ _ Fzq' Nzq' _; (try dsimp only)))) | (with_reducible ((with_reducible show wpAny _ _ (exec (PySem.Stmt.While (PySem.Expr.BoolOp _ _ _) _ _ _) _) _ _ _); (refine whl_start 7 ?_; with_unfolding_all refine' post_loop ?k1zq16 ?k2zq16 ?k3zq16 ?k4zq16 ?k5zq16 ?k6zq16 ?k7zq16 ?k8zq16 7 0 _ _ (by omega) (by omega) ?k12zq16 (fr_ext ?k9zq16 ?k10zq16) ?k11zq16 ?_; (case k9zq16 => k_asm); (case k10zq16 => (with_unfolding_all (refine chain_ext levNames (fun zzq hzzq => Eq.trans (b := none) ?_ (Eq.symm ?_)) ?_; (repeat (refine ite_nin hzzq ?_ ?_; rfl)); rfl; (repeat (refine ite_nin hzzq ?_ ?_; rfl)); rfl; unfold levNames; (repeat (refine List.forall_mem_cons.mpr ⟨?_, ?_⟩; rfl)); exact List.forall_mem_nil _))); (case k12zq16 => omega); (case k1zq16 => k_asm); (case k2zq16 => k_asm); (case k3zq16 => k_asm); (case k4zq16 => assumption); (case k5zq16 => assumption); (case k6zq16 => assumption); (case k7zq16 => assumption); (case k8zq16 => assumption); (case k11zq16 => k_asm); intro tzq' hzq' tkzq' Fzq' Nzq'; (try dsimp only)))) | (with_reducible ((with_reducible show wpAny _ _ (exec (PySem.Stmt.While (PySem.Expr.BoolOp _ _ _) _ _ _) _) _ _ _); (refine whl_start 7 ?_; with_unfolding_all refine' pre_loop ?k1zq15 ?k2zq15 ?k3zq15 ?k4zq15 ?k5zq15 ?k6zq15 ?k7zq15 ?k8zq15 7 0 _ _ (by omega) (by omega) (by omega) (fr_ext ?k9zq15 ?k10zq15) ?k11zq15 ?_; (case k9zq15 => k_asm); (case k10zq15 => (with_unfolding_all (refine chain_ext levNames (fun zzq hzzq => Eq.trans (b := none) ?_ (Eq.symm ?_)) ?_; (repeat (refine ite_nin hzzq ?_ ?_; rfl)); rfl; (repeat (refine ite_nin hzzq ?_ ?_; rfl)); rfl; unfold levNames; (repeat (refine List.forall_mem_cons.mpr ⟨?_, ?_⟩; rfl)); exact List.forall_mem_nil _))); (case k1zq15 => k_asm); (case k2zq15 => k_asm); (case k3zq15 => k_asm); (case k4zq15 => assumption); (case k5zq15 => assumption); (case k6zq15 => assumption); (case k7zq15 => assumption); (case k8zq15 => assumption); (case k11zq15 => k_asm); intro tzq' hzq' tkzq' Fzq' Nzq'; (try dsimp only)))) | walk1 | (dsimp only; walk1) | (leave1; walk_say "STEP leave1"; try dsimp only) | fail "no step")
  refine' hnext _ _ _ _ (fr_ext ?f2 ?e2) ?n2
  case f2 => assumption
  case n2 => assumption
  case e2 => (with_unfolding_all (refine chain_ext levNames (fun z hz => Eq.trans (b := none) ?_ (Eq.symm ?_)) ?_; (repeat (refine ite_nin hz ?_ ?_; rfl)); rfl; (repeat (refine ite_nin hz ?_ ?_; rfl)); rfl; unfold levNames; (repeat (refine List.forall_mem_cons.mpr ⟨?_, ?_⟩; rfl)); exact List.forall_mem_nil _))
theorem lev_seg4 {x y : Str} {mc pre post : Int} {t1 t2 t3 t4 t5 : Tok}
  (B : Below A₀ base outer h₀) (F : Fr h₀ L s.heap (mQ x y mc pre post t1 t2 t3 t4 t5)) (X : (hd.heap_1 w.params).In h₀) (N : News h₀ L s.heap news) (T : Top p loose mean mg mb h₀)
  (hd' : dp + 3 < recursionLimit) (hu : un + 20 < cLine) (hx : 1 ≤ x.length ∧ x.length ≤ 6) (hy : y.length = x.length) (hm : 0 ≤ mc) (c1 : ((x.length : Int) != 0) = true) (c2 : ((y.length : Int) != 0) = true)
  (hE : PassesOwn (model prog w) (ktrTop dp un gd cn (fnScope levDef) L a ccd [] outer) (envOf cn (fnScope levDef) L a ccd) E)
  (hnext : ∀  h' tk', Fr h₀ L h' (mQ x y mc pre post t1 t2 t3 t4 t5) → News h₀ L h' news → wpAny (model prog w) (ktrTop dp un gd cn (fnScope levDef) L a ccd [] outer) (execs tail (envOf cn (fnScope levDef) L a ccd)) Q E {s with heap := h', toks := tk'}) :
  wpAny (model prog w) (ktrTop dp un gd cn (fnScope levDef) L a ccd [] outer) (execs ((fnBody levDef).getD 9 default :: (fnBody levDef).getD 10 default :: (fnBody levDef).getD 11 default :: (fnBody levDef).getD 12 default :: tail) (envOf cn (fnScope levDef) L a ccd)) Q E s := by
  dsimp only [levDef, PySem.Challenge.pw_pe0144_01, fnBody, fnScope, List.getD, List.getD_eq_getElem?_getD, List.getElem?_cons_succ, List.getElem?_cons_zero, Option.getD] at hE hnext ⊢
  delta mQ at F
  (try dsimp only at F)
  repeat' (first | (k_unfold; (try dsimp only)) | (k_end; wrow_close) | (with_reducible (k_here; (with_reducible show wpAny _ _ (subscriptTail _ (PySem.Expr.Slice none (some _) none _) (Value.str _ _) (Value.ref _)) _ _ _); k_dflt (refine' slice_strN_nn_len ?k1zq17 ?k2zq17 ?_ ?k3zq17 ?k4zq17 ?k5zq17; (case k1zq17 => k_asm); (case k2zq17 => k_asm); (case k3zq17 => with_unfolding_all rfl); (case k4zq17 => (intro _; with_unfolding_all rfl)); (case k5zq17 => size_fits); intro _ _ _ Fzq' Nzq' _; (try dsimp only)))) | (with_reducible ((with_reducible show wpAny _ _ (exec (PySem.Stmt.While (PySem.Expr.BoolOp _ _ _) _ _ _) _) _ _ _); (refine whl_start 7 ?_; with_unfolding_all refine' post_loop ?k1zq16 ?k2zq16 ?k3zq16 ?k4zq16 ?k5zq16 ?k6zq16 ?k7zq16 ?k8zq16 7 0 _ _ (by omega) (by omega) ?k12zq16 (fr_ext ?k9zq16 ?k10zq16) ?k11zq16 ?_; (case k9zq16 => k_asm); (case k10zq16 => (with_unfolding_all (refine chain_ext levNames (fun zzq hzzq => Eq.trans (b := none) ?_ (Eq.symm ?_)) ?_; (repeat (refine ite_nin hzzq ?_ ?_; rfl)); rfl; (repeat (refine ite_nin hzzq ?_ ?_; rfl)); rfl; unfold levNames; (repeat (refine List.forall_mem_cons.mpr ⟨?_, ?_⟩; rfl)); exact List.forall_mem_nil _))); (case k12zq16 => omega); (case k1zq16 => k_asm); (case k2zq16 => k_asm); (case k3zq16 => k_asm); (case k4zq16 => assumption); (case k5zq16 => assumption); (case k6zq16 => assumption); (case k7zq16 => assumption); (case k8zq16 => assumption); (case k11zq16 => k_asm); intro tzq' hzq' tkzq' Fzq' Nzq'; (try dsimp only)))) | (with_reducible ((with_reducible show wpAny _ _ (exec (PySem.Stmt.While (PySem.Expr.BoolOp _ _ _) _ _ _) _) _ _ _); (refine whl_start 7 ?_; with_unfolding_all refine' pre_loop ?k1zq15 ?k2zq15 ?k3zq15 ?k4zq15 ?k5zq15 ?k6zq15 ?k7zq15 ?k8zq15 7 0 _ _ (by omega) (by omega) (by omega) (fr_ext ?k9zq15 ?k10zq15) ?k11zq15 ?_; (case k9zq15 => k_asm); (case k10zq15 => (with_unfolding_all (refine chain_ext levNames (fun zzq hzzq => Eq.trans (b := none) ?_ (Eq.symm ?_)) ?_; (repeat (refine ite_nin hzzq ?_ ?_; rfl)); rfl; (repeat (refine ite_nin hzzq ?_ ?_; rfl)); rfl; unfold levNames; (repeat (refine List.forall_mem_cons.mpr ⟨?_, ?_⟩; rfl)); exact List.forall_mem_nil _))); (case k1zq15 => k_asm); (case k2zq15 => k_asm); (case k3zq15 => k_asm); (case k4zq15 => assumption); (case k5zq15 => assumption); (case k6zq15 => assumption); (case k7zq15 => assumption); (case k8zq15 => assumption); (case k11zq15 => k_asm); intro tzq' hzq' tkzq' Fzq' Nzq'; (try dsimp only)))) | walk1 | (dsimp only; walk1) | (leave1; walk_say "STEP leave1"; try dsimp only) | fail "no step")
  refine' hnext _ _ (fr_ext ?f2 ?e2) ?n2
  case f2 => assumption
  case n2 => assumption
  case e2 => intro z; rfl
end

end
section
theorem fillL4g : PySem.Challenge.rw_pe0144_01 = PySem.Challenge.rw_pe0144_01 ∧ hd.heap_1 = hd.heap_1 := by
  w_top off
  w_top off
  k_fill
  exact ⟨rfl, rfl⟩
section
variable {prog : Program} {w : World} {A : Around} {E : Value → Shared → Prop} {s : Shared} {h₀ : Heap} {L : Addr} {m : Str → Option Value} {news : List (Addr × Obj)} {Q : Value → Shared → Prop}
theorem list_rangeK {r : Addr} {b : Int} {t u v : Tok} {n : Nat} (hh : A.handled = none) (F : Fr h₀ L s.heap m) (N : News h₀ L s.heap news)
    (hr : IsRange s.heap r 2 b 2 t u v) (hb : b = 2 * ((n : Int) + 1)) (hn : n ≤ 6)
    (hQ : ∀ D h' tk vals c, (∀ p ∈ news, p.1 < D) → IntsAre vals (rangeInts 2 2 n) → Fr h₀ L h' m → News h₀ L h' ((D, W.listOf vals.toArray c) :: news) → Q (.ref D) { s with heap := h', toks := tk }) :
    wpAny (model prog w) A (call (.type "list") [.ref r]) Q E s := by
  subst hb
  have h6 : n = 0 ∨ n = 1 ∨ n = 2 ∨ n = 3 ∨ n = 4 ∨ n = 5 ∨ n = 6 := by omega
  refine list_rangeD hh F N hr ?_ (n := n) ?_ (by omega) fun h' tk ys F' N' hk hnew hl hp hc => ?_
  · rcases h6 with rfl | rfl | rfl | rfl | rfl | rfl | rfl <;> decide
  · rcases h6 with rfl | rfl | rfl | rfl | rfl | rfl | rfl <;> decide
  · obtain ⟨c, hget⟩ := hp.1
    refine hQ _ h' tk ys c (fun p hq => Heap.lt_size (N p hq).1) (IntsAre.ofCarried hc) F' fun p hq => ?_
    rcases List.mem_cons.mp hq with rfl | hq
    · exact ⟨hget, hp.ne_locals F', hnew⟩
    · exact N' p hq
end
theorem news_tail {h₀ h : Heap} {L : Addr} {q : Addr × Obj} {l : List (Addr × Obj)} (N : News h₀ L h (q :: l)) : News h₀ L h l := fun p hp => N p (.tail _ hp)
noncomputable def outSt (x y : Str) : Nat → Int × List Int
  | 0 => (0, rangeInts 2 2 x.length)
  | i + 1 => ((inFold (Txt.item y (i : Int)) x ((i : Int) * 2, (i : Int) * 2, 9223372036854775807, (outSt x y i).2)).2.1, (inFold (Txt.item y (i : Int)) x ((i : Int) * 2, (i : Int) * 2, 9223372036854775807, (outSt x y i).2)).2.2.2)
noncomputable def RO (x y : Str) (mc pre post : Int) (row : Addr) (t1 t2 t3 t4 t5 : Tok) (c : Nat) (rest : List (Addr × Obj)) (i : Nat) (m : Str → Option Value) (nx : List (Addr × Obj)) : Prop :=
  ∃ vbi vbc vdi vmn vi vs vd t9 vals, IntsAre vals (outSt x y i).2 ∧ (outSt x y i).2.length = x.length ∧ m = mO x y mc pre post row vbi vbc vdi (outSt x y i).1 vmn vi vs vd t1 t2 t3 t4 t5 t9 ∧ nx = (row, W.listOf vals.toArray c) :: rest
theorem mO_bindex {x y : Str} {mc pre post : Int} {row : Addr} {vbi vbi' vbc vdi : Option Value} {r : Int} {vmn vi vs vd : Option Value} {t1 t2 t3 t4 t5 t9 : Tok} :
    (fun z => if z = Str.ofString "bindex" then vbi' else mO x y mc pre post row vbi vbc vdi r vmn vi vs vd t1 t2 t3 t4 t5 t9 z) = mO x y mc pre post row vbi' vbc vdi r vmn vi vs vd t1 t2 t3 t4 t5 t9 := by
  funext z
  by_cases g : z = Str.ofString "bindex"
  · exact (if_pos g).trans (if_pos g).symm
  · exact (if_neg g).trans ((if_neg g).trans (if_neg g).symm)
section
variable {prog : Program} {w : World} {p : Program} {loose : List Str} {mean : ExcName → Option Value} {mg mb : Str → Option Value}
  {dp un : Nat} {gd : Option (List Code)} {cn : Str} {a : Addr} {ccd : Value} {outer : List Env} {A₀ : Around} {base h₀ : Heap} {L : Addr} {m : Str → Option Value} {s : Shared} {E : Value → Shared → Prop} {news : List (Addr × Obj)} {tail : List Stmt} {Q : Flow → Shared → Prop}
theorem lev_seg5 {x y : Str} {mc pre post : Int} {t1 t2 t3 t4 t5 : Tok}
  (B : Below A₀ base outer h₀) (F : Fr h₀ L s.heap (mQ x y mc pre post t1 t2 t3 t4 t5)) (X : (hd.heap_1 w.params).In h₀) (N : News h₀ L s.heap news) (T : Top p loose mean mg mb h₀)
  (hx : 1 ≤ x.length ∧ x.length ≤ 6)
  (hE : PassesOwn (model prog w) (ktrTop dp un gd cn (fnScope levDef) L a ccd [] outer) (envOf cn (fnScope levDef) L a ccd) E)
  (hnext : ∀ row t9 vals c h' tk', (∀ p ∈ news, p.1 < row) → IntsAre vals (rangeInts 2 2 x.length) → Fr h₀ L h' (mO x y mc pre post row none none none 0 none none none none t1 t2 t3 t4 t5 t9) → News h₀ L h' ((row, W.listOf vals.toArray c) :: news) → wpAny (model prog w) (ktrTop dp un gd cn (fnScope levDef) L a ccd [] outer) (execs tail (envOf cn (fnScope levDef) L a ccd)) Q E {s with heap := h', toks := tk'}) :
  wpAny (model prog w) (ktrTop dp un gd cn (fnScope levDef) L a ccd [] outer) (execs ((fnBody levDef).getD 13 default :: (fnBody levDef).getD 14 default :: tail) (envOf cn (fnScope levDef) L a ccd)) Q E s := by
  dsimp only [levDef, PySem.Challenge.pw_pe0144_01, fnBody, fnScope, List.getD, List.getD_eq_getElem?_getD, List.getElem?_cons_succ, List.getElem?_cons_zero, Option.getD] at hE hnext ⊢
  delta mQ at F
  (try dsimp only at F)
  repeat' (first | (k_unfold; (try dsimp only)) | (k_end; wrow_close) | (with_reducible (k_here; (with_reducible show wpAny _ _ (call (Value.type "list") [Value.ref _]) _ _ _); (rename IsRange _ _ _ _ _ _ _ _ => Rzq'); with_unfolding_all refine' list_rangeK rfl ?k1zq18 ?k2zq18 Rzq' rfl ?k3zq18 ?_; (case k1zq18 => k_asm); (case k2zq18 => k_asm); (case k3zq18 => omega); intro Dzq' hzq' tkzq' valszq' czq' l1zq hizq' Fzq' Nzq'; (try dsimp only))) | walk1 | (dsimp only; walk1) | (leave1; walk_say "STEP leave1"; try dsimp only) | fail "no step")
  refine' hnext _ _ _ _ _ _ ?l2 ?i2 (fr_ext ?f2 ?e2) ?n2
  case f2 => assumption
  case n2 => assumption
  case i2 => assumption
  case l2 => assumption
  case e2 => (with_unfolding_all (refine chain_ext levNames (fun z hz => Eq.trans (b := none) ?_ (Eq.symm ?_)) ?_; (repeat (refine ite_nin hz ?_ ?_; rfl)); rfl; (repeat (refine ite_nin hz ?_ ?_; rfl)); rfl; unfold levNames; (repeat (refine List.forall_mem_cons.mpr ⟨?_, ?_⟩; rfl)); exact List.forall_mem_nil _))
theorem outer_loop {x y : Str} {mc pre post : Int} {row : Addr} {t1 t2 t3 t4 t5 t9 : Tok} {vals : List Value} {c : Nat} {rg : Addr} {ta tb tc : Tok}
  (hr : IsRange s.heap rg 0 (y.length : Int) 1 ta tb tc)
  (B : Below A₀ base outer h₀) (F : Fr h₀ L s.heap (mO x y mc pre post row none none none 0 none none none none t1 t2 t3 t4 t5 t9)) (X : (hd.heap_1 w.params).In h₀) (N : News h₀ L s.heap ((row, W.listOf vals.toArray c) :: news)) (T : Top p loose mean mg mb h₀)
  (hi : IntsAre vals (rangeInts 2 2 x.length)) (n5 : ∀ p ∈ news, p.1 ≠ row)
  (hd' : dp + 3 < recursionLimit) (hu : un + 20 < cLine) (hx : x.length ≤ 6) (hy : y.length = x.length)
  (hE : PassesOwn (model prog w) (ktrTop dp un gd cn (fnScope levDef) L a ccd [] outer) (envOf cn (fnScope levDef) L a ccd) E)
  (hmin : ∀ i, i < x.length → (inFold (Txt.item y (i : Int)) x ((i : Int) * 2, (i : Int) * 2, 9223372036854775807, (outSt x y i).2)).2.2.1 ≤ mc)
  (done : ∀ vbi vbc vdi vmn vi vs vd t9 vals h tk, Fr h₀ L h (fun z => if z = Str.ofString "bindex" then vbi else if z = Str.ofString "result" then some (.int (outSt x y x.length).1 t9) else if z = Str.ofString "index" then vi else if z = Str.ofString "minimum" then vmn else if z = Str.ofString "insert_delete" then vd else
  if z = Str.ofString "distance" then vdi else if z = Str.ofString "substitute" then vs else
  if z = Str.ofString "bchar" then vbc else if z = Str.ofString "row" then some (.ref row) else
  if z = Str.ofString "b" then some (.str y t2) else if z = Str.ofString "a" then some (.str x t1) else if z = Str.ofString "post" then some (.int post t5) else if z = Str.ofString "pre" then some (.int pre t4) else if z = Str.ofString "max_cost" then some (.int mc t3) else none) → News h₀ L h ((row, W.listOf vals c) :: news) → Q .next { s with heap := h, toks := tk }) :
  wpAny (model prog w) (ktrTop dp un gd cn (fnScope levDef) L a ccd [] outer) (pyIter (.ref rg))
    (fun it s₂ => LoopAtV prog w (ktrTop dp un gd cn (fnScope levDef) L a ccd [] outer) h₀ (envOf cn (fnScope levDef) L a ccd) (Str.ofString "bindex") (forBody outF) Q E it s₂) E s := by
  refine range_turns (n := y.length) (RO x y mc pre post row t1 t2 t3 t4 t5 c news) rfl hr (by omega) F N
    ⟨none, none, none, none, none, none, none, t9, vals, hi, by simp [outSt, rangeInts], rfl, rfl⟩ ?_ ?_
  · rintro i t m₁ nx h tk own hin hoff ⟨vbi, vbc, vdi, vmn, vi, vs, vd, t9', vals', hi', hl', rfl, rfl⟩ F' N'
    rw [mO_bindex] at F'
    refine outer_turn (rest := news ++ own) B F' X N' T hi' (fun p hp => ?_) hd' hu hx hl' hy (by omega) (by omega) hE (hmin i (by omega)) (fun vbc2 vdi2 vmn2 vi2 vs2 vd2 t92 vals2 h2 tk2 hi2 hl2 F2 N2 => ?_)
    · rcases List.mem_append.mp hp with h | h
      · exact n5 p h
      · exact hoff p h row (by simp)
    · exact ⟨h2, tk2, _, _, _, rfl, F2, N2, fun p hp => (List.mem_cons.mp hp).elim (fun e => e ▸ .head _) (fun e => .tail _ (List.mem_append.mpr (.inl e))), fun p hp => .tail _ (List.mem_append.mpr (.inr hp)), rfl, ⟨_, _, _, _, _, _, _, _, _, hi2, hl2, rfl, rfl⟩⟩
  · rintro m₁ nx h tk ⟨vbi, vbc, vdi, vmn, vi, vs, vd, t9', vals', hi', hl', rfl, rfl⟩ F' N'
    rw [hy] at F'
    exact done vbi vbc vdi vmn vi vs vd t9' _ h tk F' N'
theorem lev_seg6 {x y : Str} {mc pre post : Int} {row : Addr} {t1 t2 t3 t4 t5 t9 : Tok} {vals : List Value} {c : Nat}
  (B : Below A₀ base outer h₀) (F : Fr h₀ L s.heap (mO x y mc pre post row none none none 0 none none none none t1 t2 t3 t4 t5 t9)) (X : (hd.heap_1 w.params).In h₀) (N : News h₀ L s.heap ((row, W.listOf vals.toArray c) :: news)) (T : Top p loose mean mg mb h₀)
  (hi : IntsAre vals (rangeInts 2 2 x.length)) (n5 : ∀ p ∈ news, p.1 ≠ row)
  (hd' : dp + 3 < recursionLimit) (hu : un + 20 < cLine) (hx : x.length ≤ 6) (hy : y.length = x.length)
  (hE : PassesOwn (model prog w) (ktrTop dp un gd cn (fnScope levDef) L a ccd [] outer) (envOf cn (fnScope levDef) L a ccd) E)
  (hmin : ∀ i, i < x.length → (inFold (Txt.item y (i : Int)) x ((i : Int) * 2, (i : Int) * 2, 9223372036854775807, (outSt x y i).2)).2.2.1 ≤ mc)
  (hret : ∀ t m' h' tk', Fr h₀ L h' m' → News h₀ L h' news → Q (.ret (.int (outSt x y x.length).1 t)) {s with heap := h', toks := tk'}) :
  wpAny (model prog w) (ktrTop dp un gd cn (fnScope levDef) L a ccd [] outer) (execs [(fnBody levDef).getD 15 default, (fnBody levDef).getD 16 default] (envOf cn (fnScope levDef) L a ccd)) Q E s := by
  dsimp only [levDef, PySem.Challenge.pw_pe0144_01, fnBody, fnScope, List.getD, List.getD_eq_getElem?_getD, List.getElem?_cons_succ, List.getElem?_cons_zero, Option.getD] at hE ⊢
  delta mO at F
  (try dsimp only at F)
  repeat' (first | (k_unfold; (try dsimp only)) | (k_end; wrow_close) | (with_reducible ((with_reducible show wpAny _ _ (pyIter (Value.ref _)) (fun it s₂ => LoopAtV _ _ _ _ _ _ _ _ _ it s₂) _ _); (rename IsRange _ _ _ _ _ _ _ _ => rgXzq); with_unfolding_all refine' outer_loop rgXzq ?k1zq20 (fr_ext ?k2zq20 ?k3zq20) ?k4zq20 ?k5zq20 ?k6zq20 ?k7zq20 ?k8zq20 ?k9zq20 ?k10zq20 ?k11zq20 ?k12zq20 ?k13zq20 ?k14zq20 ?_; (case k1zq20 => k_asm); (case k2zq20 => k_asm); (case k5zq20 => k_asm); (case k6zq20 => k_asm); (case k3zq20 => (intro zzq; rfl)); (case k4zq20 => k_asm); (case k7zq20 => with_unfolding_all assumption); (case k8zq20 => assumption); (case k9zq20 => assumption); (case k10zq20 => assumption); (case k11zq20 => with_unfolding_all assumption); (case k12zq20 => assumption); (case k13zq20 => assumption); (case k14zq20 => with_unfolding_all assumption); (intro vbizq' vbczq' vdizq' vmnzq' vizq' vszq' vdzq' t9zq' valszq' hzq' tkzq' Fzq' Nzq'); (try dsimp only))) | (with_reducible ((with_reducible show wpAny _ _ (exec (PySem.Stmt.For (PySem.Expr.Name _ _) (PySem.Expr.Call _ _ _ _) (_ :: _) [] _) _) _ _ _); (k_here; (rename Fr _ _ _ _ => lFzq'); (with_unfolding_all refine' For_invVF lFzq' ?k1zq19 ?k2zq19 ?_ ?k3zq19 ?k4zq19; (case k1zq19 => exact rfl); (case k2zq19 => exact rfl); (case k3zq19 => (intro _; rfl)); (case k4zq19 => assumption); k_whole)))) | (with_reducible (k_here; (with_reducible show wpAny _ _ (call (Value.type "list") [Value.ref _]) _ _ _); (rename IsRange _ _ _ _ _ _ _ _ => Rzq'); with_unfolding_all refine' list_rangeK rfl ?k1zq18 ?k2zq18 Rzq' rfl ?k3zq18 ?_; (case k1zq18 => k_asm); (case k2zq18 => k_asm); (case k3zq18 => omega); intro Dzq' hzq' tkzq' valszq' czq' l1zq hizq' Fzq' Nzq'; (try dsimp only))) | walk1 | (dsimp only; walk1) | (leave1; walk_say "STEP leave1"; try dsimp only) | fail "no step")
  refine' hret _ _ _ _ ?f2 (news_tail ?n2)
  case f2 => assumption
  case n2 => assumption
end

end
section
theorem fillL4h : PySem.Challenge.rw_pe0144_01 = PySem.Challenge.rw_pe0144_01 ∧ hd.heap_1 = hd.heap_1 := by
  w_top off
  w_top off
  k_fill
  exact ⟨rfl, rfl⟩
theorem lookup_nin {z : Str} {ks : List Str} (hz : ∀ k, ks.contains k = true → z ≠ k) : ∀ {l : List (Str × Value)}, (∀ p ∈ l, ks.contains p.1 = true) → List.lookup z l = none
  | [], _ => rfl
  | (k, v) :: l, h => by
    have h1 : (z == k) = false := by simpa using hz k (h _ (.head _))
    rw [List.lookup_cons, h1]
    exact lookup_nin hz fun p hp => h p (.tail _ hp)
theorem preK_in (x y : Str) : ∀ (n : Nat) (k : Int), 0 ≤ k → k ≤ 6 → 0 ≤ preK x y n k ∧ preK x y n k ≤ 6
  | 0, k, h0, h6 => ⟨h0, h6⟩
  | n + 1, k, h0, h6 => by
    unfold preK
    split
    · split
      · exact preK_in x y n (k + 1) (by omega) (by omega)
      · exact ⟨h0, h6⟩
    · exact ⟨h0, h6⟩
noncomputable def lvK (x y : Str) : Int := preK x y 7 0
noncomputable def lvX (x y : Str) : Str := Txt.slice x (some (lvK x y)) none
noncomputable def lvY (x y : Str) : Str := Txt.slice y (some (lvK x y)) none
noncomputable def lvJ (x y : Str) : Int := postK (lvX x y) (lvY x y) 7 0
noncomputable def lvA (x y : Str) : Str := cutS (lvX x y) (lvJ x y)
noncomputable def lvB (x y : Str) : Str := cutS (lvY x y) (lvJ x y)
noncomputable def levS (x y : Str) : Int := if (x == y) = true then 0 else (outSt (lvA x y) (lvB x y) (lvA x y).length).1
noncomputable def levMin (x y : Str) (i : Nat) : Int := (inFold (Txt.item y (i : Int)) x ((i : Int) * 2, (i : Int) * 2, 9223372036854775807, (outSt x y i).2)).2.2.1
structure LevOk (x y : Str) (mc : Int) : Prop where
  lx : x.length = 6
  ly : y.length = 6
  m0 : 0 ≤ mc
  x1 : (x == y) = false → 1 ≤ (lvX x y).length ∧ (lvX x y).length ≤ 6 ∧ (lvY x y).length = (lvX x y).length
  x2 : (x == y) = false → 1 ≤ (lvA x y).length ∧ (lvA x y).length ≤ 6 ∧ (lvB x y).length = (lvA x y).length
  mn : (x == y) = false → ∀ i, i < (lvA x y).length → levMin (lvA x y) (lvB x y) i ≤ mc
section
variable {prog : Program} {w : World} {p : Program} {loose : List Str} {mean : ExcName → Option Value} {mg mb : Str → Option Value}
  {dp un : Nat} {gd : Option (List Code)} {cn : Str} {a : Addr} {ccd : Value} {outer : List Env} {A₀ : Around} {base h₀ : Heap} {L : Addr} {m : Str → Option Value} {s : Shared} {E : Value → Shared → Prop} {news : List (Addr × Obj)} {tail : List Stmt} {Q : Flow → Shared → Prop}
theorem lev_body {x y : Str} {mc : Int} {t1 t2 t3 : Tok}
  (B : Below A₀ base outer h₀) (F : Fr h₀ L s.heap (fun z => if z = Str.ofString "a" then some (.str x t1) else if z = Str.ofString "b" then some (.str y t2) else if z = Str.ofString "max_cost" then some (.int mc t3) else none)) (X : (hd.heap_1 w.params).In h₀) (N : News h₀ L s.heap news) (T : Top p loose mean mg mb h₀)
  (hd' : dp + 3 < recursionLimit) (hu : un + 20 < cLine) (ok : LevOk x y mc)
  (hE : PassesOwn (model prog w) (ktrTop dp un gd cn (fnScope levDef) L a ccd [] outer) (envOf cn (fnScope levDef) L a ccd) E)
  (hret : ∀ t m' h' tk', Fr h₀ L h' m' → News h₀ L h' news → Q (.ret (.int (levS x y) t)) {s with heap := h', toks := tk'}) :
  wpAny (model prog w) (ktrTop dp un gd cn (fnScope levDef) L a ccd [] outer) (execs ((fnBody levDef).getD 0 default :: (fnBody levDef).getD 1 default :: (fnBody levDef).getD 2 default :: (fnBody levDef).getD 3 default :: (fnBody levDef).getD 4 default :: (fnBody levDef).getD 5 default :: (fnBody levDef).getD 6 default :: (fnBody levDef).getD 7 default :: (fnBody levDef).getD 8 default :: (fnBody levDef).getD 9 default :: (fnBody levDef).getD 10 default :: (fnBody levDef).getD 11 default :: (fnBody levDef).getD 12 default :: (fnBody levDef).getD 13 default :: (fnBody levDef).getD 14 default :: [(fnBody levDef).getD 15 default, (fnBody levDef).getD 16 default]) (envOf cn (fnScope levDef) L a ccd)) Q E s := by
  refine lev_seg1 B F X N T hd' hu ok.lx ok.ly hE (fun t h' tk' c F' N' => ?_) fun t h' tk' c F' N' => ?_
  · have := hret t _ h' tk' F' N'
    rw [levS, if_pos c] at this
    exact this
  have hk := preK_in x y 7 0 (by decide) (by decide)
  have o1 := ok.x1 c
  have o2 := ok.x2 c
  refine lev_seg2 (s := { s with heap := h', toks := tk' }) B F' X N' T hd' hu ok.lx ok.ly hk.1 hk.2 ⟨o1.1, o1.2.1⟩ o1.2.2 hE fun t1' t2' t5' h2 tk2 F2 N2 => ?_
  have rest : ∀ t1' t2' h3 tk3, Fr h₀ L h3 (mQ (lvA x y) (lvB x y) mc (lvK x y) (lvJ x y) t1' t2' t3 t t5') → News h₀ L h3 news →
      wpAny (model prog w) (ktrTop dp un gd cn (fnScope levDef) L a ccd [] outer) (execs ((fnBody levDef).getD 9 default :: (fnBody levDef).getD 10 default :: (fnBody levDef).getD 11 default :: (fnBody levDef).getD 12 default :: (fnBody levDef).getD 13 default :: (fnBody levDef).getD 14 default :: [(fnBody levDef).getD 15 default, (fnBody levDef).getD 16 default]) (envOf cn (fnScope levDef) L a ccd)) Q E { s with heap := h3, toks := tk3 } := fun t1' t2' h3 tk3 F3 N3 => by
    refine lev_seg4 (s := { s with heap := h3, toks := tk3 }) B F3 X N3 T hd' hu ⟨o2.1, o2.2.1⟩ o2.2.2 ok.m0 (by simp; omega) (by simp; omega) hE fun h4 tk4 F4 N4 => ?_
    refine lev_seg5 (s := { s with heap := h4, toks := tk4 }) B F4 X N4 T ⟨o2.1, o2.2.1⟩ hE fun row t9 vals c5 h5 tk5 l5 i5 F5 N5 => ?_
    refine lev_seg6 (s := { s with heap := h5, toks := tk5 }) B F5 X N5 T i5 (fun p hp => Nat.ne_of_lt (l5 p hp)) hd' hu o2.2.1 o2.2.2 hE (ok.mn c) fun t m' h6 tk6 F6 N6 => ?_
    have := hret t m' h6 tk6 F6 N6
    rw [levS, if_neg (by rw [c]; decide)] at this
    exact this
  by_cases hj : lvJ x y = 0
  · refine lev_seg3a (s := { s with heap := h2, toks := tk2 }) B F2 X N2 T hd' hu o1.2.1 (show (lvY x y).length ≤ 6 from by omega) (by show (lvJ x y != 0) = false; simp; exact hj) hE fun t1'' t2'' h3 tk3 F3 N3 => ?_
    refine rest t1'' t2'' h3 tk3 ?_ N3
    have e1 : lvA x y = Txt.slice (lvX x y) none none := if_pos hj
    have e2 : lvB x y = Txt.slice (lvY x y) none none := if_pos hj
    rw [e1, e2]
    exact F3
  · refine lev_seg3b (s := { s with heap := h2, toks := tk2 }) B F2 X N2 T hd' hu o1.2.1 (show (lvY x y).length ≤ 6 from by omega) (by show (lvJ x y != 0) = true; simp; exact hj) hE fun t1'' t2'' h3 tk3 F3 N3 => ?_
    refine rest t1'' t2'' h3 tk3 ?_ N3
    have e1 : lvA x y = Txt.slice (lvX x y) none (some (lvJ x y)) := if_neg hj
    have e2 : lvB x y = Txt.slice (lvY x y) none (some (lvJ x y)) := if_neg hj
    rw [e1, e2]
    exact F3
variable {cs : Scope} {cl : List (Str × Addr)} {Q : Value → Shared → Prop}
theorem lev_spec {x y : Str} {mc : Int} {t1 t2 t3 : Tok}
  (B : Below A₀ base outer h₀) (F : Fr h₀ L s.heap m) (X : (hd.heap_1 w.params).In h₀) (N : News h₀ L s.heap news) (T : Top p loose mean mg mb h₀) (hk : cs.kind = .function)
  (hd' : dp + 4 < recursionLimit) (hu : un + 30 < cLine) (ok : LevOk x y mc)
  (hret : ∀ t h' tk', Fr h₀ L h' m → News h₀ L h' news → Q (.int (levS x y) t) {s with heap := h', toks := tk'}) :
  wpAny (model prog w) (ktrTop dp un gd cn cs L a ccd cl outer) (call (.ref 84) [.str x t1, .str y t2, .int mc t3]) Q E s := by
  refine wpAny_call ?_
  k_dflt cell_enter
  with_unfolding_all refine' lev_body ?k1 (fr_ext ?k2 ?k3) ?k4 ?k5 ?k6 ?k7 ?k8 ok ?k9 ?k10
  case k1 => k_asm
  case k2 => assumption
  case k4 => assumption
  case k5 => assumption
  case k6 => assumption
  case k3 =>
    with_unfolding_all refine chain_ext [Str.ofString "a", Str.ofString "b", Str.ofString "max_cost"] (fun z hz => Eq.trans (b := none) ?_ (Eq.symm ?_)) ?_
    · with_unfolding_all refine lookup_nin hz (List.forall_mem_cons.mpr ⟨?_, List.forall_mem_cons.mpr ⟨?_, List.forall_mem_cons.mpr ⟨?_, List.forall_mem_nil _⟩⟩⟩) <;> rfl
    · with_unfolding_all (repeat (refine ite_nin hz ?_ ?_; rfl)); rfl
    · with_unfolding_all (repeat (refine List.forall_mem_cons.mpr ⟨?_, ?_⟩; rfl)); exact List.forall_mem_nil _
  case k7 => ktr_room
  case k8 => ktr_units
  case k9 => with_unfolding_all passes_own
  case k10 =>
    intro t' m' h' tk' F' N'
    k_steps
    refine' hret _ _ _ ?f2 ?n2
    case f2 => assumption
    case n2 => assumption
end

end
section
theorem fillL5 : PySem.Challenge.rw_pe0144_01 = PySem.Challenge.rw_pe0144_01 ∧ hd.heap_1 = hd.heap_1 := by
  w_top off
  w_top off
  k_fill
  exact ⟨rfl, rfl⟩
section
variable {prog : Program} {w : World} {A : Around} {E : Value → Shared → Prop} {s : Shared} {Q : Value → Shared → Prop} {env : Env}
theorem ifexp_vote {T1 T2 : PySem.Expr} {p1 p2 p3 p4 p5 : Pos} {u1 u2 u3 : Nat} {b1 b2 : Bool}
    (h1 : wpAny (model prog w) A (isTrue T1 env (eval T1 env)) (fun c s' => c = b1 ∧ s' = s) E s)
    (h2 : wpAny (model prog w) A (isTrue T2 env (eval T2 env)) (fun c s' => c = b2 ∧ s' = s) E s)
    (hQ : ∀ t, Q (.int (if b1 = true then 2 else if b2 = true then 1 else 0) t) { s with toks := s.toks + 1 }) :
    wpAny (model prog w) A (eval (.IfExp T1 (.Constant (.int 2) u1 p1) (.IfExp T2 (.Constant (.int 1) u2 p2) (.Constant (.int 0) u3 p3) p4) p5) env) Q E s := by
  refine IfExp_ (wpAny_mono h1 ?_ fun _ _ e => e)
  rintro c s' ⟨rfl, rfl⟩
  cases c with
  | true =>
    k_steps
    exact hQ _
  | false =>
    simp only [Bool.false_eq_true, if_false] at hQ ⊢
    refine IfExp_ (wpAny_mono h2 ?_ fun _ _ e => e)
    rintro c s' ⟨rfl, rfl⟩
    cases c with
    | true =>
      k_steps
      exact hQ _
    | false =>
      k_steps
      exact hQ _
end
theorem compEnd_same {h₀ : Heap} {L I C D : Addr} {m : Str → Option Value} {s₁ : Shared} {oI oC oD : Obj} {S : List (Addr × Obj) → Prop} {rest : Value → List (Addr × Obj) → Prop} {y : Value} {h' : Heap} {tk : Nat} {news' : List (Addr × Obj)}
    (F : Fr h₀ L h' m) (N : News h₀ L h' ((I, oI) :: (C, oC) :: (D, oD) :: news')) (off : LCg.Off3 I C D news') (hS : S news') (r : rest y news') :
    LCg.CompEnd h₀ L m s₁ I oI C oC D oD S rest y { s₁ with heap := h', toks := tk } := LCg.CompEnd.intro F N news' (fun _ hp => hp) off hS r
section
variable {prog : Program} {w : World} {p : Program} {loose : List Str} {mean : ExcName → Option Value} {mg mb : Str → Option Value}
  {dp un : Nat} {gd : Option (List Code)} {cn : Str} {cs : Scope} {a : Addr} {ccd : Value} {cl : List (Str × Addr)} {outer : List Env} {A₀ : Around} {base h₀ : Heap} {L : Addr} {m : Str → Option Value} {s : Shared} {Q E : Value → Shared → Prop} {news : List (Addr × Obj)}
noncomputable def voteI (x y : UInt64) : Int := if (Float64.cmp x y == some Ordering.gt) = true then 2 else if (Float64.cmp x y == some Ordering.eq) = true then 1 else 0
theorem off1_all {D : Addr} : ∀ {l : List (Addr × Obj)}, LCg.Off1 D l → ∀ p ∈ l, p.1 ≠ D
  | [], _, _, h => nomatch h
  | q :: r, x, p, h => by
    rcases List.mem_cons.mp h with rfl | h
    · exact x.1
    · exact off1_all x.2 p h
theorem vote_end {r g b : UInt64} {D a1 a2 a3 a4 : Addr} {o1 o2 o3 o4 : Obj} {t0 t1 t2 : Tok} {h' : Heap} {tk' : Nat}
  (hret : ∀ D t0 t1 t2 h' tk', (∀ p ∈ news, p.1 ≠ D) → Fr h₀ L h' m → News h₀ L h' ((D, LCg.lst [.int (voteI r g) t0, .int (voteI g b) t1, .int (voteI b r) t2]) :: news) → Q (.ref D) {s with heap := h', toks := tk'})
  (F : Fr h₀ L h' m) (N : News h₀ L h' ((D, LCg.lst [.int (voteI r g) t0, .int (voteI g b) t1, .int (voteI b r) t2]) :: (a1, o1) :: (a2, o2) :: (a3, o3) :: (a4, o4) :: news))
  (o : a1 ≠ D ∧ a2 ≠ D ∧ a3 ≠ D ∧ a4 ≠ D ∧ LCg.Off1 D news) : Q (.ref D) {s with heap := h', toks := tk'} :=
  hret D t0 t1 t2 h' tk' (off1_all o.2.2.2.2) F fun p hp => N p ((List.mem_cons.mp hp).elim (fun e => e ▸ .head _) fun e => .tail _ (.tail _ (.tail _ (.tail _ (.tail _ e)))))
theorem vote_spec {r g b : UInt64} {t1 t2 t3 : Tok}
  (B : Below A₀ base outer h₀) (F : Fr h₀ L s.heap m) (X : (hd.heap_1 w.params).In h₀) (N : News h₀ L s.heap news) (T : Top p loose mean mg mb h₀) (hk : cs.kind = .function)
  (hd' : dp + 3 < recursionLimit) (hu : un + 20 < cLine)
  (hret : ∀ D t0 t1 t2 h' tk', (∀ p ∈ news, p.1 ≠ D) → Fr h₀ L h' m → News h₀ L h' ((D, LCg.lst [.int (voteI r g) t0, .int (voteI g b) t1, .int (voteI b r) t2]) :: news) → Q (.ref D) {s with heap := h', toks := tk'}) :
  wpAny (model prog w) (ktrTop dp un gd cn cs L a ccd cl outer) (call (.ref 103) [.float r t1, .float g t2, .float b t3]) Q E s := by
  refine wpAny_call ?_
  k_dflt cell_enter
  repeat' (first | (k_unfold; (try dsimp only)) | (k_end; wrow_close) | (with_reducible ((with_reducible show wpAny _ _ (eval (PySem.Expr.IfExp _ (PySem.Expr.Constant _ _ _) (PySem.Expr.IfExp _ _ _ _) _) _) _ _ _); with_unfolding_all refine' ifexp_vote ?h1zq22 ?h2zq22 ?_; (case h1zq22 => k_steps); (case h2zq22 => k_steps); intro tzq'; (try dsimp only))) | (with_reducible ((with_reducible show LCg.CompEnd _ _ _ _ _ _ _ _ _ _ _ _ _ _); (with_unfolding_all refine' compEnd_same ?k1zq21 ?k2zq21 ?k3zq21 ?k4zq21 ?_; (case k1zq21 => assumption); (case k2zq21 => assumption); (case k3zq21 => assumption); (case k4zq21 => lcg_src)))) | ((with_reducible show LCg.CompEnd _ _ _ _ _ _ _ _ _ _ _ _ _ _); (with_unfolding_all refine' compEnd_same ?k1zq21 ?k2zq21 ?k3zq21 ?k4zq21 ?_; (case k1zq21 => assumption); (case k2zq21 => assumption); (case k3zq21 => assumption); (case k4zq21 => lcg_src))) | walk1 | (dsimp only; walk1) | (leave1; walk_say "STEP leave1"; try dsimp only) | fail "no step")
  refine' vote_end hret ?f ?n ?o
  case f => assumption
  case n => assumption
  case o => assumption
end

end
section
open PySem
theorem typeCall_zip_3 (a b c : Value) : checkTypeCall "zip" ⟨[a, b, c], []⟩ = pure () := by kernel_rfl
theorem newCall_zip_3 (a b c : Value) : checkBuiltinCall "zip.__new__" ⟨[.type "zip", a, b, c], []⟩ = pure () := by kernel_rfl
theorem object_init_4 (a b c d : Value) : argsOk "object.__init__" ⟨[a, b, c, d], []⟩ := by
  unfold argsOk; rw [signature?_of (id := "object.__init__") (n := ['_', '_', 't', 'i', 'n', 'i', '_', '_']) (o := ['t', 'c', 'e', 'j', 'b', 'o']) (by kernel_rfl) F.owner_object]; kernel_rfl
noncomputable abbrev IsTri (h : Heap) (T : Addr) (a b c : Value) : Prop := h.get? T = some { cls := .type "tuple", data := .seq #[a, b, c] }
noncomputable abbrev zq1 (h : Heap) (x : Str) (t : Tok) : Heap := h.push { cls := .type "str_ascii_iterator", data := .fields #[.str x t, .int 0 0] }
noncomputable abbrev zq3 (h : Heap) (l : Addr) : Heap := h.push { cls := .type "list_iterator", data := .fields #[.ref l, .int 0 0] }
noncomputable abbrev zq4 (h : Heap) (a b c : Addr) : Heap := h.push { cls := .type "tuple", data := .seq #[.ref a, .ref b, .ref c] }
noncomputable abbrev zq5 (h : Heap) : Heap := h.push { cls := .type "tuple", data := .seq #[.none, .none, .none] }
noncomputable abbrev zq6 (h : Heap) (a b : Addr) : Heap := h.push { cls := .type "zip", data := .fields #[.none, .bool false, .bool false, .ref a, .ref b] }
noncomputable abbrev zqA (h : Heap) (x y : Str) (t u : Tok) : Heap := zq1 (zq1 h x t) y u
noncomputable abbrev zqB (h : Heap) (x y : Str) (t u : Tok) (l : Addr) : Heap := zq3 (zqA h x y t u) l
noncomputable abbrev zqC (h : Heap) (x y : Str) (t u : Tok) (l : Addr) : Heap := zq4 (zqB h x y t u l) h.objs.size (zq1 h x t).objs.size (zqA h x y t u).objs.size
noncomputable abbrev zqD (h : Heap) (x y : Str) (t u : Tok) (l : Addr) : Heap := zq5 (zqC h x y t u l)
noncomputable abbrev zqE (h : Heap) (x y : Str) (t u : Tok) (l : Addr) : Heap := zq6 (zqD h x y t u l) (zqB h x y t u l).objs.size (zqC h x y t u l).objs.size
theorem meets_zip3 (x y : Str) (t u : Tok) (l : Addr) (zs : Array Value) (hx : x.cps.all (· < 128) = true) (hy : y.cps.all (· < 128) = true) :
    Meets (Builtin.«zip.__new__» ⟨[.type "zip", .str x t, .str y u, .ref l], []⟩) (fun _ R s => s.heap.IsList l zs ∧
      R (.ok (.ret (.ref (zqD s.heap x y t u l).objs.size))) { s with heap := zqE s.heap x y t u l }) :=
  .of_wp fun prog w A R s h => by
    obtain ⟨hp, g, d, tk, os⟩ := s; obtain ⟨hl, h⟩ := h
    have hsub := sub_zip
    have hL : Heap.IsList (Shared.heap ⟨zqA hp x y t u, g, d, tk, os⟩) l zs := Heap.IsList.push (Heap.IsList.push hl _) _
    wp_walk using wpAny_pyIter_ascii hx, wpAny_pyIter_ascii hy, wpAny_pyIter_list hL
    exact ⟨_, rfl, h⟩
section
variable {prog : Program} {w : World} {A : Around} {E : Value → Shared → Prop} {s : Shared}
theorem call_zip3 {x y : Str} {t u : Tok} {l : Addr} {zs : Array Value} {Q : Value → Shared → Prop} (hx : x.cps.all (· < 128) = true) (hy : y.cps.all (· < 128) = true) (hl : s.heap.IsList l zs)
    (h : ∀ h' n, n = s.heap.objs.size → IsZip h' (n + 5) (n + 3) (n + 4) .none → IsTri h' (n + 3) (.ref n) (.ref (n + 1)) (.ref (n + 2)) → IsTri h' (n + 4) .none .none .none →
      h'.IsStrIter n "str_ascii_iterator" x t 0 → h'.IsStrIter (n + 1) "str_ascii_iterator" y u 0 → h'.IsListIter (n + 2) l 0 → (∀ c o, s.heap.get? c = some o → h'.get? c = some o) → Q (.ref (n + 5)) { s with heap := h' }) :
    wpAny (model prog w) A (call (.type "zip") [.str x t, .str y u, .ref l]) Q E s := by
  refine callType_new F.called_zip (by decide) (typeCall_zip_3 _ _ _) (newCall_zip_3 _ _ _) (fun obj => object_init_4 obj _ _ _) F.entry_zip_new (meets_zip3 x y t u l zs hx hy) ⟨hl, ?_⟩
  have z1 : (zq1 s.heap x t).objs.size = s.heap.objs.size + 1 := Heap.size_push ..
  have z2 : (zqA s.heap x y t u).objs.size = s.heap.objs.size + 2 := by rw [Heap.size_push, z1]
  have z3 : (zqB s.heap x y t u l).objs.size = s.heap.objs.size + 3 := by rw [Heap.size_push, z2]
  have z4 : (zqC s.heap x y t u l).objs.size = s.heap.objs.size + 4 := by rw [Heap.size_push, z3]
  have z5 : (zqD s.heap x y t u l).objs.size = s.heap.objs.size + 5 := by rw [Heap.size_push, z4]
  have g6 : (zqE s.heap x y t u l).get? (zqD s.heap x y t u l).objs.size = some _ := Heap.get?_push_size _ rfl
  have g5 : (zqE s.heap x y t u l).get? (zqC s.heap x y t u l).objs.size = some _ := Heap.get?_push_of_some _ (Heap.get?_push_size _ rfl)
  have g4 : (zqE s.heap x y t u l).get? (zqB s.heap x y t u l).objs.size = some _ := Heap.get?_push_of_some _ (Heap.get?_push_of_some _ (Heap.get?_push_size _ rfl))
  have g3 : (zqE s.heap x y t u l).get? (zqA s.heap x y t u).objs.size = some _ := Heap.get?_push_of_some _ (Heap.get?_push_of_some _ (Heap.get?_push_of_some _ (Heap.get?_push_size _ rfl)))
  have g2 : (zqE s.heap x y t u l).get? (zq1 s.heap x t).objs.size = some _ := Heap.get?_push_of_some _ (Heap.get?_push_of_some _ (Heap.get?_push_of_some _ (Heap.get?_push_of_some _ (Heap.get?_push_size _ rfl))))
  have g1 : (zqE s.heap x y t u l).get? s.heap.objs.size = some _ := Heap.get?_push_of_some _ (Heap.get?_push_of_some _ (Heap.get?_push_of_some _ (Heap.get?_push_of_some _ (Heap.get?_push_of_some _ (Heap.get?_push_size _ rfl)))))
  show _ ∧ _
  rw [z3, z4, z5] at g6
  rw [z1, z2, z3] at g4
  rw [z4] at g5
  rw [z2] at g3
  rw [z1] at g2
  rw [z5]
  exact ⟨⟨_, g6, rfl⟩, h _ _ rfl g6 g4 g5 ⟨_, g1, rfl, rfl⟩ ⟨_, g2, rfl, rfl⟩ ⟨_, g3, rfl, rfl⟩ fun c o e =>
    Heap.get?_push_of_some _ (Heap.get?_push_of_some _ (Heap.get?_push_of_some _ (Heap.get?_push_of_some _ (Heap.get?_push_of_some _ (Heap.get?_push_of_some _ e)))))⟩

theorem updateSeq_tri {T : Addr} {a b c x : Value} {k : Nat} {Q : Unit → Shared → Prop} (hT : IsTri s.heap T a b c)
    (h : ∀ h', h'.get? T = some { cls := .type "tuple", data := .seq ((#[a, b, c] : Array Value).setIfInBounds k x) } → Heap.SameBut T s.heap h' → Q () { s with heap := h' }) :
    wpAny (model prog w) A (updateSeq T (·.setIfInBounds k x)) Q E s := by
  refine wpAny_updateSeq hT rfl (h _ ?_ (Heap.SameBut.update ..))
  rw [Heap.get?_update_self _ hT rfl]
  simp [Obj.mapSeq]
theorem addr_ne (n : Addr) {a b : Nat} (h : a ≠ b) : n + a ≠ n + b := fun e => h (Nat.add_left_cancel e)
theorem addr_ne0 (n : Addr) (k : Nat) : n + (k + 1) ≠ n := Nat.ne_of_gt (Nat.lt_succ_of_le (Nat.le_add_right n k))
theorem striter_at {h h' : Heap} {a : Addr} {ty : String} {x : Str} {t : Tok} {i : Nat} (y : h.IsStrIter a ty x t i) (k : ∀ o, h.get? a = some o → h'.get? a = some o) : h'.IsStrIter a ty x t i :=
  let ⟨o, ho, r⟩ := y; ⟨o, k o ho, r⟩
theorem zip3_item {n l : Addr} {x y : Str} {t u : Tok} {k c1 c2 : Nat} {zs : Array Value} {v a b c : Value} {Q : Value → Shared → Prop} (hln : l < n)
    (hz : IsZip s.heap (n + 5) (n + 3) (n + 4) .none) (hTI : IsTri s.heap (n + 3) (.ref n) (.ref (n + 1)) (.ref (n + 2))) (hTO : IsTri s.heap (n + 4) a b c)
    (h1 : s.heap.IsStrIter n "str_ascii_iterator" x t k) (h2 : s.heap.IsStrIter (n + 1) "str_ascii_iterator" y u k) (h3 : s.heap.IsListIter (n + 2) l k) (hl : s.heap.IsList l zs)
    (hx : x.cps[k]? = some c1) (hy : y.cps[k]? = some c2) (hv : zs[k]? = some v)
    (hQ : ∀ h' ta tb tk, IsZip h' (n + 5) (n + 3) (n + 4) (rawInt s.heap.objs.size) → (∃ a b c, IsTri h' (n + 4) a b c) → h'.IsStrIter n "str_ascii_iterator" x t (k + 1) → h'.IsStrIter (n + 1) "str_ascii_iterator" y u (k + 1) → h'.IsListIter (n + 2) l (k + 1) →
      IsTri h' s.heap.objs.size (.str ⟨#[c1]⟩ ta) (.str ⟨#[c2]⟩ tb) v → (∀ c o, c ≠ n + 5 → c ≠ n + 4 → c ≠ n → c ≠ n + 1 → c ≠ n + 2 → s.heap.get? c = some o → h'.get? c = some o) → Q (.ref s.heap.objs.size) { s with heap := h', toks := tk }) :
    wpAny (model prog w) A (Builtin.«zip.__next__» ⟨[.ref (n + 5)], []⟩) (fun fin s' => ∃ v, fin = .done (.ret v) ∧ Q v s') E s := by
  have e50 : n + 5 ≠ n := addr_ne0 n 4
  have e40 : n + 4 ≠ n := addr_ne0 n 3
  have e10 : n + 1 ≠ n := addr_ne0 n 0
  have e20 : n + 2 ≠ n := addr_ne0 n 1
  have e51 : n + 5 ≠ n + 1 := addr_ne n (by decide)
  have e52 : n + 5 ≠ n + 2 := addr_ne n (by decide)
  have e54 : n + 5 ≠ n + 4 := addr_ne n (by decide)
  have e41 : n + 4 ≠ n + 1 := addr_ne n (by decide)
  have e42 : n + 4 ≠ n + 2 := addr_ne n (by decide)
  have e21 : n + 2 ≠ n + 1 := addr_ne n (by decide)
  have l0 : l ≠ n := Nat.ne_of_lt hln
  have l1 : l ≠ n + 1 := Nat.ne_of_lt (Nat.lt_succ_of_lt hln)
  have l2 : l ≠ n + 2 := Nat.ne_of_lt (Nat.lt_succ_of_lt (Nat.lt_succ_of_lt hln))
  have l4 : l ≠ n + 4 := Nat.ne_of_lt (Nat.lt_of_lt_of_le hln (Nat.le_add_right _ _))
  have l5 : l ≠ n + 5 := Nat.ne_of_lt (Nat.lt_of_lt_of_le hln (Nat.le_add_right _ _))
  show wpAny _ _ (field (.ref (n + 5)) 2 >>= _) _ _ _
  refine wpAny_bind (wpAny_field hz rfl (x := .bool false) rfl ?_)
  show wpAny _ _ (field (.ref (n + 5)) 3 >>= _) _ _ _
  refine wpAny_bind (wpAny_field hz rfl (x := .ref (n + 3)) rfl ?_)
  refine wpAny_bind (wpAny_seqItems hTI rfl ?_)
  show wpAny _ _ (Builtin.SmallTypes.ownedTupleIsFree (.ref (n + 5)) >>= _) _ _ _
  refine wpAny_bind ?_
  unfold Builtin.SmallTypes.ownedTupleIsFree
  refine wpAny_bind (wpAny_field hz rfl (x := .none) rfl (wpAny_pure ?_))
  simp only [if_true]
  refine wpAny_bind (wpAny_rule ?_)
  refine wpAny_bind (wpAny_field hz rfl (x := .ref (n + 4)) rfl ?_)
  refine wpAny_bind (wpAny_setField_rec hz (by simp) fun q1 hz1 s1 => ?_)
  replace hz1 : IsZip q1 (n + 5) (n + 3) (n + 4) .ellipsis := hz1
  refine wpAny_bind ?_
  simp only [List.zipIdx_cons, List.zipIdx_nil, List.forIn_cons, List.forIn_nil]
  refine wpAny_bind (wpAny_bind (wpAny_onRaise ?_))
  show wpAny _ _ (Builtin.SmallTypes.nextOf (.ref n) >>= _) _ _ _
  refine wpAny_bind (wpAny_nextOf_ascii_item (h1.extBut s1.extBut e50.symm) hx fun q2 h12 s2 => wpAny_pure ?_)
  have hTO2 : IsTri q2 (n + 4) a b c := s2.extBut _ _ e40 (s1.extBut _ _ e54.symm hTO)
  refine wpAny_bind (wpAny_seqItems hTO2 rfl ?_)
  refine wpAny_bind (updateSeq_tri hTO2 fun q3 hTO3 s3 => ?_)
  refine wpAny_bind (wpAny_letGo (wpAny_pure ?_))
  refine wpAny_bind (wpAny_bind (wpAny_onRaise ?_))
  show wpAny _ _ (Builtin.SmallTypes.nextOf (.ref (n + 1)) >>= _) _ _ _
  refine wpAny_bind (wpAny_nextOf_ascii_item (((h2.extBut s1.extBut e51.symm).extBut s2.extBut e10).extBut s3.extBut e41.symm) hy fun q4 h24 s4 => wpAny_pure ?_)
  have hTO4 := s4.extBut _ _ e41 hTO3
  refine wpAny_bind (wpAny_seqItems hTO4 rfl ?_)
  refine wpAny_bind (updateSeq_tri (a := .str ⟨#[c1]⟩ s.toks) (b := b) (c := c) hTO4 fun q5 hTO5 s5 => ?_)
  refine wpAny_bind (wpAny_letGo (wpAny_pure ?_))
  refine wpAny_bind (wpAny_bind (wpAny_onRaise ?_))
  show wpAny _ _ (Builtin.SmallTypes.nextOf (.ref (n + 2)) >>= _) _ _ _
  refine wpAny_bind (wpAny_nextOf_list_item (((((h3.extBut s1.extBut e52.symm).extBut s2.extBut e20).extBut s3.extBut e42.symm).extBut s4.extBut e21).extBut s5.extBut e42.symm)
    (((((hl.extBut s1.extBut l5).extBut s2.extBut l0).extBut s3.extBut l4).extBut s4.extBut l1).extBut s5.extBut l4) hv fun q6 h36 s6 => wpAny_pure ?_)
  have hTO6 := s6.extBut _ _ e42 hTO5
  refine wpAny_bind (wpAny_seqItems hTO6 rfl ?_)
  refine wpAny_bind (updateSeq_tri (a := .str ⟨#[c1]⟩ s.toks) (b := .str ⟨#[c2]⟩ (s.toks + 1)) (c := c) hTO6 fun q7 hTO7 s7 => ?_)
  replace hTO7 : IsTri q7 (n + 4) (.str ⟨#[c1]⟩ s.toks) (.str ⟨#[c2]⟩ (s.toks + 1)) v := hTO7
  refine wpAny_bind (wpAny_letGo (wpAny_pure (wpAny_pure ?_)))
  refine wpAny_bind (wpAny_seqItems hTO7 rfl ?_)
  refine wpAny_bind (wpAny_newTuple ?_)
  have hsz : q7.objs.size = s.heap.objs.size := by rw [s7.1, s6.1, s5.1, s4.1, s3.1, s2.1, s1.1]
  have hz7 : IsZip q7 (n + 5) (n + 3) (n + 4) .ellipsis := s7.extBut _ _ e54 (s6.extBut _ _ e52 (s5.extBut _ _ e54 (s4.extBut _ _ e51 (s3.extBut _ _ e54 (s2.extBut _ _ e50 hz1)))))
  have hk7 : ∀ c o, c ≠ n + 5 → c ≠ n + 4 → c ≠ n → c ≠ n + 1 → c ≠ n + 2 → s.heap.get? c = some o → q7.get? c = some o := fun c o d5 d4 d0 d1 d2 e =>
    s7.extBut _ _ d4 (s6.extBut _ _ d2 (s5.extBut _ _ d4 (s4.extBut _ _ d1 (s3.extBut _ _ d4 (s2.extBut _ _ d0 (s1.extBut _ _ d5 e))))))
  have h17 : q7.IsStrIter n "str_ascii_iterator" x t (k + 1) := ((((h12.extBut s3.extBut e40.symm).extBut s4.extBut e10.symm).extBut s5.extBut e40.symm).extBut s6.extBut e20.symm).extBut s7.extBut e40.symm
  have h27 : q7.IsStrIter (n + 1) "str_ascii_iterator" y u (k + 1) := ((h24.extBut s5.extBut e41.symm).extBut s6.extBut e21.symm).extBut s7.extBut e41.symm
  have h37 : q7.IsListIter (n + 2) l (k + 1) := h36.extBut s7.extBut e42.symm
  have hzlt : n + 5 < q7.objs.size := Heap.lt_size hz7
  show wpAny _ _ (Builtin.SmallTypes.ownedTupleHandOut (.ref (n + 5)) (.ref q7.objs.size) >>= _) _ _ _
  refine wpAny_bind ?_
  unfold Builtin.SmallTypes.ownedTupleHandOut
  have hz8 : IsZip (q7.push { cls := .type "tuple", data := .seq #[.str ⟨#[c1]⟩ s.toks, .str ⟨#[c2]⟩ (s.toks + 1), v] }) (n + 5) (n + 3) (n + 4) .ellipsis := Heap.get?_push_of_some _ hz7
  refine wpAny_bind (wpAny_setField_rec hz8 (by simp) fun q9 hz9 s9 => ?_)
  replace hz9 : IsZip q9 (n + 5) (n + 3) (n + 4) (rawInt q7.objs.size) := hz9
  refine wpAny_setField_rec hz9 (by simp) fun qX hzX sX => ?_
  replace hzX : IsZip qX (n + 5) (n + 3) (n + 4) (rawInt q7.objs.size) := hzX
  have up : ∀ c o, c ≠ n + 5 → q7.get? c = some o → qX.get? c = some o := fun c o d5 e => sX.extBut _ _ d5 (s9.extBut _ _ d5 (Heap.get?_push_of_some _ e))
  have hTX : IsTri qX q7.objs.size (.str ⟨#[c1]⟩ s.toks) (.str ⟨#[c2]⟩ (s.toks + 1)) v := sX.extBut _ _ (Nat.ne_of_gt hzlt) (s9.extBut _ _ (Nat.ne_of_gt hzlt) (Heap.get?_push_size _ rfl))
  rw [hsz] at hzX hTX
  refine wpAny_pure ⟨_, rfl, ?_⟩
  show Q (.ref q7.objs.size) _
  rw [hsz]
  exact hQ qX s.toks (s.toks + 1) _ hzX ⟨_, _, _, up _ _ e54.symm hTO7⟩ (striter_at h17 fun o e => up _ o e50.symm e) (striter_at h27 fun o e => up _ o e51.symm e) (h37.at fun o e => up _ o e52.symm e) hTX fun c o d5 d4 d0 d1 d2 e => up c o d5 (hk7 c o d5 d4 d0 d1 d2 e)
end

end
section
section
variable {prog : Program} {w : World} {A : Around} {E : Value → Shared → Prop} {s : Shared}
theorem zip3_end {n : Addr} {x : Str} {t : Tok} {k : Nat} {a b c i2 i3 : Value} {Q : Fin → Shared → Prop} (hh : A.handled = none)
    (hz : IsZip s.heap (n + 5) (n + 3) (n + 4) .none) (hTI : IsTri s.heap (n + 3) (.ref n) i2 i3) (hTO : IsTri s.heap (n + 4) a b c)
    (h1 : s.heap.IsStrIter n "str_ascii_iterator" x t k) (hx : x.cps[k]? = none)
    (hE : ∀ h' e, (∀ c o, c ≠ n + 5 → c ≠ n → s.heap.get? c = some o → h'.get? c = some o) → (∃ o, h'.get? e = some o ∧ o.cls = .type "StopIteration") → E (.ref e) { s with heap := h' }) :
    wpAny (model prog w) A (Builtin.«zip.__next__» ⟨[.ref (n + 5)], []⟩) Q E s := by
  have e50 : n + 5 ≠ n := addr_ne0 n 4
  show wpAny _ _ (field (.ref (n + 5)) 2 >>= _) _ _ _
  refine wpAny_bind (wpAny_field hz rfl (x := .bool false) rfl ?_)
  show wpAny _ _ (field (.ref (n + 5)) 3 >>= _) _ _ _
  refine wpAny_bind (wpAny_field hz rfl (x := .ref (n + 3)) rfl ?_)
  refine wpAny_bind (wpAny_seqItems hTI rfl ?_)
  show wpAny _ _ (Builtin.SmallTypes.ownedTupleIsFree (.ref (n + 5)) >>= _) _ _ _
  refine wpAny_bind ?_
  unfold Builtin.SmallTypes.ownedTupleIsFree
  refine wpAny_bind (wpAny_field hz rfl (x := .none) rfl (wpAny_pure ?_))
  simp only [if_true]
  refine wpAny_bind (wpAny_rule ?_)
  refine wpAny_bind (wpAny_field hz rfl (x := .ref (n + 4)) rfl ?_)
  refine wpAny_bind (wpAny_setField_rec hz (by simp) fun q1 hz1 s1 => ?_)
  replace hz1 : IsZip q1 (n + 5) (n + 3) (n + 4) .ellipsis := hz1
  refine wpAny_bind ?_
  simp only [List.zipIdx_cons, List.zipIdx_nil, List.forIn_cons, List.forIn_nil]
  refine wpAny_bind (wpAny_bind (wpAny_onRaise ?_))
  show wpAny _ _ (Builtin.SmallTypes.nextOf (.ref n) >>= _) _ _ _
  refine wpAny_bind (wpAny_nextOf_ascii_end hh (h1.extBut s1.extBut e50.symm) hx fun q2 e s2 he => ?_)
  obtain ⟨oe, hoe, hce⟩ := he
  have hz2 : IsZip q2 (n + 5) (n + 3) (n + 4) .ellipsis := s2 _ _ e50 hz1
  have hez : e ≠ n + 5 := fun x => by subst x; rw [hz2] at hoe; cases hoe; simp at hce
  exact wpAny_setField_rec hz2 (by simp) fun q3 _ s3 => hE q3 e (fun c o c5 c0 g => s3.extBut _ _ c5 (s2 _ _ c0 (s1.extBut _ _ c5 g))) ⟨oe, s3.extBut _ _ hez hoe, hce⟩
/-- where the zip stands ahead of turn i -/
noncomputable def ZSt (n l : Addr) (x y : Str) (t u : Tok) (zs : Array Value) (i : Nat) (h : Heap) : Prop :=
  IsZip h (n + 5) (n + 3) (n + 4) .none ∧ IsTri h (n + 3) (.ref n) (.ref (n + 1)) (.ref (n + 2)) ∧ (∃ a b c, IsTri h (n + 4) a b c) ∧
    h.IsStrIter n "str_ascii_iterator" x t i ∧ h.IsStrIter (n + 1) "str_ascii_iterator" y u i ∧ h.IsListIter (n + 2) l i ∧ h.IsList l zs
noncomputable def ZP (x y : Str) (zs : Array Value) (i : Nat) (v : Value) (h : Heap) : Prop :=
  ∃ T c1 c2 z ta tb, v = .ref T ∧ x.cps[i]? = some c1 ∧ y.cps[i]? = some c2 ∧ zs[i]? = some z ∧ IsTri h T (.str ⟨#[c1]⟩ ta) (.str ⟨#[c2]⟩ tb) z
noncomputable def ZMd (n l : Addr) (x y : Str) (t u : Tok) (zs : Array Value) (i : Nat) (v : Value) (h : Heap) : Prop :=
  ∃ T c1 c2 z ta tb, v = .ref T ∧ x.cps[i]? = some c1 ∧ y.cps[i]? = some c2 ∧ zs[i]? = some z ∧ IsTri h T (.str ⟨#[c1]⟩ ta) (.str ⟨#[c2]⟩ tb) z ∧ T ≠ n + 5 ∧
    IsZip h (n + 5) (n + 3) (n + 4) (rawInt T) ∧ IsTri h (n + 3) (.ref n) (.ref (n + 1)) (.ref (n + 2)) ∧ (∃ a b c, IsTri h (n + 4) a b c) ∧
    h.IsStrIter n "str_ascii_iterator" x t (i + 1) ∧ h.IsStrIter (n + 1) "str_ascii_iterator" y u (i + 1) ∧ h.IsListIter (n + 2) l (i + 1) ∧ h.IsList l zs
theorem zip3_turns {n l : Addr} {x y : Str} {t u : Tok} {zs : Array Value} {elts : List PySem.Expr} {k : Nat} {pos : Pos} {N : Nat} (hh : A.handled = none) (hln : l < n) (hx : x.cps.size = N) (hy : y.cps.size = N) (hzs : zs.size = N) :
    KTurns prog w A (.Tuple elts k pos) (n + 5) [n + 5, n + 3, n + 4, n, n + 1, n + 2, l] [n + 5, n + 4, n, n + 1, n + 2] N (ZP x y zs) (ZMd n l x y t u zs) (ZSt n l x y t u zs) where
  sub := fun c hc => by simp at hc ⊢; rcases hc with rfl | rfl | rfl | rfl | rfl <;> simp
  frame := fun i h h' hst hk => by
    obtain ⟨hz, hTI, ⟨a, b, c, hTO⟩, h1, h2, h3, hl⟩ := hst
    exact ⟨hk _ (by simp) _ hz, hk _ (by simp) _ hTI, ⟨a, b, c, hk _ (by simp) _ hTO⟩, striter_at h1 fun o e => hk _ (by simp) o e, striter_at h2 fun o e => hk _ (by simp) o e, h3.at fun o e => hk _ (by simp) o e, hl.at fun o e => hk _ (by simp) o e⟩
  item := fun i s Q E hi hst hQ => by
    obtain ⟨hz, hTI, ⟨a, b, c, hTO⟩, h1, h2, h3, hl⟩ := hst
    have hT : s.TypeIs (.ref (n + 5)) "zip" := ⟨_, hz, rfl⟩
    have l0 : l ≠ n := Nat.ne_of_lt hln
    have l1 : l ≠ n + 1 := Nat.ne_of_lt (Nat.lt_succ_of_lt hln)
    have l2 : l ≠ n + 2 := Nat.ne_of_lt (Nat.lt_succ_of_lt (Nat.lt_succ_of_lt hln))
    have l4 : l ≠ n + 4 := Nat.ne_of_lt (Nat.lt_of_lt_of_le hln (Nat.le_add_right _ _))
    have l5 : l ≠ n + 5 := Nat.ne_of_lt (Nat.lt_of_lt_of_le hln (Nat.le_add_right _ _))
    unfold pyNext
    refine wpAny_bind (wpAny_attempt (wpAny_callSpecial?_slot (name := Str.ofString "__next__") hT F.slot_zip_next
      (wpAny_call_entry F.slot_zip_next hT F.entry_zip_next
        (zip3_item hln hz hTI hTO h1 h2 h3 hl (Array.getElem?_eq_getElem (by omega)) (Array.getElem?_eq_getElem (by omega)) (Array.getElem?_eq_getElem (by omega)) fun h' ta tb tk a1 a2 a3 a4 a5 a6 hk => ?_) (F.args_zip_next_1 _))))
    exact wpAny_pure (hQ _ h' tk ⟨_, _, _, _, ta, tb, rfl, Array.getElem?_eq_getElem (by omega), Array.getElem?_eq_getElem (by omega), Array.getElem?_eq_getElem (by omega), a6, Nat.ne_of_gt (Heap.lt_size hz), a1,
      hk _ _ (addr_ne n (by decide)) (addr_ne n (by decide)) (addr_ne0 n 2) (addr_ne n (by decide)) (addr_ne n (by decide)) hTI, a2, a3, a4, a5, hl.at fun o e => hk _ o l5 l4 l0 l1 l2 e⟩
      fun b o hb e => hk b o (fun z => hb (by simp [z])) (fun z => hb (by simp [z])) (fun z => hb (by simp [z])) (fun z => hb (by simp [z])) (fun z => hb (by simp [z])) e)
  go := fun i v s Q E hm hQ => by
    obtain ⟨T, c1, c2, z, ta, tb, rfl, hx, hy, hv, hTT, hT5, hz, hTI, ⟨a, b, c, hTO⟩, h1, h2, h3, hl⟩ := hm
    have l5 : l ≠ n + 5 := Nat.ne_of_lt (Nat.lt_of_lt_of_le hln (Nat.le_add_right _ _))
    refine wpAny_letOwnedTupleGo_zip hz fun h' hz' hs' => hQ h' ⟨T, c1, c2, z, ta, tb, rfl, hx, hy, hv, hs'.extBut _ _ hT5 hTT⟩ ⟨hz', hs'.extBut _ _ (addr_ne n (by decide)) hTI, ⟨a, b, c, hs'.extBut _ _ (addr_ne n (by decide)) hTO⟩,
      h1.extBut hs'.extBut (addr_ne0 n 4).symm, h2.extBut hs'.extBut (addr_ne n (by decide)), h3.extBut hs'.extBut (addr_ne n (by decide)), hl.extBut hs'.extBut l5⟩ fun b o hb e => hs'.extBut _ _ (fun z => hb (by simp [z])) e
  done := fun s Q E hst hQ => by
    obtain ⟨hz, hTI, ⟨a, b, c, hTO⟩, h1, h2, h3, hl⟩ := hst
    have hT : s.TypeIs (.ref (n + 5)) "zip" := ⟨_, hz, rfl⟩
    unfold pyNext
    refine wpAny_bind (wpAny_attempt (wpAny_callSpecial?_slot (name := Str.ofString "__next__") hT F.slot_zip_next
      (wpAny_call_entry F.slot_zip_next hT F.entry_zip_next (zip3_end hh hz hTI hTO h1 (Array.getElem?_eq_none (by omega)) fun h' e hk he => ?_) (F.args_zip_next_1 _))))
    obtain ⟨o, ho, hc⟩ := he
    refine wpAny_bind (wpAny_isInstance (T := "StopIteration") (b := true) ⟨o, ho, hc⟩ isSubtype_stop ?_)
    exact wpAny_pure (hQ _ s.toks fun b o hb e => hk b o (fun z => hb (by simp [z])) (fun z => hb (by simp [z])) e)
end

end
section
theorem fillL6 : PySem.Challenge.rw_pe0144_01 = PySem.Challenge.rw_pe0144_01 ∧ hd.heap_1 = hd.heap_1 := by
  w_top off
  w_top off
  k_fill
  exact ⟨rfl, rfl⟩
noncomputable def wordDef : Stmt := PySem.Challenge.pw_pe0144_01.main.body.getD 15 default
noncomputable def wordF : Stmt := (fnBody wordDef).getD 1 default
noncomputable def forTarget : Stmt → PySem.Expr
  | .For t _ _ _ _ => t
  | _ => .Constant .none 0 default
theorem mul_len {c : Nat} {v : Int} (hv : 0 ≤ v ∧ v ≤ 2) : (Txt.mul ⟨#[c]⟩ v).length ≤ 2 := by
  have h : v = 0 ∨ v = 1 ∨ v = 2 := by omega
  rcases h with rfl | rfl | rfl
  · exact (by decide : (0 : Nat) ≤ 2)
  · exact (by decide : (1 : Nat) ≤ 2)
  · exact (by decide : (2 : Nat) ≤ 2)
section
variable {prog : Program} {w : World} {A : Around} {E : Value → Shared → Prop} {s : Shared} {Q : Value → Shared → Prop}
theorem mul_letter {c : Nat} {v : Int} {t u : Tok} (hv : 0 ≤ v ∧ v ≤ 2) (h : ∀ t' k, (Txt.mul ⟨#[c]⟩ v).length ≤ 2 → Q (.str (Txt.mul ⟨#[c]⟩ v) t') { s with toks := k }) :
    wpAny (model prog w) A (binaryOp .Mult (.str ⟨#[c]⟩ t) (.int v u)) Q E s :=
  SB.mul (mulOk_of 16 1048576 (by show (1 : Nat) ≤ 16; decide) (by omega) (by omega) (by decide) (by decide)) fun t' k => h t' k (mul_len hv)
end
noncomputable def wstep (wd : Str) (ca cb : Nat) (v : Int) : Str := wd ++ Txt.mul ⟨#[ca]⟩ v ++ Txt.mul ⟨#[cb]⟩ (2 - v)
theorem wstep_len {wd : Str} {ca cb : Nat} {v : Int} (hv : 0 ≤ v ∧ v ≤ 2) : (wstep wd ca cb v).length = wd.length + 2 := by
  have h : v = 0 ∨ v = 1 ∨ v = 2 := by omega
  unfold wstep
  rw [Str.length_append, Str.length_append]
  rcases h with rfl | rfl | rfl <;> rfl
noncomputable def wordI (v0 v1 v2 : Int) : Str := wstep (wstep (wstep (Str.ofString "") 65 97 v0) 66 98 v1) 67 99 v2
noncomputable def wordP (v0 v1 v2 : Int) : Nat → Str
  | 0 => Str.ofString ""
  | 1 => wstep (Str.ofString "") 65 97 v0
  | 2 => wstep (wstep (Str.ofString "") 65 97 v0) 66 98 v1
  | _ => wordI v0 v1 v2
noncomputable def mW (D : Addr) (wd : Str) (tw : Tok) (vg vs vm : Option Value) : Str → Option Value := fun z =>
  if z = Str.ofString "word" then some (.str wd tw) else if z = Str.ofString "much" then vm else if z = Str.ofString "small" then vs else if z = Str.ofString "great" then vg else if z = Str.ofString "vote" then some (.ref D) else none
section
variable {prog : Program} {w : World} {p : Program} {loose : List Str} {mean : ExcName → Option Value} {mg mb : Str → Option Value}
  {dp un : Nat} {gd : Option (List Code)} {cn : Str} {a : Addr} {ccd : Value} {outer : List Env} {A₀ : Around} {base h₀ : Heap} {L : Addr} {m : Str → Option Value} {s : Shared} {E : Value → Shared → Prop} {news : List (Addr × Obj)}
theorem word_turn {D T' : Addr} {wd : Str} {tw ta tb tv : Tok} {vg vs vm : Option Value} {ca cb : Nat} {v : Int} {R : Flow → Shared → Prop}
  (B : Below A₀ base outer h₀) (F : Fr h₀ L s.heap (mW D wd tw vg vs vm)) (X : (hd.heap_1 w.params).In h₀) (N : News h₀ L s.heap news) (T : Top p loose mean mg mb h₀)
  (hT : IsTup s.heap T' #[.str ⟨#[ca]⟩ ta, .str ⟨#[cb]⟩ tb, .int v tv]) (hv : 0 ≤ v ∧ v ≤ 2) (hw : wd.length ≤ 6)
  (hd' : dp + 3 < recursionLimit) (hu : un + 20 < cLine)
  (hR : ∀ t' vg' vs' vm' h' tk', Fr h₀ L h' (mW D (wstep wd ca cb v) t' vg' vs' vm') → News h₀ L h' news → R .next {s with heap := h', toks := tk'}) :
  wpAny (model prog w) (ktrTop dp un gd cn (fnScope wordDef) L a ccd [] outer) (assign (forTarget wordF) (envOf cn (fnScope wordDef) L a ccd) (.ref T'))
    (fun _ s₃ => wpAny (model prog w) (ktrTop dp un gd cn (fnScope wordDef) L a ccd [] outer) (execs (forBody wordF) (envOf cn (fnScope wordDef) L a ccd)) R E s₃) E s := by
  dsimp only [wordF, forTarget, forBody, wordDef, PySem.Challenge.pw_pe0144_01, fnBody, fnScope, List.getD, List.getD_eq_getElem?_getD, List.getElem?_cons_succ, List.getElem?_cons_zero, Option.getD]
  delta mW at F
  (try dsimp only at F)
  repeat' (first | (k_unfold; (try dsimp only)) | (k_end; wrow_close) | (with_reducible ((with_reducible show wpAny _ _ (binaryOp Operator.Mult (Value.str _ _) (Value.int _ _)) _ _ _); (refine mul_letter ?k1zq23 ?_; (case k1zq23 => omega); intro _ _ _))) | walk1 | (dsimp only; walk1) | (leave1; walk_say "STEP leave1"; try dsimp only) | fail "no step")
  refine' hR _ _ _ _ _ _ (fr_ext ?f ?e) ?n
  case f => assumption
  case n => assumption
  case e => (with_unfolding_all (refine chain_ext [Str.ofString "word", Str.ofString "much", Str.ofString "small", Str.ofString "great", Str.ofString "vote"] (fun z hz => Eq.trans (b := none) ?_ (Eq.symm ?_)) ?_; (repeat (refine ite_nin hz ?_ ?_; rfl)); rfl; (repeat (refine ite_nin hz ?_ ?_; rfl)); rfl; (repeat (refine List.forall_mem_cons.mpr ⟨?_, ?_⟩; rfl)); exact List.forall_mem_nil _))
theorem word_zip {D : Addr} {v0 v1 v2 : Int} {t u t0 t1 t2 tw : Tok} {elts : List PySem.Expr} {ek : Nat} {epos : Pos} {Q : Flow → Shared → Prop}
  (B : Below A₀ base outer h₀) (F : Fr h₀ L s.heap (mW D (Str.ofString "") tw none none none)) (X : (hd.heap_1 w.params).In h₀) (N : News h₀ L s.heap news) (T : Top p loose mean mg mb h₀)
  (hm : (D, LCg.lst [.int v0 t0, .int v1 t1, .int v2 t2]) ∈ news) (b0 : 0 ≤ v0 ∧ v0 ≤ 2) (b1 : 0 ≤ v1 ∧ v1 ≤ 2) (b2 : 0 ≤ v2 ∧ v2 ≤ 2)
  (hd' : dp + 3 < recursionLimit) (hu : un + 20 < cLine) (he : forTarget wordF = .Tuple elts ek epos)
  (done : ∀ tw' vg vs vm h tk, Fr h₀ L h (mW D (wordI v0 v1 v2) tw' vg vs vm) → News h₀ L h news → Q .next {s with heap := h, toks := tk}) :
  wpAny (model prog w) (ktrTop dp un gd cn (fnScope wordDef) L a ccd [] outer) (call (.type "zip") [.str (Str.ofString "ABC") t, .str (Str.ofString "abc") u, .ref D])
    (fun xv s₁ => wpAny (model prog w) (ktrTop dp un gd cn (fnScope wordDef) L a ccd [] outer) (pyIter xv) (fun it s₂ => TurnsAt prog w (ktrTop dp un gd cn (fnScope wordDef) L a ccd [] outer) h₀ (envOf cn (fnScope wordDef) L a ccd) (forTarget wordF) (forBody wordF) Q E it s₂) E s₁) E s := by
  have hD := N _ hm
  have hl : s.heap.IsList D #[.int v0 t0, .int v1 t1, .int v2 t2] := ⟨_, hD.1, rfl, 3, rfl⟩
  have hDn : D < s.heap.objs.size := Heap.lt_size hD.1
  have hLn : L < s.heap.objs.size := F.ns.lt
  refine call_zip3 (by decide +kernel) (by decide +kernel) hl fun h' n hn hz hTI hTO h1 h2 h3 hk => ?_
  refine wpAny_pyIter_zip hz ?_
  rw [← hn] at hDn hLn
  have K := zip3_turns (prog := prog) (w := w) (A := (ktrTop dp un gd cn (fnScope wordDef) L a ccd [] outer)) (elts := elts) (k := ek) (pos := epos) (N := 3) (x := Str.ofString "ABC") (y := Str.ofString "abc") (t := t) (u := u) (zs := #[.int v0 t0, .int v1 t1, .int v2 t2]) rfl hDn (by decide) (by decide) rfl
  rw [← he] at K
  have hfresh : ∀ p ∈ news, p.1 < n := fun p hp => hn ▸ Heap.lt_size (N p hp).1
  have lt5 : ∀ q : Addr, q < n → q ∉ [n + 5, n + 4, n, n + 1, n + 2] := fun q hq hm => by
    simp only [List.mem_cons, List.not_mem_nil, or_false] at hm
    rcases hm with e | e | e | e | e
    · exact Nat.ne_of_lt (Nat.lt_of_lt_of_le hq (Nat.le_add_right _ _)) e
    · exact Nat.ne_of_lt (Nat.lt_of_lt_of_le hq (Nat.le_add_right _ _)) e
    · exact Nat.ne_of_lt hq e
    · exact Nat.ne_of_lt (Nat.lt_of_lt_of_le hq (Nat.le_add_right _ _)) e
    · exact Nat.ne_of_lt (Nat.lt_of_lt_of_le hq (Nat.le_add_right _ _)) e
  refine ⟨n + 5, _, _, 3, _, _, _, _, news, fun i m₁ news₁ => news₁ = news ∧ ∃ tw' vg vs vm, m₁ = mW D (wordP v0 v1 v2 i) tw' vg vs vm, rfl, K, ?_, ?_, ?_, ⟨hz, hTI, ⟨_, _, _, hTO⟩, h1, h2, h3, hl.at fun o e => hk _ o e⟩, F.keeps hk, (fun p hp => ⟨hk _ _ (N p hp).1, (N p hp).2⟩), ⟨rfl, _, _, _, _, rfl⟩, ?_, ?_⟩
  · intro hmem
    rcases List.mem_cons.mp hmem with e | hmem
    · exact Nat.ne_of_lt (Nat.lt_of_lt_of_le hLn (Nat.le_add_right n 5)) e
    rcases List.mem_cons.mp hmem with e | hmem
    · exact Nat.ne_of_lt (Nat.lt_of_lt_of_le hLn (Nat.le_add_right n 3)) e
    rcases List.mem_cons.mp hmem with e | hmem
    · exact Nat.ne_of_lt (Nat.lt_of_lt_of_le hLn (Nat.le_add_right n 4)) e
    rcases List.mem_cons.mp hmem with e | hmem
    · exact Nat.ne_of_lt hLn e
    rcases List.mem_cons.mp hmem with e | hmem
    · exact Nat.ne_of_lt (Nat.lt_of_lt_of_le hLn (Nat.le_add_right n 1)) e
    rcases List.mem_cons.mp hmem with e | hmem
    · exact Nat.ne_of_lt (Nat.lt_of_lt_of_le hLn (Nat.le_add_right n 2)) e
    exact hD.2.1 (List.mem_singleton.mp hmem).symm
  · intro b hb
    refine ktu_new F ?_
    rw [← hn]
    rcases Nat.lt_or_ge b n with h | h
    · exact absurd hb (lt5 b h)
    · exact h
  · intro p hp
    exact lt5 _ (hfresh p hp)
  · rintro i v m₁ news₁ h₁ tk₁ own hi ⟨T', c1, c2, z, ta, tb, rfl, hx1, hy1, hz1, hTT⟩ ⟨rfl, tw', vg, vs, vm, rfl⟩ hoff hown _ _ _ F₁ N₁
    have step : ∀ (v : Int) (tv : Tok) ca cb, c1 = ca → c2 = cb → z = .int v tv → 0 ≤ v ∧ v ≤ 2 → (wordP v0 v1 v2 i).length ≤ 6 → wordP v0 v1 v2 (i + 1) = wstep (wordP v0 v1 v2 i) ca cb v →
        wpAny (model prog w) (ktrTop dp un gd cn (fnScope wordDef) L a ccd [] outer) (assign (forTarget wordF) (envOf cn (fnScope wordDef) L a ccd) (.ref T')) (fun _ s₃ => wpAny (model prog w) (ktrTop dp un gd cn (fnScope wordDef) L a ccd [] outer) (execs (forBody wordF) (envOf cn (fnScope wordDef) L a ccd))
          (LoopStepV h₀ L [n + 5, n + 4, n, n + 1, n + 2] own (fun m₁ news₁' => news₁' = news₁ ∧ ∃ tw' vg vs vm, m₁ = mW D (wordP v0 v1 v2 (i + 1)) tw' vg vs vm) { s with heap := h₁, toks := tk₁ } (fun v s' => Q (.ret v) s') fun s' => Q .next s') E s₃) E { s with heap := h₁, toks := tk₁ } := by
      rintro v tv ca cb rfl rfl rfl hv hlen hstep
      refine word_turn (s := { s with heap := h₁, toks := tk₁ }) (news := own ++ news₁) B F₁ X N₁ T ⟨_, hTT, rfl, _, rfl⟩ hv hlen hd' hu fun t' vg' vs' vm' h2 tk2 F2 N2 => ?_
      exact .next ⟨rfl, h2, tk2, _, news₁, rfl, F2, N2, hoff, rfl, t', vg', vs', vm', by rw [hstep]⟩
    have h3 : i = 0 ∨ i = 1 ∨ i = 2 := by omega
    rcases h3 with rfl | rfl | rfl
    · exact step v0 t0 65 97 (Option.some.inj hx1).symm (Option.some.inj hy1).symm (Option.some.inj hz1).symm b0 (show (Str.ofString "").length ≤ 6 from by decide) rfl
    · exact step v1 t1 66 98 (Option.some.inj hx1).symm (Option.some.inj hy1).symm (Option.some.inj hz1).symm b1 (by rw [show wordP v0 v1 v2 1 = wstep (Str.ofString "") 65 97 v0 from rfl, wstep_len b0]; decide) rfl
    · exact step v2 t2 67 99 (Option.some.inj hx1).symm (Option.some.inj hy1).symm (Option.some.inj hz1).symm b2 (by rw [show wordP v0 v1 v2 2 = wstep (wstep (Str.ofString "") 65 97 v0) 66 98 v1 from rfl, wstep_len b1, wstep_len b0]; decide) rfl
  · rintro h2 tk2 m' news' F2 N2 _ ⟨rfl, tw', vg, vs, vm, rfl⟩
    exact done tw' vg vs vm h2 tk2 F2 N2
theorem word_body {D : Addr} {v0 v1 v2 : Int} {t0 t1 t2 : Tok} {Q : Flow → Shared → Prop}
  (B : Below A₀ base outer h₀) (F : Fr h₀ L s.heap (fun z => if z = Str.ofString "vote" then some (.ref D) else none)) (X : (hd.heap_1 w.params).In h₀) (N : News h₀ L s.heap news) (T : Top p loose mean mg mb h₀)
  (hm : (D, LCg.lst [.int v0 t0, .int v1 t1, .int v2 t2]) ∈ news) (b0 : 0 ≤ v0 ∧ v0 ≤ 2) (b1 : 0 ≤ v1 ∧ v1 ≤ 2) (b2 : 0 ≤ v2 ∧ v2 ≤ 2)
  (hd' : dp + 3 < recursionLimit) (hu : un + 20 < cLine)
  (hE : PassesOwn (model prog w) (ktrTop dp un gd cn (fnScope wordDef) L a ccd [] outer) (envOf cn (fnScope wordDef) L a ccd) E)
  (hret : ∀ t m' h' tk', Fr h₀ L h' m' → News h₀ L h' news → Q (.ret (.str (wordI v0 v1 v2) t)) {s with heap := h', toks := tk'}) :
  wpAny (model prog w) (ktrTop dp un gd cn (fnScope wordDef) L a ccd [] outer) (execs [(fnBody wordDef).getD 0 default, (fnBody wordDef).getD 1 default, (fnBody wordDef).getD 2 default] (envOf cn (fnScope wordDef) L a ccd)) Q E s := by
  dsimp only [wordDef, PySem.Challenge.pw_pe0144_01, fnBody, fnScope, List.getD, List.getD_eq_getElem?_getD, List.getElem?_cons_succ, List.getElem?_cons_zero, Option.getD] at hE ⊢
  repeat' (first | (k_unfold; (try dsimp only)) | (k_end; wrow_close) | (with_reducible ((with_reducible show wpAny _ _ (call (Value.type "zip") _) _ _ _); (with_unfolding_all refine' word_zip ?k1zq25 (fr_ext ?k2zq25 ?k3zq25) ?k4zq25 ?k5zq25 ?k6zq25 ?k7zq25 ?k8zq25 ?k9zq25 ?k10zq25 ?k11zq25 ?k12zq25 rfl ?_; (case k1zq25 => k_asm); (case k2zq25 => k_asm); (case k3zq25 => (with_unfolding_all (refine chain_ext [Str.ofString "word", Str.ofString "much", Str.ofString "small", Str.ofString "great", Str.ofString "vote"] (fun zzq hzzq => Eq.trans (b := none) ?_ (Eq.symm ?_)) ?_; (repeat (refine ite_nin hzzq ?_ ?_; rfl)); rfl; (repeat (refine ite_nin hzzq ?_ ?_; rfl)); rfl; (repeat (refine List.forall_mem_cons.mpr ⟨?_, ?_⟩; rfl)); exact List.forall_mem_nil _))); (case k4zq25 => k_asm); (case k5zq25 => k_asm); (case k6zq25 => k_asm); (case k7zq25 => assumption); (case k8zq25 => assumption); (case k9zq25 => assumption); (case k10zq25 => assumption); (case k11zq25 => assumption); (case k12zq25 => assumption); intro twzq' vgzq' vszq' vmzq' hzq' tkzq' Fzq' Nzq'; (try dsimp only)))) | (with_reducible ((with_reducible show wpAny _ _ (exec (PySem.Stmt.For (PySem.Expr.Tuple _ _ _) (PySem.Expr.Call _ _ _ _) _ _ _) _) _ _ _); (k_here; (rename Fr _ _ _ _ => lFzq'); (with_unfolding_all refine' For_turns lFzq' ?_ ?k3zq24 ?k4zq24; (case k3zq24 => (intro _; rfl)); (case k4zq24 => assumption); k_whole)))) | (with_reducible ((with_reducible show wpAny _ _ (binaryOp Operator.Mult (Value.str _ _) (Value.int _ _)) _ _ _); (refine mul_letter ?k1zq23 ?_; (case k1zq23 => omega); intro _ _ _))) | walk1 | (dsimp only; walk1) | (leave1; walk_say "STEP leave1"; try dsimp only) | fail "no step")
  refine' hret _ _ _ _ ?f ?n
  case f => assumption
  case n => assumption
variable {cs : Scope} {cl : List (Str × Addr)} {Q : Value → Shared → Prop}
theorem word_spec {D : Addr} {v0 v1 v2 : Int} {t0 t1 t2 : Tok}
  (B : Below A₀ base outer h₀) (F : Fr h₀ L s.heap m) (X : (hd.heap_1 w.params).In h₀) (N : News h₀ L s.heap news) (T : Top p loose mean mg mb h₀) (hk : cs.kind = .function)
  (hm : (D, LCg.lst [.int v0 t0, .int v1 t1, .int v2 t2]) ∈ news) (b0 : 0 ≤ v0 ∧ v0 ≤ 2) (b1 : 0 ≤ v1 ∧ v1 ≤ 2) (b2 : 0 ≤ v2 ∧ v2 ≤ 2)
  (hd' : dp + 4 < recursionLimit) (hu : un + 30 < cLine)
  (hret : ∀ t h' tk', Fr h₀ L h' m → News h₀ L h' news → Q (.str (wordI v0 v1 v2) t) {s with heap := h', toks := tk'}) :
  wpAny (model prog w) (ktrTop dp un gd cn cs L a ccd cl outer) (call (.ref 110) [.ref D]) Q E s := by
  refine wpAny_call ?_
  k_dflt cell_enter
  with_unfolding_all refine' word_body ?k1 (fr_ext ?k2 ?k3) ?k4 ?k5 ?k6 hm b0 b1 b2 ?k7 ?k8 ?k9 ?k10
  case k1 => k_asm
  case k2 => assumption
  case k4 => assumption
  case k5 => assumption
  case k6 => assumption
  case k3 =>
    with_unfolding_all refine chain_ext [Str.ofString "vote"] (fun z hz => Eq.trans (b := none) ?_ (Eq.symm ?_)) ?_
    · with_unfolding_all refine lookup_nin hz (List.forall_mem_cons.mpr ⟨?_, List.forall_mem_nil _⟩) <;> rfl
    · with_unfolding_all (repeat (refine ite_nin hz ?_ ?_; rfl)); rfl
    · with_unfolding_all (repeat (refine List.forall_mem_cons.mpr ⟨?_, ?_⟩; rfl)); exact List.forall_mem_nil _
  case k7 => ktr_room
  case k8 => ktr_units
  case k9 => with_unfolding_all passes_own
  case k10 =>
    intro t' m' h' tk' F' N'
    repeat' (first | (k_unfold; (try dsimp only)) | (k_end; wrow_close) | (with_reducible ((with_reducible show wpAny _ _ (call (Value.type "zip") _) _ _ _); (with_unfolding_all refine' word_zip ?k1zq25 (fr_ext ?k2zq25 ?k3zq25) ?k4zq25 ?k5zq25 ?k6zq25 ?k7zq25 ?k8zq25 ?k9zq25 ?k10zq25 ?k11zq25 ?k12zq25 rfl ?_; (case k1zq25 => k_asm); (case k2zq25 => k_asm); (case k3zq25 => (with_unfolding_all (refine chain_ext [Str.ofString "word", Str.ofString "much", Str.ofString "small", Str.ofString "great", Str.ofString "vote"] (fun zzq hzzq => Eq.trans (b := none) ?_ (Eq.symm ?_)) ?_; (repeat (refine ite_nin hzzq ?_ ?_; rfl)); rfl; (repeat (refine ite_nin hzzq ?_ ?_; rfl)); rfl; (repeat (refine List.forall_mem_cons.mpr ⟨?_, ?_⟩; rfl)); exact List.forall_mem_nil _))); (case k4zq25 => k_asm); (case k5zq25 => k_asm); (case k6zq25 => k_asm); (case k7zq25 => assumption); (case k8zq25 => assumption); (case k9zq25 => assumption); (case k10zq25 => assumption); (case k11zq25 => assumption); (case k12zq25 => assumption); intro twzq' vgzq' vszq' vmzq' hzq' tkzq' Fzq' Nzq'; (try dsimp only)))) | (with_reducible ((with_reducible show wpAny _ _ (exec (PySem.Stmt.For (PySem.Expr.Tuple _ _ _) (PySem.Expr.Call _ _ _ _) _ _ _) _) _ _ _); (k_here; (rename Fr _ _ _ _ => lFzq'); (with_unfolding_all refine' For_turns lFzq' ?_ ?k3zq24 ?k4zq24; (case k3zq24 => (intro _; rfl)); (case k4zq24 => assumption); k_whole)))) | (with_reducible ((with_reducible show wpAny _ _ (binaryOp Operator.Mult (Value.str _ _) (Value.int _ _)) _ _ _); (refine mul_letter ?k1zq23 ?_; (case k1zq23 => omega); intro _ _ _))) | walk1 | (dsimp only; walk1) | (leave1; walk_say "STEP leave1"; try dsimp only) | fail "no step")
    refine' hret _ _ _ ?f2 ?n2
    case f2 => assumption
    case n2 => assumption
end

end
section
theorem fillM1 : PySem.Challenge.rw_pe0144_01 = PySem.Challenge.rw_pe0144_01 ∧ hd.heap_1 = hd.heap_1 := by
  w_top off
  w_top off
  k_fill
  exact ⟨rfl, rfl⟩
noncomputable def lawDef : Stmt := PySem.Challenge.pw_pe0144_01.main.body.getD 18 default
noncomputable abbrev lawCl (L : Addr) : List (Str × Addr) := [(Str.ofString "majority", L + 1 + 1 + 1 + 1 + 1), (Str.ofString "votes", L + 1 + 1 + 1 + 1), (Str.ofString "lexer", L + 1 + 1 + 1), (Str.ofString "whole", L + 1 + 1), (Str.ofString "levels", L + 1)]
noncomputable abbrev lawE (L a : Addr) (ccd : Value) : Env := envX (Str.ofString "law") (fnScope lawDef) L a ccd (lawCl L)
noncomputable abbrev lawA (dp un : Nat) (gd : Option (List Code)) (L a : Addr) (ccd : Value) (outer : List Env) : Around := ktrTop dp un gd (Str.ofString "law") (fnScope lawDef) L a ccd (lawCl L) outer
theorem news_drop1 {h₀ h : Heap} {L : Addr} {p q : Addr × Obj} {l : List (Addr × Obj)} (N : News h₀ L h (p :: q :: l)) : News h₀ L h (p :: l) := fun r hr => N r ((List.mem_cons.mp hr).elim (fun e => e ▸ .head _) fun e => .tail _ (.tail _ e))
theorem news_drop234 {h₀ h : Heap} {L : Addr} {p q q2 q3 : Addr × Obj} {l : List (Addr × Obj)} (N : News h₀ L h (p :: q :: q2 :: q3 :: l)) : News h₀ L h (p :: l) := news_drop1 (news_drop1 (news_drop1 N))
section
variable {prog : Program} {w : World} {p : Program} {loose : List Str} {mean : ExcName → Option Value} {mg mb : Str → Option Value}
  {dp un : Nat} {gd : Option (List Code)} {a : Addr} {ccd : Value} {outer : List Env} {A₀ : Around} {base h₀ : Heap} {L : Addr} {m : Str → Option Value} {s : Shared} {E : Value → Shared → Prop} {news : List (Addr × Obj)} {tail : List Stmt} {Q : Flow → Shared → Prop}
theorem law_told {lS : Addr} {vs : List Value} {ns : List Int} {o1 o2 o3 o4 o5 o6 : Obj}
  (B : Below A₀ base outer h₀) (F : Fr h₀ L s.heap (fun z => if z = Str.ofString "script" then some (.ref lS) else none)) (X : (hd.heap_1 w.params).In h₀)
  (N : News h₀ L s.heap ((L + 1, o1) :: (L + 1 + 1, o2) :: (L + 1 + 1 + 1, o3) :: (L + 1 + 1 + 1 + 1, o4) :: (L + 1 + 1 + 1 + 1 + 1, o5) :: [(86, o6)])) (T : Top p loose mean mg mb h₀) (l0 : @LT.lt Nat _ 86 L)
  
  (hl : h₀.IsList lS vs.toArray) (hi : IntsAre vs ns) (hlay : (PyData.list (List.map PyData.int ns)).layable0 = true) (hlen : ¬ ((63 : Nat) : Int) < (ns.length : Int))
  (hd' : dp + 10 < recursionLimit) (hu : un + 60 < cLine)
  (hE : PassesOwn (model prog w) (lawA dp un gd L a ccd outer) (lawE L a ccd) E)
  (hnext : ∀ D0 ys h' tk', IntsAre ys ((ns.take 9).map fun k => k.fmod 1025) → (@Ne Nat (L + 1) D0 ∧ @Ne Nat (L + 1 + 1) D0 ∧ @Ne Nat (L + 1 + 1 + 1) D0 ∧ @Ne Nat (L + 1 + 1 + 1 + 1) D0 ∧ @Ne Nat (L + 1 + 1 + 1 + 1 + 1) D0 ∧ @Ne Nat 86 D0) → Fr h₀ L h' (fun z => if z = Str.ofString "told" then some (.ref D0) else if z = Str.ofString "script" then some (.ref lS) else none) → News h₀ L h' ((D0, LCg.lst ys) :: (L + 1, o1) :: (L + 1 + 1, o2) :: (L + 1 + 1 + 1, o3) :: (L + 1 + 1 + 1 + 1, o4) :: (L + 1 + 1 + 1 + 1 + 1, o5) :: [(86, o6)]) → wpAny (model prog w) (lawA dp un gd L a ccd outer) (execs tail (lawE L a ccd)) Q E {s with heap := h', toks := tk'}) :
  wpAny (model prog w) (lawA dp un gd L a ccd outer) (execs ((fnBody lawDef).getD 0 default :: tail) (lawE L a ccd)) Q E s := by
  dsimp only [lawDef, PySem.Challenge.pw_pe0144_01, fnBody, fnScope, List.getD, List.getD_eq_getElem?_getD, List.getElem?_cons_succ, List.getElem?_cons_zero, Option.getD] at hE hnext ⊢
  repeat' (first | (k_unfold; (try dsimp only)) | (k_end; wrow_close) | (with_reducible (k_here; (with_reducible show wpAny _ _ (subscriptTail _ (PySem.Expr.Slice _ _ none _) (Value.ref _) (Value.ref _)) _ _ _); k_dflt (refine kba_turn (value' := PySem.Expr.Name (PySem.Str.ofString "_") ⟨0, 0, 0, 0⟩) (fun _ => rfl) ?_; refine' kmk_slice_ints ?Fzq26 ?Nzq26 ?lzq26 ?pzq26 ?qzq26 ?izq26 ?mzq26 ?czq26 ?_ ?szq26 ?tzq26 ?zzq26; (case Fzq26 => k_asm); (case Nzq26 => k_asm); (case lzq26 => kmk_list); (case pzq26 => kmk_part); (case qzq26 => kmk_part); (case izq26 => exact (.cons _ _ (.cons _ _ (.cons _ _ (.cons _ _ (.cons _ _ (.cons _ _ (.cons _ _ (.cons _ _ (.cons _ _ .nil)))))))))); (case mzq26 => exact kmk_from ((.cons _ _ (.cons _ _ (.cons _ _ (.cons _ _ (.cons _ _ (.cons _ _ (.cons _ _ (.cons _ _ (.cons _ _ .nil)))))))))) (Int.natCast_nonneg _)); (case czq26 => exact List.length_drop ..); (case szq26 => with_unfolding_all rfl); (case tzq26 => kmk_pure); (case zzq26 => exact Nat.le_of_ble_eq_true rfl)); intro Dzq' wszq' hzq' Fzq' Nzq' l1zq hIzq' hCzq' hLzq'; (try k_lt l1zq); (try k_sweep))) | walk1 | (dsimp only; walk1) | (leave1; walk_say "STEP leave1"; try dsimp only) | fail "no step")
  refine' hnext _ _ _ _ ?i1 (And.right ?o1) ?f1 (news_drop1 ?n1)
  case n1 => assumption
  case f1 => assumption
  case i1 => assumption
  case o1 => assumption
theorem law_levels {lS D0 : Addr} {vs ys : List Value} {ns ks : List Int} {o1 o2 o3 o4 o5 o6 : Obj}
  (B : Below A₀ base outer h₀) (F : Fr h₀ L s.heap (fun z => if z = Str.ofString "told" then some (.ref D0) else if z = Str.ofString "script" then some (.ref lS) else none)) (X : (hd.heap_1 w.params).In h₀)
  (N : News h₀ L s.heap ((D0, LCg.lst ys) :: (L + 1, o1) :: (L + 1 + 1, o2) :: (L + 1 + 1 + 1, o3) :: (L + 1 + 1 + 1 + 1, o4) :: (L + 1 + 1 + 1 + 1 + 1, o5) :: [(86, o6)])) (T : Top p loose mean mg mb h₀) (l0 : @LT.lt Nat _ 86 L) (l1 : @Ne Nat (L + 1) D0 ∧ @Ne Nat (L + 1 + 1) D0 ∧ @Ne Nat (L + 1 + 1 + 1) D0 ∧ @Ne Nat (L + 1 + 1 + 1 + 1) D0 ∧ @Ne Nat (L + 1 + 1 + 1 + 1 + 1) D0 ∧ @Ne Nat 86 D0)
  (d1 : o1.data = Data.cell none) (hy : IntsAre ys ks) (hkl : ks.length ≤ 9)
  (hl : h₀.IsList lS vs.toArray) (hi : IntsAre vs ns) (hlay : (PyData.list (List.map PyData.int ns)).layable0 = true) (hlen : ¬ ((63 : Nat) : Int) < (ns.length : Int))
  (hd' : dp + 10 < recursionLimit) (hu : un + 60 < cLine)
  (hE : PassesOwn (model prog w) (lawA dp un gd L a ccd outer) (lawE L a ccd) E)
  (hnext : ∀ D ws o1' h' tk', IntsAre ws (ks ++ List.drop (ks.length : Int).toNat [9, 5, 2, 4, 8, 4, 1, 7, 3]) → o1'.data = Data.cell (some (.ref D)) → (@LT.lt Nat _ (L + 1 + 1 + 1 + 1 + 1) D ∧ @LT.lt Nat _ 86 D) → Fr h₀ L h' (fun z => if z = Str.ofString "told" then some (.ref D0) else if z = Str.ofString "script" then some (.ref lS) else none) → News h₀ L h' ((D, W.listOf ws.toArray 0) :: (L + 1, o1') :: (L + 1 + 1, o2) :: (L + 1 + 1 + 1, o3) :: (L + 1 + 1 + 1 + 1, o4) :: (L + 1 + 1 + 1 + 1 + 1, o5) :: [(86, o6)]) → wpAny (model prog w) (lawA dp un gd L a ccd outer) (execs tail (lawE L a ccd)) Q E {s with heap := h', toks := tk'}) :
  wpAny (model prog w) (lawA dp un gd L a ccd outer) (execs ((fnBody lawDef).getD 1 default :: tail) (lawE L a ccd)) Q E s := by
  dsimp only [lawDef, PySem.Challenge.pw_pe0144_01, fnBody, fnScope, List.getD, List.getD_eq_getElem?_getD, List.getElem?_cons_succ, List.getElem?_cons_zero, Option.getD] at hE hnext ⊢
  repeat' (first | (k_unfold; (try dsimp only)) | (k_end; wrow_close) | (with_reducible (k_here; (with_reducible show wpAny _ _ (subscriptTail _ (PySem.Expr.Slice _ _ none _) (Value.ref _) (Value.ref _)) _ _ _); k_dflt (refine kba_turn (value' := PySem.Expr.Name (PySem.Str.ofString "_") ⟨0, 0, 0, 0⟩) (fun _ => rfl) ?_; refine' kmk_slice_ints ?Fzq26 ?Nzq26 ?lzq26 ?pzq26 ?qzq26 ?izq26 ?mzq26 ?czq26 ?_ ?szq26 ?tzq26 ?zzq26; (case Fzq26 => k_asm); (case Nzq26 => k_asm); (case lzq26 => kmk_list); (case pzq26 => kmk_part); (case qzq26 => kmk_part); (case izq26 => exact (.cons _ _ (.cons _ _ (.cons _ _ (.cons _ _ (.cons _ _ (.cons _ _ (.cons _ _ (.cons _ _ (.cons _ _ .nil)))))))))); (case mzq26 => exact kmk_from ((.cons _ _ (.cons _ _ (.cons _ _ (.cons _ _ (.cons _ _ (.cons _ _ (.cons _ _ (.cons _ _ (.cons _ _ .nil)))))))))) (Int.natCast_nonneg _)); (case czq26 => exact List.length_drop ..); (case szq26 => with_unfolding_all rfl); (case tzq26 => kmk_pure); (case zzq26 => exact Nat.le_of_ble_eq_true rfl)); intro Dzq' wszq' hzq' Fzq' Nzq' l1zq hIzq' hCzq' hLzq'; (try k_lt l1zq); (try k_sweep))) | walk1 | (dsimp only; walk1) | (leave1; walk_say "STEP leave1"; try dsimp only) | fail "no step")
  refine' hnext _ _ _ _ _ ?i1 ?d1 ?l1 ?f1 (news_drop234 ?n1)
  case n1 => assumption
  case f1 => assumption
  case i1 => assumption
  case d1 => assumption
  case l1 => omega
theorem law_whole {lS D0 D1 : Addr} {vs ys : List Value} {ns ks : List Int} {o1 o2 o3 o4 o5 o6 : Obj}
  (B : Below A₀ base outer h₀) (F : Fr h₀ L s.heap (fun z => if z = Str.ofString "told" then some (.ref D0) else if z = Str.ofString "script" then some (.ref lS) else none)) (X : (hd.heap_1 w.params).In h₀)
  (N : News h₀ L s.heap ((D1, W.listOf ys.toArray 0) :: (L + 1, o1) :: (L + 1 + 1, o2) :: (L + 1 + 1 + 1, o3) :: (L + 1 + 1 + 1 + 1, o4) :: (L + 1 + 1 + 1 + 1 + 1, o5) :: [(86, o6)])) (T : Top p loose mean mg mb h₀) (l0 : @LT.lt Nat _ 86 L) (l1 : @LT.lt Nat _ (L + 1 + 1 + 1 + 1 + 1) D1 ∧ @LT.lt Nat _ 86 D1)
  (d2 : o2.data = Data.cell none)
  (hl : h₀.IsList lS vs.toArray) (hi : IntsAre vs ns) (hlay : (PyData.list (List.map PyData.int ns)).layable0 = true) (hlen : ¬ ((63 : Nat) : Int) < (ns.length : Int))
  (hd' : dp + 10 < recursionLimit) (hu : un + 60 < cLine)
  (hE : PassesOwn (model prog w) (lawA dp un gd L a ccd outer) (lawE L a ccd) E)
  (hnext : ∀ tW o2' h' tk', o2'.data = Data.cell (some (.int ns.sum tW)) → Fr h₀ L h' (fun z => if z = Str.ofString "told" then some (.ref D0) else if z = Str.ofString "script" then some (.ref lS) else none) → News h₀ L h' ((D1, W.listOf ys.toArray 0) :: (L + 1, o1) :: (L + 1 + 1, o2') :: (L + 1 + 1 + 1, o3) :: (L + 1 + 1 + 1 + 1, o4) :: (L + 1 + 1 + 1 + 1 + 1, o5) :: [(86, o6)]) → wpAny (model prog w) (lawA dp un gd L a ccd outer) (execs tail (lawE L a ccd)) Q E {s with heap := h', toks := tk'}) :
  wpAny (model prog w) (lawA dp un gd L a ccd outer) (execs ((fnBody lawDef).getD 2 default :: tail) (lawE L a ccd)) Q E s := by
  dsimp only [lawDef, PySem.Challenge.pw_pe0144_01, fnBody, fnScope, List.getD, List.getD_eq_getElem?_getD, List.getElem?_cons_succ, List.getElem?_cons_zero, Option.getD] at hE hnext ⊢
  repeat' (first | (k_unfold; (try dsimp only)) | (k_end; wrow_close) | (with_reducible (k_here; (with_reducible show wpAny _ _ (subscriptTail _ (PySem.Expr.Slice _ _ none _) (Value.ref _) (Value.ref _)) _ _ _); k_dflt (refine kba_turn (value' := PySem.Expr.Name (PySem.Str.ofString "_") ⟨0, 0, 0, 0⟩) (fun _ => rfl) ?_; refine' kmk_slice_ints ?Fzq26 ?Nzq26 ?lzq26 ?pzq26 ?qzq26 ?izq26 ?mzq26 ?czq26 ?_ ?szq26 ?tzq26 ?zzq26; (case Fzq26 => k_asm); (case Nzq26 => k_asm); (case lzq26 => kmk_list); (case pzq26 => kmk_part); (case qzq26 => kmk_part); (case izq26 => exact (.cons _ _ (.cons _ _ (.cons _ _ (.cons _ _ (.cons _ _ (.cons _ _ (.cons _ _ (.cons _ _ (.cons _ _ .nil)))))))))); (case mzq26 => exact kmk_from ((.cons _ _ (.cons _ _ (.cons _ _ (.cons _ _ (.cons _ _ (.cons _ _ (.cons _ _ (.cons _ _ (.cons _ _ .nil)))))))))) (Int.natCast_nonneg _)); (case czq26 => exact List.length_drop ..); (case szq26 => with_unfolding_all rfl); (case tzq26 => kmk_pure); (case zzq26 => exact Nat.le_of_ble_eq_true rfl)); intro Dzq' wszq' hzq' Fzq' Nzq' l1zq hIzq' hCzq' hLzq'; (try k_lt l1zq); (try k_sweep))) | walk1 | (dsimp only; walk1) | (leave1; walk_say "STEP leave1"; try dsimp only) | fail "no step")
  refine' hnext _ _ _ _ ?d1 ?f1 ?n1
  case n1 => assumption
  case f1 => assumption
  case d1 => assumption
end

end
section
theorem fillM2 : PySem.Challenge.rw_pe0144_01 = PySem.Challenge.rw_pe0144_01 ∧ hd.heap_1 = hd.heap_1 := by
  w_top off
  w_top off
  k_fill
  exact ⟨rfl, rfl⟩
theorem level_len {ls : List Int} (hb : ∀ k, 0 ≤ ls.getD k 0 ∧ ls.getD k 0 ≤ 1024) (k : Nat) : (Str.ofString (toString (ls.getD k 0))).length ≤ 10 := KT.len_num (hb k).1 (by have := (hb k).2; omega)
section
variable {prog : Program} {w : World} {A : Around} {E : Value → Shared → Prop} {s : Shared}
theorem str_level {ls : List Int} {k : Nat} {t : Tok} {Q : Value → Shared → Prop} (hb : ∀ k, 0 ≤ ls.getD k 0 ∧ ls.getD k 0 ≤ 1024) (h : Q (.str (Str.ofString (toString (ls.getD k 0))) s.toks) { s with toks := s.toks + 1 }) :
    wpAny (model prog w) A (call (.type "str") [.int (ls.getD k 0) t]) Q E s := by
  refine P.str_of_int ?_ h
  have h1 := hb k
  have h2 : (ls.getD k 0).natAbs < 2 ^ 1920 := Nat.lt_of_lt_of_le (show (ls.getD k 0).natAbs < 2 ^ 11 by omega) (Nat.pow_le_pow_right (by decide) (by decide))
  by_cases h0 : (ls.getD k 0).natAbs = 0
  · rw [h0]; decide
  · exact (Nat.log2_lt h0).mpr h2
end
theorem spell_len {x : Str} {y : Int} (hx : x.length ≤ 10) : (spellS x y).length ≤ 12 := by
  unfold spellS
  have e1 : (Str.ofString " ").length = 1 := by decide
  have e2 : (Str.ofString "\"").length = 1 := by decide
  have e3 : (Str.ofString "\\").length = 1 := by decide
  have e4 : (Str.ofString "\n").length = 1 := by decide
  split
  · rw [Str.length_append, e1]; omega
  · split
    · rw [Str.length_append, Str.length_append, e2]; omega
    · rw [Str.length_append, Str.length_append, e3, e4]; omega
noncomputable def lawG (ls : List Int) (wh : Int) (k : Int) : Str := spellS (Str.ofString (toString (ls.getD k.toNat 0))) ((k + wh).fmod 3)
noncomputable abbrev lawGOf {ls : List Int} {wh : Int} {o2 : Obj} {tW : Tok} (_ : ∀ k, 0 ≤ ls.getD k 0 ∧ ls.getD k 0 ≤ 1024) (_ : o2.data = Data.cell (some (.int wh tW))) : Int → Str := lawG ls wh
section
variable {prog : Program} {w : World} {p : Program} {loose : List Str} {mean : ExcName → Option Value} {mg mb : Str → Option Value}
  {dp un : Nat} {gd : Option (List Code)} {a : Addr} {ccd : Value} {outer : List Env} {A₀ : Around} {base h₀ : Heap} {L : Addr} {m : Str → Option Value} {s : Shared} {E : Value → Shared → Prop} {news : List (Addr × Obj)} {tail : List Stmt} {Q : Flow → Shared → Prop}
noncomputable def lawT (ls : List Int) (wh : Int) : Str := Txt.join (Str.ofString "") (List.map (lawG ls wh) (rangeKs 0 9))
theorem law_text {D : Addr} {wh : Int} {tW : Tok} {c : Nat} {vs : List Value} {ls : List Int} {o1 o2 : Obj} {ms : Str → Option Value}
  (B : Below A₀ base outer h₀) (F : Fr h₀ L s.heap ms) (X : (hd.heap_1 w.params).In h₀)
  (N : News h₀ L s.heap ((D, W.listOf vs.toArray c) :: (L + 1, o1) :: (L + 1 + 1, o2) :: news)) (T : Top p loose mean mg mb h₀)
  (d1 : o1.data = Data.cell (some (.ref D))) (d2 : o2.data = Data.cell (some (.int wh tW))) (e1 : @LT.lt Nat _ (L + 1 + 1) D)
  (hi : IntsAre vs ls) (hl : ls.length = 9) (hb : ∀ k, 0 ≤ ls.getD k 0 ∧ ls.getD k 0 ≤ 1024)
  (hd' : dp + 10 < recursionLimit) (hu : un + 60 < cLine)
  (hE : PassesOwn (model prog w) (lawA dp un gd L a ccd outer) (lawE L a ccd) E)
  (hnext : ∀ t h' tk', Fr h₀ L h' (fun y => if y = Str.ofString "text" then some (.str (lawT ls wh) t) else ms y) → News h₀ L h' ((D, W.listOf vs.toArray c) :: (L + 1, o1) :: (L + 1 + 1, o2) :: news) → wpAny (model prog w) (lawA dp un gd L a ccd outer) (execs tail (lawE L a ccd)) Q E {s with heap := h', toks := tk'}) :
  wpAny (model prog w) (lawA dp un gd L a ccd outer) (execs ((fnBody lawDef).getD 3 default :: tail) (lawE L a ccd)) Q E s := by
  dsimp only [lawDef, PySem.Challenge.pw_pe0144_01, fnBody, fnScope, List.getD, List.getD_eq_getElem?_getD, List.getElem?_cons_succ, List.getElem?_cons_zero, Option.getD] at hE hnext ⊢
  repeat' (first | (k_unfold; (try dsimp only)) | (k_end; wrow_close) | (with_reducible (k_here; (with_reducible show wpAny _ _ (call (Value.ref 98) [Value.str _ _, Value.int _ _]) _ _ _); k_dflt (refine' spelled_spec ?k1zq32 ?k2zq32 ?k3zq32 ?k4zq32 ?k5zq32 ?k6zq32 ?k7zq32 ?k8zq32 ?k9zq32 ?_; (case k1zq32 => k_asm); (case k2zq32 => k_asm); (case k3zq32 => k_asm); (case k4zq32 => k_asm); (case k5zq32 => k_asm); (case k6zq32 => exact rfl); (case k7zq32 => ktr_room); (case k8zq32 => ktr_units); (case k9zq32 => exact level_len (by assumption) _); k_whole; intro tzq' hzq' tkzq' Fzq' Nzq'; (try dsimp only); (try k_fold)))) | (with_reducible (k_here; (with_reducible show wpAny _ _ (call (Value.type "str") [Value.int _ _]) _ _ _); refine str_level (by assumption) ?_)) | (with_reducible (k_here; (with_reducible show wpAny _ _ (call (Value.builtin "str.join") [Value.str _ _, Value.ref _]) _ _ _); (with_reducible rename CarriedAll _ (List.map _ _) => ktCzq); (with_unfolding_all refine' KT.join_B 12 ?k1zq30 ktCzq ?k2zq30 ?k3zq30 ?k4zq30 ?_; (case k1zq30 => exact News.isList (by k_asm) (by k_mem)); (case k2zq30 => (intro ktAzq ktMzq; exact spell_len (level_len (by assumption) _))); (case k3zq30 => exact Nat.le_of_ble_eq_true rfl); (case k4zq30 => decide)); intro _ _)) | (with_reducible ((with_reducible show KCtEl _ _ _ _); (with_unfolding_all exact ⟨rfl, _, rfl⟩))) | (with_reducible ((with_reducible show LCg.CompEnd _ _ _ _ _ _ _ _ _ _ _ _ _ _); (with_unfolding_all refine' compEnd_same ?k1zq28 ?k2zq28 ?k3zq28 ?k4zq28 ?_; (case k1zq28 => assumption); (case k2zq28 => assumption); (case k3zq28 => assumption); (case k4zq28 => lcg_src)))) | ((with_reducible show LCg.CompEnd _ _ _ _ _ _ _ _ _ _ _ _ _ _); (with_unfolding_all refine' compEnd_same ?k1zq28 ?k2zq28 ?k3zq28 ?k4zq28 ?_; (case k1zq28 => assumption); (case k2zq28 => assumption); (case k3zq28 => assumption); (case k4zq28 => lcg_src))) | (with_reducible ((with_reducible show LCg.CompSrc _ _ _ _ _ _ _ _ _ _ _ _ _ _); (k_here; k_dflt (refine LCg.CompSrc.range (by rfl) (by k_asm) (by k_asm) (by assumption) (by decide) (by rfl) (by exact Nat.le_of_ble_eq_true rfl) ?_; intro gzq'; (refine' kct_range (lawGOf (by assumption) (by assumption)) (fun kzq' tzq' Izq' oIzq' Czq' oCzq' Dzq' mzq' yszq' hzq' tkzq' Ezq' hlozq' hhizq' hCzq' hxzq' Fzq' Nzq' offzq' nezq' => ?_) ?_);  (all_goals (try ((show KPfMark → _); intro hMarkzq'))); kcf_last)))) | walk1 | (dsimp only; walk1) | (leave1; walk_say "STEP leave1"; try dsimp only) | fail "no step")
  refine' hnext _ _ _ ?f1 (news_tail ?n1)
  case n1 => assumption
  case f1 => assumption
end

end
section
noncomputable def spellL (w : List Nat) (y : Int) : List Nat := if y = 0 then w ++ [32] else if y = 1 then 34 :: (w ++ [34]) else 92 :: (w ++ [10])
theorem spell_codes (x : Str) (y : Int) : (spellS x y).cps.toList = spellL x.cps.toList y := by
  unfold spellS spellL
  split
  · rw [Str.cps_append]; simp; rfl
  · split
    · rw [Str.cps_append, Str.cps_append]; simp; rfl
    · rw [Str.cps_append, Str.cps_append]; simp; rfl
theorem join_codes : ∀ l : List Str, (Txt.join (Str.ofString "") l).cps.toList = (l.map fun a => a.cps.toList).flatten
  | [] => rfl
  | [x] => by
    show (Builtin.Str.glued _ _).cps.toList = _
    rw [StrLaws.glued_eq_join]
    simp [Str.join]
  | x :: y :: r => by
    have ih := join_codes (y :: r)
    have e : ∀ l, Txt.join (Str.ofString "") l = Str.join (Str.ofString "") l := fun l => StrLaws.glued_eq_join _ l
    rw [e] at ih ⊢
    show (x ++ Str.ofString "" ++ Str.join (Str.ofString "") (y :: r)).cps.toList = _
    rw [Str.cps_append, Str.cps_append, Array.toList_append, Array.toList_append, ih]
    simp
    decide
theorem flat_at {l : List (List Nat)} {k : Nat} (hk : k < l.length) (j : Nat) (hj : j < (l[k]).length) : l.flatten[(l.take k).flatten.length + j]? = (l[k])[j]? := by
  have e : l.flatten = (l.take k).flatten ++ (l[k] ++ (l.drop (k + 1)).flatten) := by
    conv => lhs; rw [← List.take_append_drop k l]
    rw [List.flatten_append, List.drop_eq_getElem_cons hk, List.flatten_cons]
  rw [e, List.getElem?_append_right (Nat.le_add_right _ _), Nat.add_sub_cancel_left, List.getElem?_append_left hj]
theorem flat_next {l : List (List Nat)} {k : Nat} (hk : k < l.length) : (l.take (k + 1)).flatten = (l.take k).flatten ++ l[k] := by
  rw [← List.take_append_getElem hk, List.flatten_append]
  simp
theorem level_parts {n : Int} (h0 : 0 ≤ n) (h1 : n ≤ 1024) : ∃ d ds, (Str.ofString (toString n)).cps.toList = d :: ds ∧ Dig d ∧ (∀ c ∈ ds, Dig c) ∧ ds.length ≤ 3 := by
  have hl : (Str.ofString (toString n)).length ≤ 4 := toString_length_le h0 (by decide) (show n < 10 ^ 4 by omega)
  obtain ⟨m, rfl⟩ := Int.eq_ofNat_of_zero_le h0
  have hs := KIN.signs_num m
  have hd : ∀ c ∈ (Str.ofString (toString ((m : Nat) : Int))).cps.toList, Dig c := by
    intro c hc
    rw [hs] at hc
    obtain ⟨ch, hch, e⟩ := List.mem_map.mp hc
    have r := digit_range (Nat.isDigit_of_mem_toDigits (by decide) (by decide) hch)
    rw [← e]
    exact r
  have hlen : (Str.ofString (toString ((m : Nat) : Int))).cps.toList.length ≤ 4 := hl
  cases hc : (Str.ofString (toString ((m : Nat) : Int))).cps.toList with
  | nil =>
    rw [hs] at hc
    have h := toDigits_len_ge 10 m
    rw [List.map_eq_nil_iff.mp hc] at h
    exact absurd h (by decide)
  | cons d ds =>
    rw [hc] at hd hlen
    exact ⟨d, ds, rfl, hd d (.head _), fun c h => hd c (.tail _ h), by simpa using hlen⟩
theorem cnt_app (c : Nat) : ∀ a b : List Nat, cnt c (a ++ b) = cnt c a + cnt c b
  | [], b => by rw [List.nil_append, cnt_nil]; omega
  | n :: a, b => by rw [List.cons_append, cnt_cons, cnt_cons, cnt_app c a b]; omega
theorem cnt_digs : ∀ {a : List Nat}, (∀ c ∈ a, Dig c) → cnt 10 a = 0
  | [], _ => rfl
  | n :: a, h => by
    rw [cnt_cons, cnt_digs fun c hc => h c (.tail _ hc), if_neg (dig_ne10 (h n (.head _)))]
    rfl
theorem cnt_spell {w : List Nat} {y : Int} (h : ∀ c ∈ w, Dig c) (hy : 0 ≤ y ∧ y ≤ 2) : cnt 10 (spellL w y) = if y = 2 then 1 else 0 := by
  have h3 : y = 0 ∨ y = 1 ∨ y = 2 := by omega
  unfold spellL
  rcases h3 with rfl | rfl | rfl
  · rw [if_pos rfl, cnt_app, cnt_digs h]; rfl
  · rw [if_neg (by decide), if_pos rfl, cnt_cons, cnt_app, cnt_digs h]; rfl
  · rw [if_neg (by decide), if_neg (by decide), cnt_cons, cnt_app, cnt_digs h]; rfl
section
variable {prog : Program} {w : World} {p : Program} {loose : List Str} {mean : ExcName → Option Value} {mg mb : Str → Option Value}
  {dp un : Nat} {gd : Option (List Code)} {cn : Str} {cs : Scope} {a : Addr} {ccd : Value} {cl : List (Str × Addr)} {outer : List Env} {A₀ : Around} {base h₀ : Heap} {L : Addr} {m : Str → Option Value} {s : Shared} {Q E : Value → Shared → Prop} {rest : List (Addr × Obj)}
  {x dx f D f1 c1 ca ct la pb : Addr} {os : Array (Option Value)} {fd : FuncData} {oc oA oT : Obj} {q text : Str} {doc pm ctv : Value} {e1 e2 e3 e4 er : Int} {k1 k2 k3 k4 kr tw : Tok}
  {pos : Int} {tp : Tok} {ln : Int} {tl : Tok} {items : Array Value} {n : Nat}
/-- get_token where a spelled number stands -/
theorem tok_word {i : Nat} {v y : Int}
  (B : Below A₀ base outer h₀) (F : Fr h₀ L s.heap m) (X : (hd.heap_1 w.params).In h₀)
  (N : News h₀ L s.heap (LX x dx f D f1 c1 ca ct la pb os fd oc oA oT q doc pm ctv e1 e2 e3 e4 er k1 k2 k3 k4 kr tw (i : Int) tp ln tl #[] n rest))
  (T : Top p loose mean mg mb h₀) (hk : cs.kind = .function) (codeHd : CodeHd base 90 86) (ok : LexOk x dx f D f1 c1 ca ct la pb oc oA oT q text)
  (hd' : dp + 5 < recursionLimit) (hu : un + 30 < cLine) (n5 : ∀ p ∈ rest, p.1 ≠ la) (n6 : ∀ p ∈ rest, p.1 ≠ dx) (n7 : ∀ p ∈ rest, p.1 ≠ pb)
  (hv : 0 ≤ v ∧ v ≤ 1024) (hy : 0 ≤ y ∧ y ≤ 2)
  (hat : ∀ j, j < (spellL (Str.ofString (toString v)).cps.toList y).length → text.cps[i + j]? = (spellL (Str.ofString (toString v)).cps.toList y)[j]?)
  (hret : ∀ t t' tl' h' tk', Fr h₀ L h' m → News h₀ L h' (LX x dx f D f1 c1 ca ct la pb os fd oc oA oT q doc pm ctv e1 e2 e3 e4 er k1 k2 k3 k4 kr tw ((i + (spellL (Str.ofString (toString v)).cps.toList y).length : Nat) : Int) t' (ln + cnt 10 (spellL (Str.ofString (toString v)).cps.toList y)) tl' #[] n rest) →
    Q (.str (Str.ofString (toString v)) t) {s with heap := h', toks := tk'}) :
  wpAny (model prog w) (ktrTop dp un gd cn cs L a ccd cl outer) (call (.ref 56) [.ref x]) Q E s := by
  obtain ⟨d, ds, hc, hd, hds, hlen⟩ := level_parts hv.1 hv.2
  have hw : Str.ofString (toString v) = ⟨(d :: ds).toArray⟩ := by
    apply Str.ext'
    rw [← Array.toList_inj, hc]
  have hall : ∀ c ∈ d :: ds, Dig c := List.forall_mem_cons.mpr ⟨hd, hds⟩
  have h3 : y = 0 ∨ y = 1 ∨ y = 2 := by omega
  rw [hc] at hat hret
  rw [cnt_spell hall hy] at hret
  rw [hw] at hret
  rcases h3 with rfl | rfl | rfl
  · have e : spellL (d :: ds) 0 = d :: (ds ++ [32]) := rfl
    rw [e] at hat hret
    have hl : (d :: (ds ++ [32])).length = 1 + ds.length + 1 := by simp; omega
    rw [hl] at hat hret
    refine token_spec (i := i) (d := d) (ds := ds) (e := 32) B F X N T hk codeHd ok hd' hu n5 n6 n7 hd ?_ hds (by omega) ?_ ?_ (.inl rfl) fun t t' tl' h' tk' F' N' => ?_
    · simpa using hat 0 (by omega)
    · intro j hj
      have := hat (1 + j) (by omega)
      rw [← Nat.add_assoc] at this
      rw [this, Nat.add_comm 1 j, List.getElem?_cons_succ, List.getElem?_append_left hj, List.getElem?_eq_getElem hj]
    · have := hat (1 + ds.length) (by omega)
      rw [← Nat.add_assoc] at this
      rw [this, Nat.add_comm 1, List.getElem?_cons_succ, List.getElem?_append_right (Nat.le_refl _)]
      simp
    · refine hret t t' tl' h' tk' F' ?_
      rw [if_neg (by decide)] at N' ⊢
      rw [Int.add_zero, show i + (1 + ds.length + 1) = i + 1 + ds.length + 1 by omega]
      exact N'
  · have e : spellL (d :: ds) 1 = 34 :: ((d :: ds) ++ [34]) := rfl
    rw [e] at hat hret
    have hl : (34 :: ((d :: ds) ++ [34])).length = 1 + (d :: ds).length + 1 := by simp; omega
    rw [hl] at hat hret
    refine quoted_spec (i := i) (c := 34) (ds := d :: ds) B F X N T hk codeHd ok hd' hu n5 n6 n7 ?_ hall (by simp; omega) ?_ ?_ rfl fun t t' tl' h' tk' F' N' => ?_
    · simpa using hat 0 (by omega)
    · intro j hj
      have := hat (1 + j) (by omega)
      rw [← Nat.add_assoc] at this
      rw [this, Nat.add_comm 1 j, List.getElem?_cons_succ, List.getElem?_append_left hj, List.getElem?_eq_getElem hj]
    · have := hat (1 + (d :: ds).length) (by omega)
      rw [← Nat.add_assoc] at this
      rw [this, Nat.add_comm 1, List.getElem?_cons_succ, List.getElem?_append_right (Nat.le_refl _)]
      simp
    · refine hret t t' tl' h' tk' F' ?_
      rw [if_neg (by decide)]
      rw [Int.add_zero, show i + (1 + (d :: ds).length + 1) = i + 1 + (d :: ds).length + 1 by omega]
      exact N'
  · have e : spellL (d :: ds) 2 = 92 :: d :: (ds ++ [10]) := rfl
    rw [e] at hat hret
    have hl : (92 :: d :: (ds ++ [10])).length = 1 + 1 + ds.length + 1 := by simp; omega
    rw [hl] at hat hret
    refine slash_spec (i := i) (c := 92) (d := d) (e := 10) (ds := ds) B F X N T hk codeHd ok hd' hu n5 n6 n7 ?_ rfl hd ?_ hds (by omega) ?_ ?_ (.inr rfl) fun t t' tl' h' tk' F' N' => ?_
    · simpa using hat 0 (by omega)
    · simpa using hat 1 (by omega)
    · intro j hj
      have := hat (1 + 1 + j) (by omega)
      rw [← Nat.add_assoc, ← Nat.add_assoc] at this
      rw [this, show 1 + 1 + j = j + 1 + 1 by omega, List.getElem?_cons_succ, List.getElem?_cons_succ, List.getElem?_append_left hj, List.getElem?_eq_getElem hj]
    · have := hat (1 + 1 + ds.length) (by omega)
      rw [← Nat.add_assoc, ← Nat.add_assoc] at this
      rw [this, show 1 + 1 + ds.length = ds.length + 1 + 1 by omega, List.getElem?_cons_succ, List.getElem?_cons_succ, List.getElem?_append_right (Nat.le_refl _)]
      simp
    · refine hret t t' tl' h' tk' F' ?_
      rw [if_pos rfl] at N' ⊢
      rw [show i + (1 + 1 + ds.length + 1) = i + 1 + 1 + ds.length + 1 by omega]
      exact N'
end

end
section
theorem fillN4 : PySem.Challenge.rw_pe0144_01 = PySem.Challenge.rw_pe0144_01 ∧ hd.heap_1 = hd.heap_1 := by
  w_top off
  w_top off
  k_fill
  exact ⟨rfl, rfl⟩
noncomputable def asgExpr : Stmt → PySem.Expr
  | .Assign _ e _ => e
  | _ => .Constant .none 0 default
noncomputable def lcElt : PySem.Expr → PySem.Expr
  | .ListComp e _ _ _ => e
  | e => e
noncomputable def lcScope : PySem.Expr → Scope
  | .ListComp _ _ sc _ => sc
  | _ => default
section
variable {prog : Program} {w : World} {p : Program} {loose : List Str} {mean : ExcName → Option Value} {mg mb : Str → Option Value}
  {dp un : Nat} {gd : Option (List Code)} {a : Addr} {ccd : Value} {outer : List Env} {A₀ : Around} {base h₀ : Heap} {L : Addr} {m : Str → Option Value} {s : Shared} {E : Value → Shared → Prop} {tail : List Stmt} {Q : Flow → Shared → Prop} {rest : List (Addr × Obj)}
  {x dx f D f1 c1 ca ct la pb : Addr} {os : Array (Option Value)} {fd : FuncData} {oc oA oT : Obj} {q text : Str} {doc pm ctv : Value} {e1 e2 e3 e4 er : Int} {k1 k2 k3 k4 kr tw : Tok}
  {pos : Int} {tp : Tok} {ln : Int} {tl : Tok} {items : Array Value} {n : Nat}
/-- the lexer's own part of the ledger -/
noncomputable abbrev LXp (x dx f D f1 c1 ca ct la pb : Addr) (os : Array (Option Value)) (fd : FuncData) (oc oA oT : Obj) (q : Str) (doc pm ctv : Value) (e1 e2 e3 e4 er : Int) (k1 k2 k3 k4 kr tw : Tok)
    (pos : Int) (tp : Tok) (ln : Int) (tl : Tok) (items : Array Value) (n : Nat) : List (Addr × Obj) := LX x dx f D f1 c1 ca ct la pb os fd oc oA oT q doc pm ctv e1 e2 e3 e4 er k1 k2 k3 k4 kr tw pos tp ln tl items n []
theorem LX_pre (x dx f D f1 c1 ca ct la pb : Addr) (os : Array (Option Value)) (fd : FuncData) (oc oA oT : Obj) (q : Str) (doc pm ctv : Value) (e1 e2 e3 e4 er : Int) (k1 k2 k3 k4 kr tw : Tok)
    (pos : Int) (tp : Tok) (ln : Int) (tl : Tok) (items : Array Value) (n : Nat) (r : List (Addr × Obj)) : LX x dx f D f1 c1 ca ct la pb os fd oc oA oT q doc pm ctv e1 e2 e3 e4 er k1 k2 k3 k4 kr tw pos tp ln tl items n r = LXp x dx f D f1 c1 ca ct la pb os fd oc oA oT q doc pm ctv e1 e2 e3 e4 er k1 k2 k3 k4 kr tw pos tp ln tl items n ++ r := rfl
theorem mem_in3 {p1 p2 p3 : Addr × Obj} {l l' a r : List (Addr × Obj)} (e : l = a ++ p1 :: p2 :: p3 :: r) (e' : l' = a ++ r) : ∀ p ∈ l, p ∈ p1 :: p2 :: p3 :: l' := by
  subst e e'
  intro p hp
  simp only [List.mem_append, List.mem_cons] at hp ⊢
  rcases hp with h | h | h | h | h <;> simp [h]
theorem mem_out3 {p1 p2 p3 : Addr × Obj} {l l' a r : List (Addr × Obj)} (e : l = a ++ p1 :: p2 :: p3 :: r) (e' : l' = a ++ r) : ∀ p ∈ p1 :: p2 :: p3 :: l', p ∈ l := by
  subst e e'
  intro p hp
  simp only [List.mem_append, List.mem_cons] at hp ⊢
  rcases hp with h | h | h | h | h <;> simp [h]
theorem off_all {I C D : Addr} {l : List (Addr × Obj)} (h : LCg.Off3 I C D l) : (∀ p ∈ l, I ≠ p.1) ∧ (∀ p ∈ l, C ≠ p.1) ∧ (∀ p ∈ l, D ≠ p.1) :=
  ⟨fun p hp => (LCg.Off3.mem h p hp).1.symm, fun p hp => (LCg.Off3.mem h p hp).2.1.symm, fun p hp => (LCg.Off3.mem h p hp).2.2.symm⟩
theorem read_turn {i : Nat} {v y : Int} {I C Dl : Addr} {oI oC oD o3 : Obj} {R : Value → Shared → Prop} {E' : Value → Shared → Prop}
  (B : Below A₀ base outer h₀) (F : Fr h₀ L s.heap m) (X : (hd.heap_1 w.params).In h₀)
  (N : News h₀ L s.heap ((I, oI) :: (C, oC) :: (Dl, oD) :: LX x dx f D f1 c1 ca ct la pb os fd oc oA oT q doc pm ctv e1 e2 e3 e4 er k1 k2 k3 k4 kr tw (i : Int) tp ln tl #[] n ((L + 1 + 1 + 1, o3) :: rest)))
  (T : Top p loose mean mg mb h₀) (codeHd : CodeHd base 90 86) (ok : LexOk x dx f D f1 c1 ca ct la pb oc oA oT q text) (d3 : o3.data = Data.cell (some (.ref x)))
  (off : LCg.Off3 I C Dl (LX x dx f D f1 c1 ca ct la pb os fd oc oA oT q doc pm ctv e1 e2 e3 e4 er k1 k2 k3 k4 kr tw (i : Int) tp ln tl #[] n ((L + 1 + 1 + 1, o3) :: rest)))
  (hd' : dp + 10 < recursionLimit) (hu : un + 60 < cLine) (n5 : ∀ p ∈ ((L + 1 + 1 + 1, o3) :: rest), p.1 ≠ la) (n6 : ∀ p ∈ ((L + 1 + 1 + 1, o3) :: rest), p.1 ≠ dx) (n7 : ∀ p ∈ ((L + 1 + 1 + 1, o3) :: rest), p.1 ≠ pb)
  (hv : 0 ≤ v ∧ v ≤ 1024) (hy : 0 ≤ y ∧ y ≤ 2)
  (hat : ∀ j, j < (spellL (Str.ofString (toString v)).cps.toList y).length → text.cps[i + j]? = (spellL (Str.ofString (toString v)).cps.toList y)[j]?)
  (hR : ∀ t t' tl' h' tk', Fr h₀ L h' m → News h₀ L h' ((I, oI) :: (C, oC) :: (Dl, oD) :: LX x dx f D f1 c1 ca ct la pb os fd oc oA oT q doc pm ctv e1 e2 e3 e4 er k1 k2 k3 k4 kr tw ((i + (spellL (Str.ofString (toString v)).cps.toList y).length : Nat) : Int) t' (ln + cnt 10 (spellL (Str.ofString (toString v)).cps.toList y)) tl' #[] n ((L + 1 + 1 + 1, o3) :: rest)) →
    R (.str (Str.ofString (toString v)) t) {s with heap := h', toks := tk'}) :
  wpAny (model prog w) (lawA dp un gd L a ccd outer) (eval (lcElt (asgExpr ((fnBody lawDef).getD 5 default))) (compEnvC (lcScope (asgExpr ((fnBody lawDef).getD 5 default))) [(Str.ofString "lexer", L + 1 + 1 + 1)] C (lawE L a ccd))) R E' s := by
  obtain ⟨w1, w2, w3⟩ := off_all off
  dsimp only [lawDef, asgExpr, lcElt, lcScope, PySem.Challenge.pw_pe0144_01, fnBody, fnScope, List.getD, List.getD_eq_getElem?_getD, List.getElem?_cons_succ, List.getElem?_cons_zero, Option.getD]
  have N0 := N
  dsimp only [LX] at N
  k_steps
  show wpAny _ _ (call (.ref 56) [.ref x]) R E' s
  refine tok_word (rest := (I, oI) :: (C, oC) :: (Dl, oD) :: (L + 1 + 1 + 1, o3) :: rest) B F X (news_mono N0 (mem_in3 (LX_pre ..) (LX_pre ..))) T rfl codeHd ok (by omega) (by omega)
    (List.forall_mem_cons.mpr ⟨w1 _ (.head _), List.forall_mem_cons.mpr ⟨w2 _ (.head _), List.forall_mem_cons.mpr ⟨w3 _ (.head _), n5⟩⟩⟩)
    (List.forall_mem_cons.mpr ⟨w1 _ (.tail _ (.head _)), List.forall_mem_cons.mpr ⟨w2 _ (.tail _ (.head _)), List.forall_mem_cons.mpr ⟨w3 _ (.tail _ (.head _)), n6⟩⟩⟩)
    (List.forall_mem_cons.mpr ⟨w1 _ (.tail _ (.tail _ (.head _))), List.forall_mem_cons.mpr ⟨w2 _ (.tail _ (.tail _ (.head _))), List.forall_mem_cons.mpr ⟨w3 _ (.tail _ (.tail _ (.head _))), n7⟩⟩⟩)
    hv hy hat fun t t' tl' h' tk' F' N' => hR t t' tl' h' tk' F' (news_mono N' (mem_out3 (LX_pre ..) (LX_pre ..)))
/-- the written words -/
noncomputable def wordsL (ls : List Int) (wh : Int) : List (List Nat) := (List.range 9).map fun k => spellL (Str.ofString (toString (ls.getD k 0))).cps.toList (((k : Nat) + wh : Int).fmod 3)
theorem wordsL_get {ls : List Int} {wh : Int} {k : Nat} (h : k < (wordsL ls wh).length) : (wordsL ls wh)[k] = spellL (Str.ofString (toString (ls.getD k 0))).cps.toList (((k : Nat) + wh : Int).fmod 3) := by
  simp [wordsL]
theorem wordsL_len (ls : List Int) (wh : Int) : (wordsL ls wh).length = 9 := by simp [wordsL]
noncomputable def posAt (ls : List Int) (wh : Int) (k : Nat) : Nat := ((wordsL ls wh).take k).flatten.length
noncomputable def lnAt (ls : List Int) (wh : Int) (k : Nat) : Int := 1 + cnt 10 ((wordsL ls wh).take k).flatten
theorem fmod3 (z : Int) : 0 ≤ z.fmod 3 ∧ z.fmod 3 ≤ 2 := by
  have a1 := Int.fmod_nonneg_of_pos z (by decide : (0 : Int) < 3)
  have a2 := Int.fmod_lt_of_pos z (by decide : (0 : Int) < 3)
  omega
noncomputable def strLev (ls : List Int) (j : Nat) : Str := Str.ofString (toString (ls.getD j 0))
theorem read_rest {ls : List Int} {wh : Int} {o3 : Obj} {s : Shared} {P : Nat → Value → Prop} {Fin : List Value → List (Addr × Obj) → Prop}
  (B : Below A₀ base outer h₀) (X : (hd.heap_1 w.params).In h₀)
  (T : Top p loose mean mg mb h₀) (codeHd : CodeHd base 90 86) (ok : LexOk x dx f D f1 c1 ca ct la pb oc oA oT q text) (d3 : o3.data = Data.cell (some (.ref x)))
  (hd' : dp + 10 < recursionLimit) (hu : un + 60 < cLine) (n5 : ∀ p ∈ ((L + 1 + 1 + 1, o3) :: rest), p.1 ≠ la) (n6 : ∀ p ∈ ((L + 1 + 1 + 1, o3) :: rest), p.1 ≠ dx) (n7 : ∀ p ∈ ((L + 1 + 1 + 1, o3) :: rest), p.1 ≠ pb)
  (hb : ∀ k, 0 ≤ ls.getD k 0 ∧ ls.getD k 0 ≤ 1024) (ht : text.cps.toList = (wordsL ls wh).flatten)
  (hfin : ∀ ys tp tl, StrsAre ys ((List.range 9).map (strLev ls)) → Fin ys (LX x dx f D f1 c1 ca ct la pb os fd oc oA oT q doc pm ctv e1 e2 e3 e4 er k1 k2 k3 k4 kr tw (posAt ls wh 9 : Nat) tp (lnAt ls wh 9) tl #[] n ((L + 1 + 1 + 1, o3) :: rest))) :
  ∀ (k i : Nat) (ys : List Value) (tp tl : Tok), i + k = 9 → StrsAre ys ((List.range i).map (strLev ls)) →
    LCg.CompRest prog w (lawA dp un gd L a ccd outer) h₀ L m (lawE L a ccd) (lcElt (asgExpr ((fnBody lawDef).getD 5 default))) (Str.ofString "k") (lcScope (asgExpr ((fnBody lawDef).getD 5 default))) [(Str.ofString "lexer", L + 1 + 1 + 1)] s (fun _ => True) P Fin k i ys
      (LX x dx f D f1 c1 ca ct la pb os fd oc oA oT q doc pm ctv e1 e2 e3 e4 er k1 k2 k3 k4 kr tw (posAt ls wh i : Nat) tp (lnAt ls wh i) tl #[] n ((L + 1 + 1 + 1, o3) :: rest))
  | 0, i, ys, tp, tl, hik, hys => by
    have : i = 9 := by omega
    subst this
    exact hfin ys tp tl hys
  | k + 1, i, ys, tp, tl, hik, hys => by
    have hi : i < (wordsL ls wh).length := by rw [wordsL_len]; omega
    refine LCg.CompRest.succ fun v I oI C oC Dl m₂ h tk E' hP hC hx F N off ne => ?_
    refine read_turn (s := { s with heap := h, toks := tk }) (v := ls.getD i 0) (y := ((i : Nat) + wh : Int).fmod 3) B F X N T codeHd ok d3 off hd' hu n5 n6 n7 (hb i) (fmod3 _) (fun j hj => ?_) fun t t' tl' h' tk' F' N' => ?_
    · have := flat_at hi j (by rw [wordsL_get]; exact hj)
      rw [wordsL_get] at this
      rw [← this, ← ht, Array.getElem?_toList]
      rfl
    · refine LCg.CompEnd.intro F' N' _ (fun p hp => hp) off trivial ?_
      have e1 : posAt ls wh i + (spellL (Str.ofString (toString (ls.getD i 0))).cps.toList (((i : Nat) + wh : Int).fmod 3)).length = posAt ls wh (i + 1) := by
        unfold posAt
        rw [flat_next hi, List.length_append, wordsL_get]
      have e2 : lnAt ls wh i + cnt 10 (spellL (Str.ofString (toString (ls.getD i 0))).cps.toList (((i : Nat) + wh : Int).fmod 3)) = lnAt ls wh (i + 1) := by
        unfold lnAt
        rw [flat_next hi, cnt_app, wordsL_get]
        omega
      rw [e1, e2]
      refine read_rest B X T codeHd ok d3 hd' hu n5 n6 n7 hb ht hfin k (i + 1) (ys ++ [.str (strLev ls i) t]) t' tl' (by omega) ?_
      rw [List.range_succ, List.map_append]
      exact kct_snoc hys
end

end
section
theorem fillN5 : PySem.Challenge.rw_pe0144_01 = PySem.Challenge.rw_pe0144_01 ∧ hd.heap_1 = hd.heap_1 := by
  w_top off
  w_top off
  k_fill
  exact ⟨rfl, rfl⟩
section
variable {prog : Program} {w : World} {p : Program} {loose : List Str} {mean : ExcName → Option Value} {mg mb : Str → Option Value}
  {dp un : Nat} {gd : Option (List Code)} {a : Addr} {ccd : Value} {outer : List Env} {A₀ : Around} {base h₀ : Heap} {L : Addr} {m : Str → Option Value} {s : Shared} {E : Value → Shared → Prop} {tail : List Stmt} {Q : Flow → Shared → Prop} {rest : List (Addr × Obj)}
  {x dx f D f1 c1 ca ct la pb : Addr} {os : Array (Option Value)} {fd : FuncData} {oc oA oT : Obj} {q text : Str} {doc pm ctv : Value} {e1 e2 e3 e4 er : Int} {k1 k2 k3 k4 kr tw : Tok}
  {pos : Int} {tp : Tok} {ln : Int} {tl : Tok} {items : Array Value} {n : Nat}
theorem all_lt_cons {d : Addr} {p : Addr × Obj} {r : List (Addr × Obj)} (h : AllLt d (p :: r)) : @LT.lt Nat _ p.1 d ∧ AllLt d r := h
theorem app_off {l : List (Addr × Obj)} {z : Addr} (o : Obj) (n : ∀ p ∈ l, p.1 ≠ z) (h : @Ne Nat 86 z) : ∀ p ∈ l ++ [(86, o)], p.1 ≠ z := fun p hp => by
  rcases List.mem_append.mp hp with hp | hp
  · exact n p hp
  · rw [List.mem_singleton.mp hp]; exact h
theorem law_lexer {o3 : Obj} {ms : Str → Option Value} {tt : Tok}
  (B : Below A₀ base outer h₀) (F : Fr h₀ L s.heap (fun y => if y = Str.ofString "text" then some (.str text tt) else ms y)) (X : (hd.heap_1 w.params).In h₀)
  (N : News h₀ L s.heap ((86, tabObj #[]) :: (L + 1 + 1 + 1, o3) :: rest)) (T : Top p loose mean mg mb h₀) (codeHd : CodeHd base 90 86)
  (d3 : o3.data = Data.cell none) (l0 : @LT.lt Nat _ 86 L) (hn : ∀ p ∈ (L + 1 + 1 + 1, o3) :: rest, p.1 ≠ 86) (n3 : ∀ p ∈ rest, p.1 ≠ L + 1 + 1 + 1) (hx : text.length ≤ 100)
  (hd' : dp + 10 < recursionLimit) (hu : un + 60 < cLine)
  (hE : PassesOwn (model prog w) (lawA dp un gd L a ccd outer) (lawE L a ccd) E)
  (hnext : ∀ (x dx f D f1 c1 ca ct la pb : Addr) (os : Array (Option Value)) (fd : FuncData) (oc oA oT : Obj) (q : Str) (doc pm ctv : Value) (e1 e2 e3 e4 er : Int) (k1 k2 k3 k4 kr tw : Tok) (tp tl : Tok) (ps : Array Value) (o3' : Obj) (h' : Heap) (tk' : Nat), LexOk x dx f D f1 c1 ca ct la pb oc oA oT q text → AllLt ct ((L + 1 + 1 + 1, o3) :: rest) → o3'.data = Data.cell (some (.ref x)) →
    Fr h₀ L h' (fun y => if y = Str.ofString "text" then some (.str text tt) else ms y) → News h₀ L h' (LX x dx f D f1 c1 ca ct la pb os fd oc oA oT q doc pm ctv e1 e2 e3 e4 er k1 k2 k3 k4 kr tw 0 tp 1 tl #[] 0 ((L + 1 + 1 + 1, o3') :: (rest ++ [(86, tabObj ps)]))) → wpAny (model prog w) (lawA dp un gd L a ccd outer) (execs tail (lawE L a ccd)) Q E {s with heap := h', toks := tk'}) :
  wpAny (model prog w) (lawA dp un gd L a ccd outer) (execs ((fnBody lawDef).getD 4 default :: tail) (lawE L a ccd)) Q E s := by
  dsimp only [lawDef, PySem.Challenge.pw_pe0144_01, fnBody, fnScope, List.getD, List.getD_eq_getElem?_getD, List.getElem?_cons_succ, List.getElem?_cons_zero, Option.getD] at hE hnext ⊢
  repeat' (first | (k_unfold; (try dsimp only)) | (k_end; wrow_close) | (with_reducible (k_here; (with_reducible show wpAny _ _ (call (Value.ref 91) [Value.str _ _]) _ _ _); k_dflt (refine' machine_spec ?k1zq74 ?k2zq74 ?k3zq74 ?k4zq74 ?k5zq74 ?k6zq74 ?k7zq74 ?k8zq74 ?k9zq74 ?k10zq74 ?k11zq74 ?k12zq74 ?_; (case k1zq74 => k_asm); (case k2zq74 => k_asm); (case k3zq74 => k_asm); (case k4zq74 => assumption); (case k5zq74 => assumption); (case k6zq74 => k_asm); (case k7zq74 => exact rfl); (case k8zq74 => assumption); (case k9zq74 => assumption); (case k10zq74 => ktr_room); (case k11zq74 => ktr_units); (case k12zq74 => assumption)); (intro xzq' dxzq' fzq' Dzq' f1zq' c1zq' cazq' ctzq' lazq' pbzq' oszq' fdzq' oczq' oAzq' oTzq' qzq' doczq' pmzq' ctvzq' e1zq' e2zq' e3zq' e4zq' erzq' k1zq' k2zq' k3zq' k4zq' krzq' twzq' tpzq' tlzq' pszq' hzq' tkzq' okzq' alzq' Fzq' Nzq'); (have oo' := LexOk.o okzq'); (have al1' := And.left (all_lt_cons alzq')); (have n86' := app_off (tabObj pszq') n3 (by omega)); (dsimp only [LX, List.cons_append] at Nzq'); (try dsimp only))) | walk1 | (dsimp only; walk1) | (leave1; walk_say "STEP leave1"; try dsimp only) | fail "no step")
  refine' hnext _ _ _ _ _ _ _ _ _ _ _ _ _ _ _ _ _ _ _ _ _ _ _ _ _ _ _ _ _ _ _ _ _ _ _ _ ?ok ?al ?d ?f ?n
  case n => assumption
  case f => assumption
  case d => assumption
  case ok => assumption
  case al => assumption
noncomputable def Halt (p : Prop) : Prop := p
theorem halt {p : Prop} (h : Halt p) : p := h
theorem law_read {o3 : Obj} {ls : List Int} {wh : Int}
  (B : Below A₀ base outer h₀) (F : Fr h₀ L s.heap m) (X : (hd.heap_1 w.params).In h₀)
  (N : News h₀ L s.heap (LX x dx f D f1 c1 ca ct la pb os fd oc oA oT q doc pm ctv e1 e2 e3 e4 er k1 k2 k3 k4 kr tw (posAt ls wh 0 : Nat) tp (lnAt ls wh 0) tl #[] n ((L + 1 + 1 + 1, o3) :: rest)))
  (T : Top p loose mean mg mb h₀) (codeHd : CodeHd base 90 86) (ok : LexOk x dx f D f1 c1 ca ct la pb oc oA oT q text) (d3 : o3.data = Data.cell (some (.ref x)))
  (hd' : dp + 10 < recursionLimit) (hu : un + 60 < cLine) (n5 : ∀ p ∈ ((L + 1 + 1 + 1, o3) :: rest), p.1 ≠ la) (n6 : ∀ p ∈ ((L + 1 + 1 + 1, o3) :: rest), p.1 ≠ dx) (n7 : ∀ p ∈ ((L + 1 + 1 + 1, o3) :: rest), p.1 ≠ pb)
  (hb : ∀ k, 0 ≤ ls.getD k 0 ∧ ls.getD k 0 ≤ 1024) (ht : text.cps.toList = (wordsL ls wh).flatten)
  (hE : PassesOwn (model prog w) (lawA dp un gd L a ccd outer) (lawE L a ccd) E)
  (hnext : ∀ Dr ys tp' tl' h' tk', StrsAre ys ((List.range 9).map (strLev ls)) → LCg.Off1 Dr (LX x dx f D f1 c1 ca ct la pb os fd oc oA oT q doc pm ctv e1 e2 e3 e4 er k1 k2 k3 k4 kr tw (posAt ls wh 9 : Nat) tp' (lnAt ls wh 9) tl' #[] n ((L + 1 + 1 + 1, o3) :: rest)) → Fr h₀ L h' (fun z => if z = Str.ofString "read" then some (.ref Dr) else m z) →
    News h₀ L h' ((Dr, LCg.lst ys) :: LX x dx f D f1 c1 ca ct la pb os fd oc oA oT q doc pm ctv e1 e2 e3 e4 er k1 k2 k3 k4 kr tw (posAt ls wh 9 : Nat) tp' (lnAt ls wh 9) tl' #[] n ((L + 1 + 1 + 1, o3) :: rest)) → wpAny (model prog w) (lawA dp un gd L a ccd outer) (execs tail (lawE L a ccd)) Q E {s with heap := h', toks := tk'}) :
  wpAny (model prog w) (lawA dp un gd L a ccd outer) (execs ((fnBody lawDef).getD 5 default :: tail) (lawE L a ccd)) Q E s := by
  dsimp only [lawDef, PySem.Challenge.pw_pe0144_01, fnBody, fnScope, asgExpr, lcElt, lcScope, List.getD, List.getD_eq_getElem?_getD, List.getElem?_cons_succ, List.getElem?_cons_zero, Option.getD] at hE hnext ⊢
  repeat' (first | (k_unfold; (try dsimp only)) | (k_end; wrow_close) | (with_reducible ((with_reducible show LCg.CompSrc _ _ _ _ _ _ _ _ _ _ _ _ _ _); (k_here; k_dflt (refine LCg.CompSrc.range (by rfl) (by k_asm) (by k_asm) (by assumption) (by decide) (by rfl) (by exact Nat.le_of_ble_eq_true rfl) ?_; intro gzq')))) | (with_reducible ((with_reducible show LCg.CompRest _ _ _ _ _ _ _ _ _ _ _ _ _ _ _ _ _ _ _); (refine halt ?_))) | (with_reducible ((with_reducible show wpAny _ _ (exec (PySem.Stmt.Assign (_ :: _) (PySem.Expr.ListComp _ _ _ _) _) _) _ _ _); (k_here; k_dflt (refine LCg.Assign_ListComp_U (F₀ := by k_asm) (by rfl) (by with_unfolding_all rfl) (by with_unfolding_all rfl) (by decide) (by rfl) (by decide) (by rfl) (by rfl) (by rfl) ?_)))) | (with_reducible (k_here; (with_reducible show wpAny _ _ (call (Value.ref 91) [Value.str _ _]) _ _ _); k_dflt (refine' machine_spec ?k1zq74 ?k2zq74 ?k3zq74 ?k4zq74 ?k5zq74 ?k6zq74 ?k7zq74 ?k8zq74 ?k9zq74 ?k10zq74 ?k11zq74 ?k12zq74 ?_; (case k1zq74 => k_asm); (case k2zq74 => k_asm); (case k3zq74 => k_asm); (case k4zq74 => assumption); (case k5zq74 => assumption); (case k6zq74 => k_asm); (case k7zq74 => exact rfl); (case k8zq74 => assumption); (case k9zq74 => assumption); (case k10zq74 => ktr_room); (case k11zq74 => ktr_units); (case k12zq74 => assumption)); (intro xzq' dxzq' fzq' Dzq' f1zq' c1zq' cazq' ctzq' lazq' pbzq' oszq' fdzq' oczq' oAzq' oTzq' qzq' doczq' pmzq' ctvzq' e1zq' e2zq' e3zq' e4zq' erzq' k1zq' k2zq' k3zq' k4zq' krzq' twzq' tpzq' tlzq' pszq' hzq' tkzq' okzq' alzq' Fzq' Nzq'); (have oo' := LexOk.o okzq'); (have al1' := And.left (all_lt_cons alzq')); (have n86' := app_off (tabObj pszq') n3 (by omega)); (dsimp only [LX, List.cons_append] at Nzq'); (try dsimp only))) | walk1 | (dsimp only; walk1) | (leave1; walk_say "STEP leave1"; try dsimp only) | fail "no step")
  unfold Halt
  with_unfolding_all refine' read_rest B X T codeHd ok d3 hd' hu n5 n6 n7 hb ht ?fin 9 0 [] tp tl rfl .nil
  case fin =>
    intro ys tp' tl' hys D' h' tk' F' N' o1
    exact hnext D' ys tp' tl' h' tk' hys o1 F' N'
end

end
section
theorem fillN6 : PySem.Challenge.rw_pe0144_01 = PySem.Challenge.rw_pe0144_01 ∧ hd.heap_1 = hd.heap_1 := by
  w_top off
  w_top off
  k_fill
  exact ⟨rfl, rfl⟩
theorem strs_carried : ∀ {vs : List Value} {ns : List Str}, StrsAre vs ns → CarriedAll vs (ns.map PyData.str)
  | _, _, .nil => .nil
  | _, _, .cons _ t r => .cons (.str _ t) (strs_carried r)
theorem strs_canLay : ∀ ns : List Str, (∀ x ∈ ns, PyData.strOk x = true) → PyData.canLayAll0 (ns.map PyData.str) = true
  | [], _ => rfl
  | a :: r, h => by simp [PyData.canLayAll0, PyData.canLay0, strs_canLay r fun x hx => h x (.tail _ hx), h a (.head _)]
theorem strs_depth : ∀ ns : List Str, PyData.depthAll (ns.map PyData.str) = 0
  | [] => rfl
  | _ :: r => by simp [PyData.depthAll, PyData.depth, strs_depth r]
theorem strs_shaped (ns : List Str) (h : ∀ x ∈ ns, PyData.strOk x = true) : SeqAt.shaped (.list (ns.map PyData.str)) = true := by
  simp [SeqAt.shaped, PyData.canLay0, PyData.depth, strs_canLay ns h, strs_depth]
theorem strs_same : ∀ ns : List Str, PySem.Spec.sameAll (ns.map PyData.str) (ns.map PyData.str) = true
  | [] => by simp [PySem.Spec.sameAll]
  | a :: r => by simp [PySem.Spec.sameAll, PySem.Spec.same, strs_same r]
section
variable {prog : Program} {w : World} {A : Around} {E : Value → Shared → Prop} {s : Shared} {a b : Addr} {xs ys : List Value} {ns : List Str} {Q : Value → Shared → Prop}
theorem ne_strs (ha : s.heap.IsList a xs.toArray) (hb : s.heap.IsList b ys.toArray) (hi : StrsAre xs ns) (hj : StrsAre ys ns) (hok : ∀ x ∈ ns, PyData.strOk x = true) (hu : A.units + 64 < cLine) (h : Q (.bool false) s) :
    wpAny (model prog w) A (compareOp .NotEq (.ref a) (.ref b)) Q E s :=
  ne_dataH_same (reads_newData ha (strs_carried hi)) (reads_newData hb (strs_carried hj)) (strs_shaped _ hok) (strs_shaped _ hok) hu (SeqAt.noMix_of_shape (.list .str) rfl _ _ (list_map_has fun _ => rfl) (list_map_has fun _ => rfl)) (by simp only [PySem.Spec.same]; rw [strs_same]; exact h)
end
theorem ints_get {vs : List Value} {ls : List Int} (hi : IntsAre vs ls) : ∀ (i : Nat) (v : Value), i < vs.toArray.size → vs.toArray[i]? = some v → ∃ k t, ls[i]? = some k ∧ v = .int k t := fun i v _ hv => by
  obtain ⟨k, t, e, hk⟩ := IntsAre.at hi i v (by simpa using hv)
  exact ⟨k, t, hk, e⟩
theorem str_mem {prog : Program} {w : World} {A : Around} {E : Value → Shared → Prop} {s : Shared} {ls : List Int} {k : Int} {t : Tok} {Q : Value → Shared → Prop} (hk : k ∈ ls) (hb : ∀ k ∈ ls, 0 ≤ k ∧ k ≤ 1024) (h : Q (.str (Str.ofString (toString k)) s.toks) { s with toks := s.toks + 1 }) :
    wpAny (model prog w) A (call (.type "str") [.int k t]) Q E s := by
  have h1 := hb k hk
  have := str_level (prog := prog) (w := w) (A := A) (E := E) (s := s) (ls := [k]) (k := 0) (t := t) (Q := Q) (fun j => by cases j with | zero => exact h1 | succ j => exact ⟨by simp, by simp⟩) h
  exact this
section
variable {prog : Program} {w : World} {p : Program} {loose : List Str} {mean : ExcName → Option Value} {mg mb : Str → Option Value}
  {dp un : Nat} {gd : Option (List Code)} {a : Addr} {ccd : Value} {outer : List Env} {A₀ : Around} {base h₀ : Heap} {L : Addr} {m : Str → Option Value} {s : Shared} {E : Value → Shared → Prop} {tail : List Stmt} {Q : Flow → Shared → Prop} {rest : List (Addr × Obj)}
  {x dx f D f1 c1 ca ct la pb : Addr} {os : Array (Option Value)} {fd : FuncData} {oc oA oT : Obj} {q text : Str} {doc pm ctv : Value} {e1 e2 e3 e4 er : Int} {k1 k2 k3 k4 kr tw : Tok}
  {pos : Int} {tp : Tok} {ln : Int} {tl : Tok} {items : Array Value} {n : Nat}
theorem mem_in4 {d p1 p2 p3 p4 : Addr × Obj} {l l' a r : List (Addr × Obj)} (e : l = a ++ p1 :: p2 :: p3 :: p4 :: r) (e' : l' = a ++ r) : ∀ p ∈ l, p ∈ d :: p1 :: p2 :: p3 :: p4 :: l' := by
  subst e e'
  intro p hp
  simp only [List.mem_append, List.mem_cons] at hp ⊢
  rcases hp with h | h | h | h | h | h <;> simp [h]
theorem mem_out4 {p1 p2 p3 p4 : Addr × Obj} {l l' a r : List (Addr × Obj)} (e : l = a ++ p1 :: p2 :: p3 :: p4 :: r) (e' : l' = a ++ r) : ∀ p ∈ p1 :: p2 :: p3 :: p4 :: l', p ∈ l := by
  subst e e'
  intro p hp
  simp only [List.mem_append, List.mem_cons] at hp ⊢
  rcases hp with h | h | h | h | h | h <;> simp [h]
theorem law_check1 {o1 o3 : Obj} {ls : List Int} {rs vs : List Value} {Dr Dl : Addr} {c : Nat}
  (B : Below A₀ base outer h₀) (F : Fr h₀ L s.heap (fun z => if z = Str.ofString "read" then some (.ref Dr) else m z)) (X : (hd.heap_1 w.params).In h₀)
  (N : News h₀ L s.heap ((Dr, LCg.lst rs) :: (Dl, W.listOf vs.toArray c) :: (L + 1, o1) :: (L + 1 + 1 + 1, o3) :: LX x dx f D f1 c1 ca ct la pb os fd oc oA oT q doc pm ctv e1 e2 e3 e4 er k1 k2 k3 k4 kr tw (text.length : Int) tp ln tl #[] n rest))
  (T : Top p loose mean mg mb h₀) (codeHd : CodeHd base 90 86) (ok : LexOk x dx f D f1 c1 ca ct la pb oc oA oT q text) (d1 : o1.data = Data.cell (some (.ref Dl))) (d3 : o3.data = Data.cell (some (.ref x)))
  (hi : IntsAre vs ls) (hl : ls.length = 9) (hb : ∀ k ∈ ls, 0 ≤ k ∧ k ≤ 1024) (hr : StrsAre rs (ls.map fun k => Str.ofString (toString k))) (hok : ∀ x ∈ ls.map (fun k => Str.ofString (toString k)), PyData.strOk x = true)
  (hd' : dp + 10 < recursionLimit) (hu : un + 100 < cLine) (n5 : ∀ p ∈ (Dr, LCg.lst rs) :: (Dl, W.listOf vs.toArray c) :: (L + 1, o1) :: (L + 1 + 1 + 1, o3) :: rest, p.1 ≠ la) (n6 : ∀ p ∈ (Dr, LCg.lst rs) :: (Dl, W.listOf vs.toArray c) :: (L + 1, o1) :: (L + 1 + 1 + 1, o3) :: rest, p.1 ≠ dx) (n7 : ∀ p ∈ (Dr, LCg.lst rs) :: (Dl, W.listOf vs.toArray c) :: (L + 1, o1) :: (L + 1 + 1 + 1, o3) :: rest, p.1 ≠ pb)
  (hE : PassesOwn (model prog w) (lawA dp un gd L a ccd outer) (lawE L a ccd) E)
  (hnext : ∀ tp' tl' h' tk', Fr h₀ L h' (fun z => if z = Str.ofString "read" then some (.ref Dr) else m z) →
    News h₀ L h' ((Dr, LCg.lst rs) :: (Dl, W.listOf vs.toArray c) :: (L + 1, o1) :: (L + 1 + 1 + 1, o3) :: LX x dx f D f1 c1 ca ct la pb os fd oc oA oT q doc pm ctv e1 e2 e3 e4 er k1 k2 k3 k4 kr tw (text.length : Int) tp' ln tl' #[] n rest) → wpAny (model prog w) (lawA dp un gd L a ccd outer) (execs tail (lawE L a ccd)) Q E {s with heap := h', toks := tk'}) :
  wpAny (model prog w) (lawA dp un gd L a ccd outer) (execs ((fnBody lawDef).getD 6 default :: tail) (lawE L a ccd)) Q E s := by
  dsimp only [lawDef, PySem.Challenge.pw_pe0144_01, fnBody, fnScope, List.getD, List.getD_eq_getElem?_getD, List.getElem?_cons_succ, List.getElem?_cons_zero, Option.getD] at hE hnext ⊢
  repeat' (first | (k_unfold; (try dsimp only)) | (k_end; wrow_close) | (with_reducible ((with_reducible show wpAny _ _ (call (Value.ref 56) _) _ _ _); refine halt ?_)) | (with_reducible (k_here; (with_reducible show wpAny _ _ (compareOp CmpOp.NotEq (Value.ref _) (Value.ref _)) _ _ _); (with_reducible rename CarriedAll _ (List.map _ _) => ktCzq); k_dflt (refine' ne_strs ?k1zq83 ?k2zq83 ?k3zq83 (CarriedAll.strsOf ktCzq) ?k4zq83 ?k5zq83 ?_; (case k1zq83 => is_list); (case k2zq83 => is_list); (case k3zq83 => assumption); (case k4zq83 => assumption); (case k5zq83 => units_room)))) | (with_reducible (k_here; (with_reducible show wpAny _ _ (call (Value.type "str") [Value.int _ _]) _ _ _); refine str_mem (by assumption) (by assumption) ?_)) | (with_reducible ((with_reducible show KCtEl _ _ _ _); (with_unfolding_all exact ⟨rfl, _, rfl⟩))) | (with_reducible ((with_reducible show LCg.CompEnd _ _ _ _ _ _ _ _ _ _ _ _ _ _); (with_unfolding_all refine' compEnd_same ?k1zq80 ?k2zq80 ?k3zq80 ?k4zq80 ?_; (case k1zq80 => assumption); (case k2zq80 => assumption); (case k3zq80 => assumption); (case k4zq80 => exact Or.inr ⟨_, by k_mem, rfl, _, rfl⟩)))) | ((with_reducible show LCg.CompEnd _ _ _ _ _ _ _ _ _ _ _ _ _ _); (with_unfolding_all refine' compEnd_same ?k1zq80 ?k2zq80 ?k3zq80 ?k4zq80 ?_; (case k1zq80 => assumption); (case k2zq80 => assumption); (case k3zq80 => assumption); (case k4zq80 => exact Or.inr ⟨_, by k_mem, rfl, _, rfl⟩))) | (with_reducible ((with_reducible show LCg.CompSrc _ _ _ _ _ _ _ _ _ _ _ _ _ _); (k_here; k_dflt (refine LCg.CompSrc.ledger (by rfl) (by k_asm) (by k_asm) (by k_mem) ?_ ?_; (rw [List.size_toArray, IntsAre.length (by assumption), PySem.sizeLine_eq]; omega); intro gzq'; (refine' kct_rest (fun kzq => Str.ofString (toString kzq)) ?hkszq79 (ints_get (by assumption)) (fun kzq' tzq' Izq' oIzq' Czq' oCzq' Dzq' mzq' yszq' hzq' tkzq' Ezq' hkzq' hCzq' hxzq' Fzq' Nzq' offzq' nezq' => ?_) ?_); (case hkszq79 => (rw [List.size_toArray]; exact (IntsAre.length (by assumption)).symm)); (all_goals (try ((show KPfMark → _); intro hMarkzq'))); kcf_last)))) | (with_reducible ((with_reducible show wpAny _ _ (eval (PySem.Expr.ListComp _ _ _ _) _) _ _ _); (k_here; k_dflt (refine LCg.ListComp_U (F₀ := by k_asm) (by with_unfolding_all rfl) (by decide) (by rfl) (by decide) (by rfl) ?_)))) | walk1 | (dsimp only; walk1) | (leave1; walk_say "STEP leave1"; try dsimp only) | fail "no step")
  unfold Halt
  show wpAny _ _ (call (.ref 56) [.ref x]) _ _ _
  refine' end_spec (text := text) (rest := (Dr, LCg.lst rs) :: (Dl, W.listOf vs.toArray c) :: (L + 1, o1) :: (L + 1 + 1 + 1, o3) :: rest) ?b1 ?b2 ?b3 (news_mono ?b4 (mem_in4 (LX_pre ..) (LX_pre ..))) ?b5 rfl codeHd ok ?b6 ?b7 n5 n6 n7 ?b8
  case b4 => assumption
  case b1 => assumption
  case b2 => assumption
  case b3 => assumption
  case b5 => assumption
  case b6 => omega
  case b7 => omega
  case b8 =>
    intro t' t2' tl' h' tk' F' N'
    repeat' (first | (k_unfold; (try dsimp only)) | (k_end; wrow_close) | (with_reducible ((with_reducible show wpAny _ _ (call (Value.ref 56) _) _ _ _); refine halt ?_)) | (with_reducible (k_here; (with_reducible show wpAny _ _ (compareOp CmpOp.NotEq (Value.ref _) (Value.ref _)) _ _ _); (with_reducible rename CarriedAll _ (List.map _ _) => ktCzq); k_dflt (refine' ne_strs ?k1zq83 ?k2zq83 ?k3zq83 (CarriedAll.strsOf ktCzq) ?k4zq83 ?k5zq83 ?_; (case k1zq83 => is_list); (case k2zq83 => is_list); (case k3zq83 => assumption); (case k4zq83 => assumption); (case k5zq83 => units_room)))) | (with_reducible (k_here; (with_reducible show wpAny _ _ (call (Value.type "str") [Value.int _ _]) _ _ _); refine str_mem (by assumption) (by assumption) ?_)) | (with_reducible ((with_reducible show KCtEl _ _ _ _); (with_unfolding_all exact ⟨rfl, _, rfl⟩))) | (with_reducible ((with_reducible show LCg.CompEnd _ _ _ _ _ _ _ _ _ _ _ _ _ _); (with_unfolding_all refine' compEnd_same ?k1zq80 ?k2zq80 ?k3zq80 ?k4zq80 ?_; (case k1zq80 => assumption); (case k2zq80 => assumption); (case k3zq80 => assumption); (case k4zq80 => exact Or.inr ⟨_, by k_mem, rfl, _, rfl⟩)))) | ((with_reducible show LCg.CompEnd _ _ _ _ _ _ _ _ _ _ _ _ _ _); (with_unfolding_all refine' compEnd_same ?k1zq80 ?k2zq80 ?k3zq80 ?k4zq80 ?_; (case k1zq80 => assumption); (case k2zq80 => assumption); (case k3zq80 => assumption); (case k4zq80 => exact Or.inr ⟨_, by k_mem, rfl, _, rfl⟩))) | (with_reducible ((with_reducible show LCg.CompSrc _ _ _ _ _ _ _ _ _ _ _ _ _ _); (k_here; k_dflt (refine LCg.CompSrc.ledger (by rfl) (by k_asm) (by k_asm) (by k_mem) ?_ ?_; (rw [List.size_toArray, IntsAre.length (by assumption), PySem.sizeLine_eq]; omega); intro gzq'; (refine' kct_rest (fun kzq => Str.ofString (toString kzq)) ?hkszq79 (ints_get (by assumption)) (fun kzq' tzq' Izq' oIzq' Czq' oCzq' Dzq' mzq' yszq' hzq' tkzq' Ezq' hkzq' hCzq' hxzq' Fzq' Nzq' offzq' nezq' => ?_) ?_); (case hkszq79 => (rw [List.size_toArray]; exact (IntsAre.length (by assumption)).symm)); (all_goals (try ((show KPfMark → _); intro hMarkzq'))); kcf_last)))) | (with_reducible ((with_reducible show wpAny _ _ (eval (PySem.Expr.ListComp _ _ _ _) _) _ _ _); (k_here; k_dflt (refine LCg.ListComp_U (F₀ := by k_asm) (by with_unfolding_all rfl) (by decide) (by rfl) (by decide) (by rfl) ?_)))) | walk1 | (dsimp only; walk1) | (leave1; walk_say "STEP leave1"; try dsimp only) | fail "no step")
    refine' hnext _ _ _ _ ?q1 (news_mono ?q2 (mem_out4 (LX_pre ..) (LX_pre ..)))
    case q2 => assumption
    case q1 => assumption
end

end
section
theorem fillN7 : PySem.Challenge.rw_pe0144_01 = PySem.Challenge.rw_pe0144_01 ∧ hd.heap_1 = hd.heap_1 := by
  w_top off
  w_top off
  k_fill
  exact ⟨rfl, rfl⟩
section
variable {prog : Program} {w : World} {p : Program} {loose : List Str} {mean : ExcName → Option Value} {mg mb : Str → Option Value}
  {dp un : Nat} {gd : Option (List Code)} {a : Addr} {ccd : Value} {outer : List Env} {A₀ : Around} {base h₀ : Heap} {L : Addr} {m : Str → Option Value} {s : Shared} {E : Value → Shared → Prop} {tail : List Stmt} {Q : Flow → Shared → Prop} {rest : List (Addr × Obj)}
  {x dx f D f1 c1 ca ct la pb : Addr} {os : Array (Option Value)} {fd : FuncData} {oc oA oT : Obj} {q text : Str} {doc pm ctv : Value} {e1 e2 e3 e4 er : Int} {k1 k2 k3 k4 kr tw : Tok}
  {pos : Int} {tp : Tok} {ln : Int} {tl : Tok} {items : Array Value} {n : Nat}
theorem law_check2 {o3 : Obj} {Dr : Addr} {tt : Tok}
  (B : Below A₀ base outer h₀) (F : Fr h₀ L s.heap (fun z => if z = Str.ofString "read" then some (.ref Dr) else if z = Str.ofString "text" then some (.str text tt) else m z)) (X : (hd.heap_1 w.params).In h₀)
  (N : News h₀ L s.heap ((L + 1 + 1 + 1, o3) :: LX x dx f D f1 c1 ca ct la pb os fd oc oA oT q doc pm ctv e1 e2 e3 e4 er k1 k2 k3 k4 kr tw pos tp ln tl items n rest))
  (T : Top p loose mean mg mb h₀) (d3 : o3.data = Data.cell (some (.ref x))) (hln : ln = 1 + Txt.count text (Str.ofString "\n"))
  (hd' : dp + 10 < recursionLimit) (hu : un + 100 < cLine)
  (hE : PassesOwn (model prog w) (lawA dp un gd L a ccd outer) (lawE L a ccd) E)
  (hnext : ∀ h' tk', Fr h₀ L h' (fun z => if z = Str.ofString "read" then some (.ref Dr) else if z = Str.ofString "text" then some (.str text tt) else m z) →
    News h₀ L h' ((L + 1 + 1 + 1, o3) :: LX x dx f D f1 c1 ca ct la pb os fd oc oA oT q doc pm ctv e1 e2 e3 e4 er k1 k2 k3 k4 kr tw pos tp ln tl items n rest) → wpAny (model prog w) (lawA dp un gd L a ccd outer) (execs tail (lawE L a ccd)) Q E {s with heap := h', toks := tk'}) :
  wpAny (model prog w) (lawA dp un gd L a ccd outer) (execs ((fnBody lawDef).getD 7 default :: tail) (lawE L a ccd)) Q E s := by
  dsimp only [lawDef, PySem.Challenge.pw_pe0144_01, fnBody, fnScope, List.getD, List.getD_eq_getElem?_getD, List.getElem?_cons_succ, List.getElem?_cons_zero, Option.getD] at hE hnext ⊢
  dsimp only [LX] at N
  k_steps
  · exact absurd hln (by assumption)
  · refine' hnext _ _ ?f ?n
    case f => assumption
    case n => assumption
end

end
section
theorem fillN8 : PySem.Challenge.rw_pe0144_01 = PySem.Challenge.rw_pe0144_01 ∧ hd.heap_1 = hd.heap_1 := by
  w_top off
  w_top off
  k_fill
  exact ⟨rfl, rfl⟩
theorem fr_have {h₀ h : Heap} {L : Addr} {M : Str → Option Value} {k : Str} {v : Value} (F : Fr h₀ L h M) (e : M k = some v) : Fr h₀ L h (fun z => if z = k then some v else M z) := fr_ext F fun y => by
  by_cases g : y = k
  · rw [if_pos g, g]; exact e
  · exact (if_neg g).symm
section
variable {prog : Program} {w : World} {A : Around} {E : Value → Shared → Prop} {s : Shared} {env : Env} {h₀ : Heap} {x : Str} {body : List Stmt} {Q : Flow → Shared → Prop}
end

end
section
theorem fillN9 : PySem.Challenge.rw_pe0144_01 = PySem.Challenge.rw_pe0144_01 ∧ hd.heap_1 = hd.heap_1 := by
  w_top off
  w_top off
  k_fill
  exact ⟨rfl, rfl⟩
noncomputable def FL (k : Int) : UInt64 := Float64.ofFrac (decide (k < 0) != decide ((1024 : Int) < 0)) k.natAbs (Int.natAbs 1024)
section
variable {prog : Program} {w : World} {p : Program} {loose : List Str} {mean : ExcName → Option Value} {mg mb : Str → Option Value}
  {dp un : Nat} {gd : Option (List Code)} {a : Addr} {ccd : Value} {outer : List Env} {A₀ : Around} {base h₀ : Heap} {L : Addr} {m : Str → Option Value} {s : Shared} {E : Value → Shared → Prop} {news : List (Addr × Obj)} {tail : List Stmt} {Q : Flow → Shared → Prop}
local macro_rules | `(tactic| walk_at "subscriptTail Name Slice ref ref") => `(tactic| (k_here; (with_reducible show wpAny _ _ (subscriptTail _ (PySem.Expr.Slice _ _ none _) (Value.ref _) (Value.ref _)) _ _ _); k_dflt (refine' kmk_slice_lit ?F ?N ?l ?p ?q ?e ?_ ?s ?t ?z; (case F => k_asm); (case N => k_asm); (case l => kmk_list); (case p => kmk_part); (case q => kmk_part); (case e => assumption); (case s => with_unfolding_all rfl); (case t => kmk_pure); (case z => assumption)); intro D' h' F' N' l1; (try k_lt l1)))
local macro_rules | `(tactic| walk_at "CompEnd") => `(tactic| (with_unfolding_all refine' compEnd_same ?k1 ?k2 ?k3 ?k4 ?_; (case k1 => assumption); (case k2 => assumption); (case k3 => assumption); (case k4 => exact Or.inr ⟨_, by k_mem, rfl, _, rfl⟩)))
theorem color_a {Dr : Addr} {Pl : Addr} {rs : List Value} {kk ka kb kc : Int} {tk t0 t1 t2 : Tok} {M : Str → Option Value}
  (B : Below A₀ base outer h₀) (F : Fr h₀ L s.heap (fun z => if z = Str.ofString "k" then some (.int kk tk) else if z = Str.ofString "places" then some (.ref Pl) else if z = Str.ofString "read" then some (.ref Dr) else M z)) (X : (hd.heap_1 w.params).In h₀)
  (N : News h₀ L s.heap ((Dr, LCg.lst rs) :: news)) (T : Top p loose mean mg mb h₀)
  (hsl : (slicePick rs.toArray (some kk) (some (kk + 3)) none).toList = [.str (Str.ofString (toString ka)) t0, .str (Str.ofString (toString kb)) t1, .str (Str.ofString (toString kc)) t2]) (hsz : rs.toArray.size ≤ sizeLine)
  (ba : 0 ≤ ka) (ba' : ka ≤ 1024) (bb : 0 ≤ kb) (bb' : kb ≤ 1024) (bc : 0 ≤ kc) (bc' : kc ≤ 1024)
  (hd' : dp + 10 < recursionLimit) (hu : un + 100 < cLine)
  (hE : PassesOwn (model prog w) (lawA dp un gd L a ccd outer) (lawE L a ccd) E)
  (hnext : ∀ u1 u2 u3 h' tk', Fr h₀ L h' (fun z => if z = Str.ofString "blue" then some (.float (FL kc) u3) else if z = Str.ofString "green" then some (.float (FL kb) u2) else if z = Str.ofString "red" then some (.float (FL ka) u1) else if z = Str.ofString "k" then some (.int kk tk) else if z = Str.ofString "places" then some (.ref Pl) else if z = Str.ofString "read" then some (.ref Dr) else M z) → News h₀ L h' ((Dr, LCg.lst rs) :: news) → wpAny (model prog w) (lawA dp un gd L a ccd outer) (execs tail (lawE L a ccd)) Q E {s with heap := h', toks := tk'}) :
  wpAny (model prog w) (lawA dp un gd L a ccd outer) (execs ((forBody ((fnBody lawDef).getD 10 default)).getD 0 default :: tail) (lawE L a ccd)) Q E s := by
  dsimp only [lawDef, PySem.Challenge.pw_pe0144_01, fnBody, fnScope, forBody, List.getD, List.getD_eq_getElem?_getD, List.getElem?_cons_succ, List.getElem?_cons_zero, Option.getD] at hE hnext ⊢
  k_steps
  refine' hnext _ _ _ _ _ ?f (news_tail (news_tail ?n))
  case f => assumption
  case n => assumption
theorem rgb_spec2 {r g b : UInt64} {t1 t2 t3 : Tok} {cn : Str} {cs : Scope} {cl : List (Str × Addr)} {Q : Value → Shared → Prop}
  (B : Below A₀ base outer h₀) (F : Fr h₀ L s.heap m) (X : (hd.heap_1 w.params).In h₀) (N : News h₀ L s.heap news) (T : Top p loose mean mg mb h₀) (hk : cs.kind = .function)
  (hd' : dp + 1 < recursionLimit) (hu : un + 8 < cLine)
  (z1 : (Float64.cmp (min3 r g b) (max3 r g b) == some Ordering.eq) = false → ¬ Float64.isZero (max3 r g b) = true)
  (z2 : (Float64.cmp (min3 r g b) (max3 r g b) == some Ordering.eq) = false → ¬ Float64.isZero (Float64.sub (max3 r g b) (min3 r g b)) = true)
  (hret : ∀ D u1 u2 u3 n h' tk', (∀ q ∈ news, q.1 < D) → Fr h₀ L h' m → News h₀ L h' ((D, { cls := .type "tuple", data := .seq #[.float (hsvOf r g b).1 u1, .float (hsvOf r g b).2.1 u2, .float (hsvOf r g b).2.2 u3] n }) :: news) → Q (.ref D) {s with heap := h', toks := tk'}) :
  wpAny (model prog w) (ktrTop dp un gd cn cs L a ccd cl outer) (call (.ref 21) [.float r t1, .float g t2, .float b t3]) Q E s :=
  rgb_spec B F X N T hk hd' hu z1 z2 fun H S V D u1 u2 u3 n h' tk' e l F' N' => by
    have e1 : H = (hsvOf r g b).1 := congrArg (·.1) e
    have e2 : S = (hsvOf r g b).2.1 := congrArg (·.2.1) e
    have e3 : V = (hsvOf r g b).2.2 := congrArg (·.2.2) e
    subst e1 e2 e3
    exact hret D u1 u2 u3 n h' tk' l F' N'
theorem hsv_spec2 {x y z : UInt64} {t1 t2 t3 : Tok} {cn : Str} {cs : Scope} {cl : List (Str × Addr)} {Q : Value → Shared → Prop}
  (B : Below A₀ base outer h₀) (F : Fr h₀ L s.heap m) (X : (hd.heap_1 w.params).In h₀) (N : News h₀ L s.heap news) (T : Top p loose mean mg mb h₀) (hk : cs.kind = .function)
  (hd' : dp + 1 < recursionLimit) (hu : un + 8 < cLine)
  (z1 : (Float64.cmp y 0 == some Ordering.eq) = false → ¬ Float64.isNaN (Float64.mul x 4618441417868443648) = true)
  (z2 : (Float64.cmp y 0 == some Ordering.eq) = false → ¬ Float64.isInf (Float64.mul x 4618441417868443648) = true)
  (z3 : (Float64.cmp y 0 == some Ordering.eq) = false → ¬ 2 ^ 1024 - 2 ^ 970 ≤ (Flt.toInt Float64.truncOf (Float64.mul x 4618441417868443648)).natAbs)
  (hret : ∀ D u1 u2 u3 n h' tk', (∀ q ∈ news, q.1 < D) → Fr h₀ L h' m → News h₀ L h' ((D, { cls := .type "tuple", data := .seq #[.float (rgbOf x y z).1 u1, .float (rgbOf x y z).2.1 u2, .float (rgbOf x y z).2.2 u3] n }) :: news) → Q (.ref D) {s with heap := h', toks := tk'}) :
  wpAny (model prog w) (ktrTop dp un gd cn cs L a ccd cl outer) (call (.ref 28) [.float x t1, .float y t2, .float z t3]) Q E s :=
  hsv_spec B F X N T hk hd' hu z1 z2 z3 fun H S V D u1 u2 u3 n h' tk' e l F' N' => by
    have e1 : H = (rgbOf x y z).1 := congrArg (·.1) e
    have e2 : S = (rgbOf x y z).2.1 := congrArg (·.2.1) e
    have e3 : V = (rgbOf x y z).2.2 := congrArg (·.2.2) e
    subst e1 e2 e3
    exact hret D u1 u2 u3 n h' tk' l F' N'
end

end
section
theorem fillN10 : PySem.Challenge.rw_pe0144_01 = PySem.Challenge.rw_pe0144_01 ∧ hd.heap_1 = hd.heap_1 := by
  w_top off
  w_top off
  k_fill
  exact ⟨rfl, rfl⟩
theorem last_item {prog : Program} {w : World} {A : Around} {E : Value → Shared → Prop} {s : Shared} {value slice : PySem.Expr} {l : Addr} {vi : Array Value} {v : Value} {u : Tok} {Q : Value → Shared → Prop}
    (hl : s.heap.IsList l (vi.push v)) (h : Q v s)
    (hs : subscripted slice false (.ref l) (.int (-1) u) = operate [.ref l, .int (-1) u] (getItem (.ref l) (.int (-1) u)) := by with_unfolding_all rfl) :
    wpAny (model prog w) A (subscriptTail value slice (.ref l) (.int (-1) u)) Q E s :=
  tail_any hl.typeIs slot_list_getitem.lookup (wpAny_getItem_list_neg (k := -1) hl (by decide) (by rw [Array.size_push]; omega) (by decide) (by rw [Array.size_push, show (-1 + ((vi.size + 1 : Nat) : Int)).toNat = vi.size by omega]; simp) h) hs
theorem off1_of {D : Addr} : ∀ {l : List (Addr × Obj)}, (∀ p ∈ l, p.1 ≠ D) → LCg.Off1 D l
  | [], _ => trivial
  | _ :: _, h => ⟨h _ (.head _), off1_of fun p hp => h p (.tail _ hp)⟩
structure ColorOk (r g b : UInt64) (pl : Int) : Prop where
  z1 : (Float64.cmp (min3 r g b) (max3 r g b) == some Ordering.eq) = false → ¬ Float64.isZero (max3 r g b) = true
  z2 : (Float64.cmp (min3 r g b) (max3 r g b) == some Ordering.eq) = false → ¬ Float64.isZero (Float64.sub (max3 r g b) (min3 r g b)) = true
  y1 : (Float64.cmp (hsvOf r g b).2.1 0 == some Ordering.eq) = false → ¬ Float64.isNaN (Float64.mul 4618441417868443648 (hsvOf r g b).1) = true
  y2 : (Float64.cmp (hsvOf r g b).2.1 0 == some Ordering.eq) = false → ¬ Float64.isInf (Float64.mul 4618441417868443648 (hsvOf r g b).1) = true
  hp : placeF (hsvOf r g b).1 (hsvOf r g b).2.1 = pl
  w1 : (Float64.cmp (Float64.div (hsvOf r g b).2.1 (Float64.ofInt 2)) 0 == some Ordering.eq) = false → ¬ Float64.isNaN (Float64.mul (hsvOf r g b).1 4618441417868443648) = true
  w2 : (Float64.cmp (Float64.div (hsvOf r g b).2.1 (Float64.ofInt 2)) 0 == some Ordering.eq) = false → ¬ Float64.isInf (Float64.mul (hsvOf r g b).1 4618441417868443648) = true
  w3 : (Float64.cmp (Float64.div (hsvOf r g b).2.1 (Float64.ofInt 2)) 0 == some Ordering.eq) = false → ¬ 2 ^ 1024 - 2 ^ 970 ≤ (Flt.toInt Float64.truncOf (Float64.mul (hsvOf r g b).1 4618441417868443648)).natAbs
  e : [voteI (rgbOf (hsvOf r g b).1 (Float64.div (hsvOf r g b).2.1 (Float64.ofInt 2)) 4602678819172646912).1 (rgbOf (hsvOf r g b).1 (Float64.div (hsvOf r g b).2.1 (Float64.ofInt 2)) 4602678819172646912).2.1,
       voteI (rgbOf (hsvOf r g b).1 (Float64.div (hsvOf r g b).2.1 (Float64.ofInt 2)) 4602678819172646912).2.1 (rgbOf (hsvOf r g b).1 (Float64.div (hsvOf r g b).2.1 (Float64.ofInt 2)) 4602678819172646912).2.2,
       voteI (rgbOf (hsvOf r g b).1 (Float64.div (hsvOf r g b).2.1 (Float64.ofInt 2)) 4602678819172646912).2.2 (rgbOf (hsvOf r g b).1 (Float64.div (hsvOf r g b).2.1 (Float64.ofInt 2)) 4602678819172646912).1] = [voteI r g, voteI g b, voteI b r]
section
variable {prog : Program} {w : World} {p : Program} {loose : List Str} {mean : ExcName → Option Value} {mg mb : Str → Option Value}
  {dp un : Nat} {gd : Option (List Code)} {a : Addr} {ccd : Value} {outer : List Env} {A₀ : Around} {base h₀ : Heap} {L : Addr} {m : Str → Option Value} {s : Shared} {E : Value → Shared → Prop} {news : List (Addr × Obj)} {tail : List Stmt} {Q : Flow → Shared → Prop}
theorem color_end {Vl Pl a1 a2 a3 D' : Addr} {q1 q2 q3 o4 : Obj} {vi pi : Array Value} {nv np : Nat} {w1 w2 w3 pl pl' : Int} {t0 t1 t2 tp : Tok} {M M' : Str → Option Value} {R : Flow → Shared → Prop} {h' : Heap} {tk' : Nat}
  (hR : ∀ D' t0 t1 t2 tp M' h' tk', (@Ne Nat Vl D' ∧ @Ne Nat Pl D' ∧ @Ne Nat (L + 1 + 1 + 1 + 1) D' ∧ LCg.Off1 D' news) → Fr h₀ L h' M' → M' (Str.ofString "places") = some (.ref Pl) → M' (Str.ofString "read") = M (Str.ofString "read") →
    News h₀ L h' ((D', LCg.lst [.int w1 t0, .int w2 t1, .int w3 t2]) :: (Vl, W.listOf (vi.push (.ref D')) (nv + 1)) :: (Pl, W.listOf (pi.push (.int pl tp)) (np + 1)) :: (L + 1 + 1 + 1 + 1, o4) :: news) → R .next {s with heap := h', toks := tk'})
  (F : Fr h₀ L h' M') (N : News h₀ L h' ((a1, q1) :: (a2, q2) :: (D', LCg.lst [.int w1 t0, .int w2 t1, .int w3 t2]) :: (a3, q3) :: (Vl, W.listOf (vi.push (.ref D')) (nv + 1)) :: (Pl, W.listOf (pi.push (.int pl' tp)) (np + 1)) :: (L + 1 + 1 + 1 + 1, o4) :: news))
  (l : @Ne Nat a3 D' ∧ @Ne Nat Vl D' ∧ @Ne Nat Pl D' ∧ @Ne Nat (L + 1 + 1 + 1 + 1) D' ∧ LCg.Off1 D' news) (hp : pl' = pl) (e1 : M' (Str.ofString "places") = some (.ref Pl)) (e2 : M' (Str.ofString "read") = M (Str.ofString "read")) :
  R .next {s with heap := h', toks := tk'} := by
  subst hp
  refine hR D' t0 t1 t2 tp M' h' tk' l.2 F e1 e2 fun p hp => N p ?_
  rcases List.mem_cons.mp hp with e | e
  · exact e ▸ .tail _ (.tail _ (.head _))
  · exact .tail _ (.tail _ (.tail _ (.tail _ e)))
theorem color_b {Vl Pl : Addr} {vi pi : Array Value} {nv np : Nat} {r g b : UInt64} {pl : Int} {u1 u2 u3 : Tok} {o4 : Obj} {M : Str → Option Value} {R : Flow → Shared → Prop}
  (B : Below A₀ base outer h₀) (F : Fr h₀ L s.heap (fun z => if z = Str.ofString "blue" then some (.float b u3) else if z = Str.ofString "green" then some (.float g u2) else if z = Str.ofString "red" then some (.float r u1) else if z = Str.ofString "places" then some (.ref Pl) else M z)) (X : (hd.heap_1 w.params).In h₀)
  (N : News h₀ L s.heap ((Vl, W.listOf vi nv) :: (Pl, W.listOf pi np) :: (L + 1 + 1 + 1 + 1, o4) :: news)) (T : Top p loose mean mg mb h₀)
  (d4 : o4.data = Data.cell (some (.ref Vl))) (ok : ColorOk r g b pl) (hvi : vi.size ≤ 5) (hpi : pi.size ≤ 5)
  (n3 : @Ne Nat Vl Pl) (n4 : @Ne Nat (L + 1 + 1 + 1 + 1) Vl) (n5 : @Ne Nat (L + 1 + 1 + 1 + 1) Pl) (n6 : ∀ p ∈ news, p.1 ≠ Vl) (n7 : ∀ p ∈ news, p.1 ≠ Pl)
  (hd' : dp + 10 < recursionLimit) (hu : un + 100 < cLine)
  (hE : PassesOwn (model prog w) (lawA dp un gd L a ccd outer) (lawE L a ccd) E)
  (hR : ∀ D' t0 t1 t2 tp M' h' tk', (@Ne Nat Vl D' ∧ @Ne Nat Pl D' ∧ @Ne Nat (L + 1 + 1 + 1 + 1) D' ∧ LCg.Off1 D' news) → Fr h₀ L h' M' → M' (Str.ofString "places") = some (.ref Pl) → M' (Str.ofString "read") = M (Str.ofString "read") →
    News h₀ L h' ((D', LCg.lst [.int (voteI r g) t0, .int (voteI g b) t1, .int (voteI b r) t2]) :: (Vl, W.listOf (vi.push (.ref D')) (nv + 1)) :: (Pl, W.listOf (pi.push (.int pl tp)) (np + 1)) :: (L + 1 + 1 + 1 + 1, o4) :: news) → R .next {s with heap := h', toks := tk'}) :
  wpAny (model prog w) (lawA dp un gd L a ccd outer) (execs ((forBody ((fnBody lawDef).getD 10 default)).drop 1) (lawE L a ccd)) R E s := by
  dsimp only [lawDef, PySem.Challenge.pw_pe0144_01, fnBody, fnScope, forBody, List.getD, List.getD_eq_getElem?_getD, List.getElem?_cons_succ, List.getElem?_cons_zero, Option.getD, List.drop] at hE ⊢
  repeat' (first | (k_unfold; (try dsimp only)) | (k_end; wrow_close) | (with_reducible (k_here; (with_reducible show wpAny _ _ (call (Value.ref 103) [Value.float _ _, Value.float _ _, Value.float _ _]) _ _ _); k_dflt (refine' vote_spec ?k1zq37 ?k2zq37 ?k3zq37 ?k4zq37 ?k5zq37 ?k6zq37 ?k7zq37 ?k8zq37  ?_; (case k1zq37 => k_asm); (case k2zq37 => k_asm); (case k3zq37 => k_asm); (case k4zq37 => k_asm); (case k5zq37 => k_asm); (case k6zq37 => exact rfl); (case k7zq37 => ktr_room); (case k8zq37 => ktr_units);  k_whole; intro Dzq' t0zq' t1zq' t2zq' hzq' tkzq' l1zq Fzq' Nzq'; (replace l1zq := off1_of l1zq); (simp only [LCg.Off1] at l1zq); (try dsimp only); (try k_fold)))) | (with_reducible (k_here; (with_reducible show wpAny _ _ (call (Value.ref 28) [Value.float _ _, Value.float _ _, Value.float _ _]) _ _ _); k_dflt (refine' hsv_spec2 ?k1zq36 ?k2zq36 ?k3zq36 ?k4zq36 ?k5zq36 ?k6zq36 ?k7zq36 ?k8zq36 ?e0zq36 ?e1zq36 ?e2zq36 ?_; (case k1zq36 => k_asm); (case k2zq36 => k_asm); (case k3zq36 => k_asm); (case k4zq36 => k_asm); (case k5zq36 => k_asm); (case k6zq36 => exact rfl); (case k7zq36 => ktr_room); (case k8zq36 => ktr_units); (case e0zq36 => exact ColorOk.w1 (by assumption)); (case e1zq36 => exact ColorOk.w2 (by assumption)); (case e2zq36 => exact ColorOk.w3 (by assumption)); k_whole; intro Dzq' u1zq' u2zq' u3zq' nzq' hzq' tkzq' l1zq Fzq' Nzq'; (try k_lt l1zq); (try dsimp only); (try k_fold)))) | (with_reducible (k_here; (with_reducible show wpAny _ _ (call (Value.ref 117) [Value.float _ _, Value.float _ _]) _ _ _); k_dflt (refine' place_spec ?k1zq35 ?k2zq35 ?k3zq35 ?k4zq35 ?k5zq35 ?k6zq35 ?k7zq35 ?k8zq35 ?e0zq35 ?e1zq35 ?_; (case k1zq35 => k_asm); (case k2zq35 => k_asm); (case k3zq35 => k_asm); (case k4zq35 => k_asm); (case k5zq35 => k_asm); (case k6zq35 => exact rfl); (case k7zq35 => ktr_room); (case k8zq35 => ktr_units); (case e0zq35 => exact ColorOk.y1 (by assumption)); (case e1zq35 => exact ColorOk.y2 (by assumption)); k_whole; intro tzq' hzq' tkzq' Fzq' Nzq'; (try dsimp only); (try k_fold)))) | (with_reducible (k_here; (with_reducible show wpAny _ _ (call (Value.ref 21) [Value.float _ _, Value.float _ _, Value.float _ _]) _ _ _); k_dflt (refine' rgb_spec2 ?k1zq34 ?k2zq34 ?k3zq34 ?k4zq34 ?k5zq34 ?k6zq34 ?k7zq34 ?k8zq34 ?e0zq34 ?e1zq34 ?_; (case k1zq34 => k_asm); (case k2zq34 => k_asm); (case k3zq34 => k_asm); (case k4zq34 => k_asm); (case k5zq34 => k_asm); (case k6zq34 => exact rfl); (case k7zq34 => ktr_room); (case k8zq34 => ktr_units); (case e0zq34 => exact ColorOk.z1 (by assumption)); (case e1zq34 => exact ColorOk.z2 (by assumption)); k_whole; intro Dzq' u1zq' u2zq' u3zq' nzq' hzq' tkzq' l1zq Fzq' Nzq'; (try k_lt l1zq); (try dsimp only); (try k_fold)))) | (with_reducible (k_here; (with_reducible show wpAny _ _ (subscriptTail _ _ (Value.ref _) (Value.int (-1) _)) _ _ _); k_dflt (refine' last_item ?k1zq33 ?_ ?k2zq33; (case k1zq33 => is_list); (case k2zq33 => with_unfolding_all rfl)))) | walk1 | (dsimp only; walk1) | (leave1; walk_say "STEP leave1"; try dsimp only) | fail "no step")
  · refine' color_end hR ?f1 ?n1 ?l1 (ColorOk.hp ok) ?q1 ?q2
    case n1 => assumption
    case f1 => assumption
    case l1 => assumption
    case q1 => rfl
    case q2 => rfl
  · exact absurd (ColorOk.e ok) (by assumption)
end

end
section
theorem fillN11 : PySem.Challenge.rw_pe0144_01 = PySem.Challenge.rw_pe0144_01 ∧ hd.heap_1 = hd.heap_1 := by
  w_top off
  w_top off
  k_fill
  exact ⟨rfl, rfl⟩
section
variable {prog : Program} {w : World} {A : Around} {E : Value → Shared → Prop} {s : Shared} {env : Env} {h₀ : Heap} {x : Str} {body : List Stmt} {Q : Flow → Shared → Prop}
/-- a turn's end where the turn may keep what it made -/
noncomputable def GrowPost (h₀ : Heap) (L I : Addr) (own : List (Addr × Obj)) (J : (Str → Option Value) → List (Addr × Obj) → Prop) (s₁ : Shared) (Q : Flow → Shared → Prop) (f : Flow) (s₂ : Shared) : Prop :=
  match f with
  | .ret v => Q (.ret v) s₂
  | .brk => Q .next s₂
  | _ => ∃ h' tk m' nx', s₂ = { s₁ with heap := h', toks := tk } ∧ Fr h₀ L h' m' ∧ News h₀ L h' (own ++ nx') ∧ (∀ p ∈ nx', p.1 ≠ I) ∧ J m' nx'
theorem list_grow {l : Addr} {vs : List Value} {k : Nat} {m₀ : Str → Option Value} {news : List (Addr × Obj)} (J : Nat → (Str → Option Value) → List (Addr × Obj) → Prop)
    (hh : A.handled = none) (F : Fr h₀ env.locals s.heap m₀) (N : News h₀ env.locals s.heap ((l, W.listOf vs.toArray k) :: news)) (hJ : J 0 m₀ news)
    (turn : ∀ i v m₁ nx h tk own I oI, vs[i]? = some v → (I, oI) ∈ own → (∀ p ∈ own, p.1 = I ∨ p.1 = l) → (∀ p ∈ nx, p.1 ≠ I) → J i m₁ nx → Fr h₀ env.locals h (fun y => if y = x then some v else m₁ y) → News h₀ env.locals h (own ++ nx) →
      wpAny (model prog w) A (execs body env) (GrowPost h₀ env.locals I own (J (i + 1)) { s with heap := h, toks := tk } Q) E { s with heap := h, toks := tk })
    (done : ∀ m₁ nx h tk, J vs.length m₁ nx → Fr h₀ env.locals h m₁ → News h₀ env.locals h nx → Q .next { s with heap := h, toks := tk }) :
    wpAny (model prog w) A (pyIter (.ref l)) (fun it s₂ => LoopAtV prog w A h₀ env x body Q E it s₂) E s := by
  have hm := N _ (.head _)
  have hls : s.heap.IsList l vs.toArray := ⟨_, hm.1, rfl, _, rfl⟩
  have hlt : l < s.heap.objs.size := Heap.lt_size hm.1
  refine wpAny_pyIter_list hls ?_
  have W := Walks.list (prog := prog) (w := w) hh s.heap.objs.size l (Nat.ne_of_lt hlt) vs.toArray
  rw [List.size_toArray] at W
  have hI : ∀ d, d < s.heap.objs.size → d ≠ s.heap.objs.size := fun d hd => Nat.ne_of_lt hd
  have hIn : h₀.get? s.heap.objs.size = none := next_is_new F
  refine ⟨s.heap.objs.size, _, _, vs.length, _, _, m₀, news, J, rfl, W, fun hmem => ?_, fun b hb => by rw [List.mem_singleton.mp hb]; exact hIn, fun p hp hmem => hI _ (Heap.lt_size (N p (.tail _ hp)).1) (List.mem_singleton.mp hmem),
    ⟨⟨_, Heap.get?_push_size _ rfl, rfl, rfl⟩, hls.at fun o e => Heap.get?_push_of_some _ e⟩, F.push _, fun p hp => ⟨Heap.get?_push_of_some _ (N p (.tail _ hp)).1, (N p (.tail _ hp)).2⟩, hJ, ?_, ?_⟩
  · rcases List.mem_cons.mp hmem with e | hmem
    · exact hI _ F.ns.lt e
    · exact hm.2.1 (List.mem_singleton.mp hmem).symm
  · rintro i v m₁ news₁ s₁ own ⟨h, tk, rfl⟩ hi hP hj hoff hown _ hall hst F₁ N₁
    obtain ⟨oI, hoI, _⟩ := hst.1
    have hin : (s.heap.objs.size, oI) ∈ own := hall _ (.head _) hIn _ hoI
    refine wpAny_mono (turn i v m₁ news₁ h tk own s.heap.objs.size oI (by simpa using hP) hin (fun p hp => (List.mem_cons.mp (hown p hp)).elim .inl fun e => .inr (List.mem_singleton.mp e)) (fun p hp e => hoff p hp (by rw [e]; exact .head _)) hj F₁ N₁) (fun f s₂ g => ?_) fun _ _ e => e
    have fin : (∃ h' tk' m' nx', s₂ = { s with heap := h', toks := tk' } ∧ Fr h₀ env.locals h' m' ∧ News h₀ env.locals h' (own ++ nx') ∧ (∀ p ∈ nx', p.1 ≠ s.heap.objs.size) ∧ J (i + 1) m' nx') →
        LoopStepU h₀ env.locals [s.heap.objs.size] own (J (i + 1)) { s with heap := h, toks := tk } .next s₂ := by
      rintro ⟨h', tk', m', nx', e, F', N', ho, hj'⟩
      exact ⟨rfl, h', tk', m', nx', e, F', N', fun p hp hmem => ho p hp (List.mem_singleton.mp hmem), hj'⟩
    cases f with
    | ret v => exact .ret g
    | brk => exact .brk g
    | next => exact .next (fin g)
    | cont => exact .cont (fin g)
  · intro h' tk m' news' F' N' _ hj
    exact done m' news' h' tk hj F' N'
end
section
variable {prog : Program} {w : World} {p : Program} {loose : List Str} {mean : ExcName → Option Value} {mg mb : Str → Option Value}
  {dp un : Nat} {gd : Option (List Code)} {a : Addr} {ccd : Value} {outer : List Env} {A₀ : Around} {base h₀ : Heap} {L : Addr} {m : Str → Option Value} {s : Shared} {E : Value → Shared → Prop} {news : List (Addr × Obj)} {tail : List Stmt} {Q : Flow → Shared → Prop}
theorem law_init {o4 : Obj} {M : Str → Option Value}
  (B : Below A₀ base outer h₀) (F : Fr h₀ L s.heap M) (X : (hd.heap_1 w.params).In h₀)
  (N : News h₀ L s.heap ((L + 1 + 1 + 1 + 1, o4) :: news)) (T : Top p loose mean mg mb h₀) (d4 : o4.data = Data.cell none) (n4 : ∀ p ∈ news, p.1 ≠ L + 1 + 1 + 1 + 1)
  (hd' : dp + 10 < recursionLimit) (hu : un + 100 < cLine)
  (hE : PassesOwn (model prog w) (lawA dp un gd L a ccd outer) (lawE L a ccd) E)
  (hnext : ∀ (Vl Pl : Addr) o4' h' tk', o4'.data = Data.cell (some (.ref Vl)) → (@LT.lt Nat _ (L + 1 + 1 + 1 + 1) Vl ∧ AllLt Vl news) → (@LT.lt Nat _ Vl Pl ∧ @LT.lt Nat _ (L + 1 + 1 + 1 + 1) Pl ∧ AllLt Pl news) → Fr h₀ L h' (fun z => if z = Str.ofString "places" then some (.ref Pl) else M z) →
    News h₀ L h' ((Pl, W.listOf #[] 0) :: (Vl, W.listOf #[] 0) :: (L + 1 + 1 + 1 + 1, o4') :: news) → wpAny (model prog w) (lawA dp un gd L a ccd outer) (execs tail (lawE L a ccd)) Q E {s with heap := h', toks := tk'}) :
  wpAny (model prog w) (lawA dp un gd L a ccd outer) (execs ((fnBody lawDef).getD 8 default :: (fnBody lawDef).getD 9 default :: tail) (lawE L a ccd)) Q E s := by
  dsimp only [lawDef, PySem.Challenge.pw_pe0144_01, fnBody, fnScope, List.getD, List.getD_eq_getElem?_getD, List.getElem?_cons_succ, List.getElem?_cons_zero, Option.getD] at hE hnext ⊢
  k_steps
  refine' hnext _ _ _ _ _ ?d ?l1 ?l2 ?f ?n
  case n => assumption
  case f => assumption
  case d => assumption
  case l1 => assumption
  case l2 => assumption
variable {R : Flow → Shared → Prop}
theorem fr_swap {h₀ h : Heap} {L : Addr} {M : Str → Option Value} {v1 v2 v3 v4 v5 v6 : Option Value}
    (F : Fr h₀ L h (fun z => if z = Str.ofString "blue" then v1 else if z = Str.ofString "green" then v2 else if z = Str.ofString "red" then v3 else if z = Str.ofString "k" then v4 else if z = Str.ofString "places" then v5 else if z = Str.ofString "read" then v6 else M z)) :
    Fr h₀ L h (fun z => if z = Str.ofString "blue" then v1 else if z = Str.ofString "green" then v2 else if z = Str.ofString "red" then v3 else if z = Str.ofString "places" then v5 else (fun z => if z = Str.ofString "k" then v4 else if z = Str.ofString "places" then v5 else if z = Str.ofString "read" then v6 else M z) z) := fr_ext F fun y => by
  by_cases g : y = Str.ofString "places"
  · subst g; rfl
  · simp only [if_neg g]
theorem fr_k2 {h₀ h : Heap} {L : Addr} {M : Str → Option Value} {k p r : Str} {v pv rv : Option Value} (F : Fr h₀ L h (fun z => if z = k then v else M z)) (h1 : M p = pv) (h2 : M r = rv) :
    Fr h₀ L h (fun z => if z = k then v else if z = p then pv else if z = r then rv else M z) := fr_ext F fun y => by
  by_cases g : y = k
  · rw [if_pos g, if_pos g]
  · rw [if_neg g, if_neg g]
    by_cases g1 : y = p
    · rw [if_pos g1, g1, h1]
    · rw [if_neg g1]
      by_cases g2 : y = r
      · rw [if_pos g2, g2, h2]
      · rw [if_neg g2]
/-- what the colours have left behind so far -/
inductive ColorsTo (vote : Nat → Int × Int × Int) (place : Nat → Int) (bar : List (Addr × Obj)) : Nat → List (Addr × Obj) → Array Value → Array Value → Prop
  | zero : ColorsTo vote place bar 0 [] #[] #[]
  | succ {i : Nat} {ds : List (Addr × Obj)} {vi pi : Array Value} {D : Addr} {t0 t1 t2 tp : Tok} : ColorsTo vote place bar i ds vi pi → (∀ p ∈ bar, p.1 ≠ D) →
      ColorsTo vote place bar (i + 1) ((D, LCg.lst [.int (vote i).1 t0, .int (vote i).2.1 t1, .int (vote i).2.2 t2]) :: ds) (vi.push (.ref D)) (pi.push (.int (place i) tp))
theorem ColorsTo.sizes {vote : Nat → Int × Int × Int} {place : Nat → Int} {bar : List (Addr × Obj)} {i : Nat} {ds : List (Addr × Obj)} {vi pi : Array Value} (h : ColorsTo vote place bar i ds vi pi) : vi.size = i ∧ pi.size = i := by
  induction h with
  | zero => exact ⟨rfl, rfl⟩
  | succ _ _ ih => exact ⟨by rw [Array.size_push, ih.1], by rw [Array.size_push, ih.2]⟩
theorem ColorsTo.off {vote : Nat → Int × Int × Int} {place : Nat → Int} {bar : List (Addr × Obj)} {i : Nat} {ds : List (Addr × Obj)} {vi pi : Array Value} (h : ColorsTo vote place bar i ds vi pi) : ∀ p ∈ ds, ∀ q ∈ bar, q.1 ≠ p.1 := by
  induction h with
  | zero => exact fun _ hp => nomatch hp
  | succ _ ho ih => exact List.forall_mem_cons.mpr ⟨ho, ih⟩
/-- what a colour's levels must show -/
structure LevelsOk (rs : List Value) (vote : Nat → Int × Int × Int) (place : Nat → Int) (i : Nat) : Prop where
  out : ∃ ka kb kc t0 t1 t2, (slicePick rs.toArray (some ((i : Int) * 3)) (some ((i : Int) * 3 + 3)) none).toList = [.str (Str.ofString (toString ka)) t0, .str (Str.ofString (toString kb)) t1, .str (Str.ofString (toString kc)) t2] ∧
    (0 ≤ ka ∧ ka ≤ 1024) ∧ (0 ≤ kb ∧ kb ≤ 1024) ∧ (0 ≤ kc ∧ kc ≤ 1024) ∧ ColorOk (FL ka) (FL kb) (FL kc) (place i) ∧ vote i = (voteI (FL ka) (FL kb), voteI (FL kb) (FL kc), voteI (FL kc) (FL ka))
theorem colors_turn {Dr Vl Pl I l : Addr} {rs : List Value} {vi pi : Array Value} {nv np i : Nat} {tk : Tok} {o4 oI : Obj} {M : Str → Option Value} {own ds : List (Addr × Obj)} {vote : Nat → Int × Int × Int} {place : Nat → Int}
  (B : Below A₀ base outer h₀) (F : Fr h₀ L s.heap (fun z => if z = Str.ofString "k" then some (.int ((i : Int) * 3) tk) else M z)) (X : (hd.heap_1 w.params).In h₀)
  (N : News h₀ L s.heap (own ++ (ds ++ (Vl, W.listOf vi nv) :: (Pl, W.listOf pi np) :: (L + 1 + 1 + 1 + 1, o4) :: news))) (T : Top p loose mean mg mb h₀)
  (hM1 : M (Str.ofString "places") = some (.ref Pl)) (hM2 : M (Str.ofString "read") = some (.ref Dr)) (hDr : (Dr, LCg.lst rs) ∈ news) (hsz : rs.toArray.size ≤ sizeLine)
  (d4 : o4.data = Data.cell (some (.ref Vl))) (lv : LevelsOk rs vote place i) (hi : i < 3) (ct : ColorsTo vote place ((Vl, W.listOf vi nv) :: (Pl, W.listOf pi np) :: (L + 1 + 1 + 1 + 1, o4) :: news) i ds vi pi)
  (hIo : (I, oI) ∈ own) (hown : ∀ p ∈ own, p.1 = I ∨ p.1 = l) (hIn : ∀ p ∈ ds ++ (Vl, W.listOf vi nv) :: (Pl, W.listOf pi np) :: (L + 1 + 1 + 1 + 1, o4) :: news, p.1 ≠ I) (hlV : Vl ≠ l) (hlP : Pl ≠ l)
  (n3 : @Ne Nat Vl Pl) (n4 : @Ne Nat (L + 1 + 1 + 1 + 1) Vl) (n5 : @Ne Nat (L + 1 + 1 + 1 + 1) Pl) (n6 : ∀ p ∈ news, p.1 ≠ Vl) (n7 : ∀ p ∈ news, p.1 ≠ Pl)
  (hd' : dp + 10 < recursionLimit) (hu : un + 100 < cLine)
  (hE : PassesOwn (model prog w) (lawA dp un gd L a ccd outer) (lawE L a ccd) E)
  (hR : ∀ D' t0 t1 t2 tp M' h' tk', Fr h₀ L h' M' → M' (Str.ofString "places") = some (.ref Pl) → M' (Str.ofString "read") = some (.ref Dr) → (∀ p ∈ (Vl, W.listOf vi nv) :: (Pl, W.listOf pi np) :: (L + 1 + 1 + 1 + 1, o4) :: news, p.1 ≠ D') → D' ≠ I →
    News h₀ L h' (own ++ (((D', LCg.lst [.int (vote i).1 t0, .int (vote i).2.1 t1, .int (vote i).2.2 t2]) :: ds) ++ (Vl, W.listOf (vi.push (.ref D')) (nv + 1)) :: (Pl, W.listOf (pi.push (.int (place i) tp)) (np + 1)) :: (L + 1 + 1 + 1 + 1, o4) :: news)) → R .next {s with heap := h', toks := tk'}) :
  wpAny (model prog w) (lawA dp un gd L a ccd outer) (execs (forBody ((fnBody lawDef).getD 10 default)) (lawE L a ccd)) R E s := by
  obtain ⟨ka, kb, kc, t0, t1, t2, hsl, ba, bb, bc, cok, hvote⟩ := lv.out
  have F1 := fr_k2 F hM1 hM2
  have e0 : forBody ((fnBody lawDef).getD 10 default) = (forBody ((fnBody lawDef).getD 10 default)).getD 0 default :: (forBody ((fnBody lawDef).getD 10 default)).drop 1 := rfl
  rw [e0]
  refine color_a (Dr := Dr) (Pl := Pl) (rs := rs) (news := own ++ (ds ++ (Vl, W.listOf vi nv) :: (Pl, W.listOf pi np) :: (L + 1 + 1 + 1 + 1, o4) :: news)) (M := M) (kk := (i : Int) * 3) (tk := tk) B ?_ X (fun p hp => ?_) T hsl hsz ba.1 ba.2 bb.1 bb.2 bc.1 bc.2 hd' hu hE fun u1 u2 u3 h2 tk2 F2 N2 => ?_
  · exact fr_ext F1 fun _ => rfl
  · rcases List.mem_cons.mp hp with e | e
    · exact N p (List.mem_append_right _ (List.mem_append_right _ (.tail _ (.tail _ (.tail _ (e ▸ hDr))))))
    · exact N p e
  · have hoff : ∀ p ∈ own ++ (ds ++ news), p.1 ≠ Vl ∧ p.1 ≠ Pl := fun p hp => by
      rcases List.mem_append.mp hp with h | h
      · rcases hown p h with e | e
        · rw [e]
          exact ⟨fun z => hIn (Vl, W.listOf vi nv) (List.mem_append_right _ (.head _)) z.symm, fun z => hIn (Pl, W.listOf pi np) (List.mem_append_right _ (.tail _ (.head _))) z.symm⟩
        · rw [e]
          exact ⟨fun z => hlV z.symm, fun z => hlP z.symm⟩
      · rcases List.mem_append.mp h with h | h
        · have := ct.off p h
          exact ⟨fun z => this _ (.head _) z.symm, fun z => this _ (.tail _ (.head _)) z.symm⟩
        · exact ⟨n6 p h, n7 p h⟩
    refine color_b (s := { s with heap := h2, toks := tk2 }) (Vl := Vl) (Pl := Pl) (vi := vi) (pi := pi) (nv := nv) (np := np) (news := own ++ (ds ++ news)) (o4 := o4) (u1 := u1) (u2 := u2) (u3 := u3) (M := fun z => if z = Str.ofString "k" then some (Value.int ((i : Int) * 3) tk) else if z = Str.ofString "places" then some (.ref Pl) else if z = Str.ofString "read" then some (.ref Dr) else M z)
      B ?_ X (fun p hp => N2 p ?_) T d4 cok (by have := ct.sizes.1; omega) (by have := ct.sizes.2; omega) n3 n4 n5 (fun p hp => (hoff p hp).1) (fun p hp => (hoff p hp).2) hd' hu hE fun D' t0' t1' t2' tp' M' h3 tk3 hne F3 e1 e2 N3 => ?_
    · exact fr_swap F2
    · refine List.mem_cons_of_mem _ ?_
      simp only [List.mem_cons, List.mem_append] at hp ⊢
      rcases hp with e | e | e | e | e | e
      · exact .inr (.inr (.inl e))
      · exact .inr (.inr (.inr (.inl e)))
      · exact .inr (.inr (.inr (.inr (.inl e))))
      · exact .inl e
      · exact .inr (.inl e)
      · exact .inr (.inr (.inr (.inr (.inr e))))
    · have hD := off1_all hne.2.2.2
      have hv : (vote i).1 = voteI (FL ka) (FL kb) ∧ (vote i).2.1 = voteI (FL kb) (FL kc) ∧ (vote i).2.2 = voteI (FL kc) (FL ka) := by rw [hvote]; exact ⟨rfl, rfl, rfl⟩
      refine hR D' t0' t1' t2' tp' M' h3 tk3 F3 e1 (e2.trans rfl) ?_ ?_ (fun p hp => N3 p ?_)
      · exact List.forall_mem_cons.mpr ⟨hne.1, List.forall_mem_cons.mpr ⟨hne.2.1, List.forall_mem_cons.mpr ⟨hne.2.2.1, fun p hp => hD p (List.mem_append_right _ (List.mem_append_right _ hp))⟩⟩⟩
      · exact fun z => hD _ (List.mem_append_left _ hIo) z.symm
      · rw [hv.1, hv.2.1, hv.2.2] at hp
        simp only [List.mem_cons, List.mem_append] at hp ⊢
        rcases hp with e | (e | e) | e | e | e | e <;> simp [e]
end

end
section
theorem fillN12 : PySem.Challenge.rw_pe0144_01 = PySem.Challenge.rw_pe0144_01 ∧ hd.heap_1 = hd.heap_1 := by
  w_top off
  w_top off
  k_fill
  exact ⟨rfl, rfl⟩
section
variable {prog : Program} {w : World} {p : Program} {loose : List Str} {mean : ExcName → Option Value} {mg mb : Str → Option Value}
  {dp un : Nat} {gd : Option (List Code)} {a : Addr} {ccd : Value} {outer : List Env} {A₀ : Around} {base h₀ : Heap} {L : Addr} {m : Str → Option Value} {s : Shared} {E : Value → Shared → Prop} {news : List (Addr × Obj)} {tail : List Stmt} {Q : Flow → Shared → Prop}
theorem lts_ne {a b c d : Addr} {r : Prop} (h : @LT.lt Nat _ a b ∧ @LT.lt Nat _ c b ∧ @LT.lt Nat _ d b ∧ r) : a ≠ b ∧ c ≠ b := ⟨Nat.ne_of_lt h.1, Nat.ne_of_lt h.2.1⟩
theorem ColorsTo.weak {vote : Nat → Int × Int × Int} {place : Nat → Int} {bar bar' : List (Addr × Obj)} {i : Nat} {ds : List (Addr × Obj)} {vi pi : Array Value} (hb : ∀ p ∈ bar', ∃ q ∈ bar, q.1 = p.1) (h : ColorsTo vote place bar i ds vi pi) : ColorsTo vote place bar' i ds vi pi := by
  induction h with
  | zero => exact .zero
  | succ _ ho ih =>
    refine .succ ih fun p hp => ?_
    obtain ⟨q, hq, e⟩ := hb p hp
    rw [← e]
    exact ho q hq
theorem colors_loop {Dr Vl Pl l : Addr} {rs : List Value} {o4 : Obj} {M : Str → Option Value} {vote : Nat → Int × Int × Int} {place : Nat → Int} {ta tb tc : Tok} {k : Nat}
  (B : Below A₀ base outer h₀) (F : Fr h₀ L s.heap M) (X : (hd.heap_1 w.params).In h₀)
  (N : News h₀ L s.heap ((l, W.listOf #[.int 0 ta, .int 3 tb, .int 6 tc] k) :: (Vl, W.listOf #[] 0) :: (Pl, W.listOf #[] 0) :: (L + 1 + 1 + 1 + 1, o4) :: news)) (T : Top p loose mean mg mb h₀)
  (l1 : Vl ≠ l ∧ Pl ≠ l)
  (hM1 : M (Str.ofString "places") = some (.ref Pl)) (hM2 : M (Str.ofString "read") = some (.ref Dr)) (hDr : (Dr, LCg.lst rs) ∈ news) (hsz : rs.toArray.size ≤ sizeLine)
  (d4 : o4.data = Data.cell (some (.ref Vl))) (lv : ∀ i, i < 3 → LevelsOk rs vote place i)
  (n3 : @Ne Nat Vl Pl) (n4 : @Ne Nat (L + 1 + 1 + 1 + 1) Vl) (n5 : @Ne Nat (L + 1 + 1 + 1 + 1) Pl) (n6 : ∀ p ∈ news, p.1 ≠ Vl) (n7 : ∀ p ∈ news, p.1 ≠ Pl)
  (hd' : dp + 10 < recursionLimit) (hu : un + 100 < cLine)
  (hE : PassesOwn (model prog w) (lawA dp un gd L a ccd outer) (lawE L a ccd) E)
  (done : ∀ ds vi pi nv np M' h' tk', Fr h₀ L h' M' → M' (Str.ofString "places") = some (.ref Pl) → (∀ p ∈ ds, ∀ q ∈ (L + 1 + 1 + 1 + 1, o4) :: news, q.1 ≠ p.1) → ColorsTo vote place [] 3 ds vi pi →
    News h₀ L h' (ds ++ (Vl, W.listOf vi nv) :: (Pl, W.listOf pi np) :: (L + 1 + 1 + 1 + 1, o4) :: news) → Q .next {s with heap := h', toks := tk'}) :
  wpAny (model prog w) (lawA dp un gd L a ccd outer) (pyIter (.ref l)) (fun it s₂ => LoopAtV prog w (lawA dp un gd L a ccd outer) h₀ (lawE L a ccd) (Str.ofString "k") (forBody ((fnBody lawDef).getD 10 default)) Q E it s₂) E s := by
  refine list_grow (vs := [.int 0 ta, .int 3 tb, .int 6 tc]) (fun i m nx => ∃ ds vi pi nv np, nx = ds ++ (Vl, W.listOf vi nv) :: (Pl, W.listOf pi np) :: (L + 1 + 1 + 1 + 1, o4) :: news ∧ m (Str.ofString "places") = some (.ref Pl) ∧ m (Str.ofString "read") = some (.ref Dr) ∧ ColorsTo vote place ((Vl, W.listOf #[] 0) :: (Pl, W.listOf #[] 0) :: (L + 1 + 1 + 1 + 1, o4) :: news) i ds vi pi)
    rfl F N ⟨[], #[], #[], 0, 0, rfl, hM1, hM2, .zero⟩ ?_ ?_
  · rintro i v m₁ nx h tk own I oI hv hIo hown hIn ⟨ds, vi, pi, nv, np, rfl, e1, e2, ct⟩ F' N'
    have hi : i < 3 := by
      rcases Nat.lt_or_ge i 3 with g | g
      · exact g
      · rw [List.getElem?_eq_none (by simpa using g)] at hv; cases hv
    have hv' : ∃ t, v = .int ((i : Int) * 3) t := by
      have h3 : i = 0 ∨ i = 1 ∨ i = 2 := by omega
      rcases h3 with rfl | rfl | rfl <;> exact ⟨_, (Option.some.inj hv).symm⟩
    obtain ⟨t, rfl⟩ := hv'
    have ct' := ct.weak (bar' := (Vl, W.listOf vi nv) :: (Pl, W.listOf pi np) :: (L + 1 + 1 + 1 + 1, o4) :: news) (fun p hp => by
      rcases List.mem_cons.mp hp with rfl | hp
      · exact ⟨_, .head _, rfl⟩
      rcases List.mem_cons.mp hp with rfl | hp
      · exact ⟨_, .tail _ (.head _), rfl⟩
      · exact ⟨p, .tail _ (.tail _ hp), rfl⟩)
    refine colors_turn (s := { s with heap := h, toks := tk }) (l := l) (I := I) (oI := oI) (own := own) (ds := ds) (vote := vote) (place := place) B F' X N' T e1 e2 hDr hsz d4 (lv i hi) hi ct' hIo hown hIn l1.1 l1.2 n3 n4 n5 n6 n7 hd' hu hE fun D' t0 t1 t2 tp M' h2 tk2 F2 q1 q2 hne hDI N2 => ?_
    refine ⟨h2, tk2, M', _, rfl, F2, N2, ?_, (D', LCg.lst [.int (vote i).1 t0, .int (vote i).2.1 t1, .int (vote i).2.2 t2]) :: ds, vi.push (.ref D'), pi.push (.int (place i) tp), nv + 1, np + 1, rfl, q1, q2, .succ ct fun p hp => ?_⟩
    · intro p hp
      rcases List.mem_append.mp hp with hp | hp
      · rcases List.mem_cons.mp hp with rfl | hp
        · exact hDI
        · exact hIn p (List.mem_append_left _ hp)
      · rcases List.mem_cons.mp hp with rfl | hp
        · exact hIn (Vl, W.listOf vi nv) (List.mem_append_right _ (.head _))
        rcases List.mem_cons.mp hp with rfl | hp
        · exact hIn (Pl, W.listOf pi np) (List.mem_append_right _ (.tail _ (.head _)))
        · exact hIn p (List.mem_append_right _ (.tail _ (.tail _ hp)))
    · rcases List.mem_cons.mp hp with rfl | hp
      · exact hne (Vl, W.listOf vi nv) (.head _)
      rcases List.mem_cons.mp hp with rfl | hp
      · exact hne (Pl, W.listOf pi np) (.tail _ (.head _))
      · exact hne p (.tail _ (.tail _ hp))
  · rintro m₁ nx h tk ⟨ds, vi, pi, nv, np, rfl, e1, e2, ct⟩ F' N'
    exact done ds vi pi nv np m₁ h tk F' e1 (fun p hp q hq => ct.off p hp q (.tail _ (.tail _ hq))) (ct.weak fun _ hp => nomatch hp) N'
theorem law_colors {Dr Vl Pl : Addr} {rs : List Value} {o4 : Obj} {M : Str → Option Value} {vote : Nat → Int × Int × Int} {place : Nat → Int}
  (B : Below A₀ base outer h₀) (F : Fr h₀ L s.heap M) (X : (hd.heap_1 w.params).In h₀)
  (N : News h₀ L s.heap ((Vl, W.listOf #[] 0) :: (Pl, W.listOf #[] 0) :: (L + 1 + 1 + 1 + 1, o4) :: news)) (T : Top p loose mean mg mb h₀)
  (hM1 : M (Str.ofString "places") = some (.ref Pl)) (hM2 : M (Str.ofString "read") = some (.ref Dr)) (hDr : (Dr, LCg.lst rs) ∈ news) (hsz : rs.toArray.size ≤ sizeLine)
  (d4 : o4.data = Data.cell (some (.ref Vl))) (lv : ∀ i, i < 3 → LevelsOk rs vote place i)
  (n3 : @Ne Nat Vl Pl) (n4 : @Ne Nat (L + 1 + 1 + 1 + 1) Vl) (n5 : @Ne Nat (L + 1 + 1 + 1 + 1) Pl) (n6 : ∀ p ∈ news, p.1 ≠ Vl) (n7 : ∀ p ∈ news, p.1 ≠ Pl)
  (hd' : dp + 10 < recursionLimit) (hu : un + 100 < cLine)
  (hE : PassesOwn (model prog w) (lawA dp un gd L a ccd outer) (lawE L a ccd) E)
  (hnext : ∀ ds vi pi nv np M' h' tk', Fr h₀ L h' M' → M' (Str.ofString "places") = some (.ref Pl) → (∀ p ∈ ds, ∀ q ∈ (L + 1 + 1 + 1 + 1, o4) :: news, q.1 ≠ p.1) → ColorsTo vote place [] 3 ds vi pi →
    News h₀ L h' (ds ++ (Vl, W.listOf vi nv) :: (Pl, W.listOf pi np) :: (L + 1 + 1 + 1 + 1, o4) :: news) → wpAny (model prog w) (lawA dp un gd L a ccd outer) (execs tail (lawE L a ccd)) Q E {s with heap := h', toks := tk'}) :
  wpAny (model prog w) (lawA dp un gd L a ccd outer) (execs ((fnBody lawDef).getD 10 default :: tail) (lawE L a ccd)) Q E s := by
  dsimp only [lawDef, PySem.Challenge.pw_pe0144_01, fnBody, fnScope, forBody, List.getD, List.getD_eq_getElem?_getD, List.getElem?_cons_succ, List.getElem?_cons_zero, Option.getD] at hE hnext ⊢
  repeat' (first | (k_unfold; (try dsimp only)) | (k_end; wrow_close) | (with_reducible ((with_reducible show wpAny _ _ (pyIter (Value.ref _)) _ _ _); (refine halt ?_))) | (with_reducible ((with_reducible show wpAny _ _ (exec (PySem.Stmt.For (PySem.Expr.Name _ _) (PySem.Expr.List _ _) _ _ _) _) _ _ _); (k_here; (rename Fr _ _ _ _ => lFzq'); (with_unfolding_all refine' For_invVF lFzq' ?k1zq38 ?k2zq38 ?_ ?k3zq38 ?k4zq38; (case k1zq38 => exact rfl); (case k2zq38 => exact rfl); (case k3zq38 => (intro _; rfl)); (case k4zq38 => assumption); k_whole)))) | walk1 | (dsimp only; walk1) | (leave1; walk_say "STEP leave1"; try dsimp only) | fail "no step")
  unfold Halt
  with_unfolding_all refine' colors_loop B ?F X ?N T ?l hM1 hM2 hDr hsz d4 lv n3 n4 n5 n6 n7 hd' hu hE ?done
  case N => assumption
  case F => assumption
  case l => exact lts_ne (by assumption)
  case done =>
    intro ds vi pi nv np M' h' tk' F' e1 ho ct N'
    exact hnext ds vi pi nv np M' h' tk' F' e1 ho ct N'
end

end
section
theorem fillN13 : PySem.Challenge.rw_pe0144_01 = PySem.Challenge.rw_pe0144_01 ∧ hd.heap_1 = hd.heap_1 := by
  w_top off
  w_top off
  k_fill
  exact ⟨rfl, rfl⟩
section
variable {prog : Program} {w : World} {p : Program} {loose : List Str} {mean : ExcName → Option Value} {mg mb : Str → Option Value}
  {dp un : Nat} {gd : Option (List Code)} {a : Addr} {ccd : Value} {outer : List Env} {A₀ : Around} {base h₀ : Heap} {L : Addr} {m : Str → Option Value} {s : Shared} {E : Value → Shared → Prop} {tail : List Stmt} {Q : Flow → Shared → Prop} {rest : List (Addr × Obj)}
  {x dx f D f1 c1 ca ct la pb : Addr} {os : Array (Option Value)} {fd : FuncData} {oc oA oT : Obj} {q text : Str} {doc pm ctv : Value} {e1 e2 e3 e4 er : Int} {k1 k2 k3 k4 kr tw : Tok}
  {pos : Int} {tp : Tok} {ln : Int} {tl : Tok} {items : Array Value} {n : Nat}
theorem push_turn {Dv : Addr} {v0 v1 v2 : Int} {t0 t1 t2 : Tok} {o3 : Obj} {M : Str → Option Value} {R : Flow → Shared → Prop}
  (B : Below A₀ base outer h₀) (F : Fr h₀ L s.heap (fun z => if z = Str.ofString "vote" then some (.ref Dv) else M z)) (X : (hd.heap_1 w.params).In h₀)
  (N : News h₀ L s.heap (LX x dx f D f1 c1 ca ct la pb os fd oc oA oT q doc pm ctv e1 e2 e3 e4 er k1 k2 k3 k4 kr tw pos tp ln tl items n ((L + 1 + 1 + 1, o3) :: rest)))
  (T : Top p loose mean mg mb h₀) (ok : LexOk x dx f D f1 c1 ca ct la pb oc oA oT q text) (d3 : o3.data = Data.cell (some (.ref x)))
  (hm : (Dv, LCg.lst [.int v0 t0, .int v1 t1, .int v2 t2]) ∈ LX x dx f D f1 c1 ca ct la pb os fd oc oA oT q doc pm ctv e1 e2 e3 e4 er k1 k2 k3 k4 kr tw pos tp ln tl items n ((L + 1 + 1 + 1, o3) :: rest))
  (b0 : 0 ≤ v0 ∧ v0 ≤ 2) (b1 : 0 ≤ v1 ∧ v1 ≤ 2) (b2 : 0 ≤ v2 ∧ v2 ≤ 2) (hi : items.size ≤ 10)
  (hd' : dp + 10 < recursionLimit) (hu : un + 60 < cLine) (n5 : ∀ p ∈ ((L + 1 + 1 + 1, o3) :: rest), p.1 ≠ la) (n6 : ∀ p ∈ ((L + 1 + 1 + 1, o3) :: rest), p.1 ≠ dx) (n7 : ∀ p ∈ ((L + 1 + 1 + 1, o3) :: rest), p.1 ≠ pb)
  (hR : ∀ t h' tk', Fr h₀ L h' (fun z => if z = Str.ofString "vote" then some (.ref Dv) else M z) → News h₀ L h' (LX x dx f D f1 c1 ca ct la pb os fd oc oA oT q doc pm ctv e1 e2 e3 e4 er k1 k2 k3 k4 kr tw pos tp ln tl (items.push (.str (wordI v0 v1 v2) t)) (n + 1) ((L + 1 + 1 + 1, o3) :: rest)) → R .next {s with heap := h', toks := tk'}) :
  wpAny (model prog w) (lawA dp un gd L a ccd outer) (execs (forBody ((fnBody lawDef).getD 11 default)) (lawE L a ccd)) R E s := by
  have hx := LexOk.o ok
  dsimp only [lawDef, PySem.Challenge.pw_pe0144_01, fnBody, fnScope, forBody, List.getD, List.getD_eq_getElem?_getD, List.getElem?_cons_succ, List.getElem?_cons_zero, Option.getD]
  dsimp only [LX] at N hm
  repeat' (first | (k_unfold; (try dsimp only)) | (k_end; wrow_close) | (with_reducible ((with_reducible show wpAny _ _ (pyIter (Value.ref _)) _ _ _); (refine halt ?_))) | (with_reducible ((with_reducible show wpAny _ _ (exec (PySem.Stmt.For (PySem.Expr.Name _ _) (PySem.Expr.Name _ _) _ _ _) _) _ _ _); (k_here; (rename Fr _ _ _ _ => lFzq'); (with_unfolding_all refine' For_invVF lFzq' ?k1zq42 ?k2zq42 ?_ ?k3zq42 ?k4zq42; (case k1zq42 => exact rfl); (case k2zq42 => exact rfl); (case k3zq42 => (intro _; rfl)); (case k4zq42 => assumption); k_whole)))) | (with_reducible ((with_reducible show wpAny _ _ (call (Value.ref 63) _) _ _ _); refine halt ?_)) | (with_reducible (k_here; (with_reducible show wpAny _ _ (call (Value.ref 110) [Value.ref _]) _ _ _); k_dflt (refine' word_spec ?k1zq40 ?k2zq40 ?k3zq40 ?k4zq40 ?k5zq40 ?k6zq40 ?hmzq40 ?b0zq40 ?b1zq40 ?b2zq40 ?k7zq40 ?k8zq40 ?_; (case k1zq40 => k_asm); (case k2zq40 => k_asm); (case k3zq40 => k_asm); (case k4zq40 => k_asm); (case k5zq40 => k_asm); (case k6zq40 => exact rfl); (case hmzq40 => assumption); (case b0zq40 => assumption); (case b1zq40 => assumption); (case b2zq40 => assumption); (case k7zq40 => ktr_room); (case k8zq40 => ktr_units); k_whole; intro tzq' hzq' tkzq' Fzq' Nzq'; (try dsimp only); (try k_fold)))) | walk1 | (dsimp only; walk1) | (leave1; walk_say "STEP leave1"; try dsimp only) | fail "no step")
  unfold Halt
  rename Fr _ _ _ _ => F9
  rename News _ _ _ _ => N9
  refine push_spec (items := items) (n := n) B F9 X N9 T rfl ok (by omega) (by omega) hi n5 n6 n7 fun h' tk' F' N' => ?_
  repeat' (first | (k_unfold; (try dsimp only)) | (k_end; wrow_close) | (with_reducible ((with_reducible show wpAny _ _ (pyIter (Value.ref _)) _ _ _); (refine halt ?_))) | (with_reducible ((with_reducible show wpAny _ _ (exec (PySem.Stmt.For (PySem.Expr.Name _ _) (PySem.Expr.Name _ _) _ _ _) _) _ _ _); (k_here; (rename Fr _ _ _ _ => lFzq'); (with_unfolding_all refine' For_invVF lFzq' ?k1zq42 ?k2zq42 ?_ ?k3zq42 ?k4zq42; (case k1zq42 => exact rfl); (case k2zq42 => exact rfl); (case k3zq42 => (intro _; rfl)); (case k4zq42 => assumption); k_whole)))) | (with_reducible ((with_reducible show wpAny _ _ (call (Value.ref 63) _) _ _ _); refine halt ?_)) | (with_reducible (k_here; (with_reducible show wpAny _ _ (call (Value.ref 110) [Value.ref _]) _ _ _); k_dflt (refine' word_spec ?k1zq40 ?k2zq40 ?k3zq40 ?k4zq40 ?k5zq40 ?k6zq40 ?hmzq40 ?b0zq40 ?b1zq40 ?b2zq40 ?k7zq40 ?k8zq40 ?_; (case k1zq40 => k_asm); (case k2zq40 => k_asm); (case k3zq40 => k_asm); (case k4zq40 => k_asm); (case k5zq40 => k_asm); (case k6zq40 => exact rfl); (case hmzq40 => assumption); (case b0zq40 => assumption); (case b1zq40 => assumption); (case b2zq40 => assumption); (case k7zq40 => ktr_room); (case k8zq40 => ktr_units); k_whole; intro tzq' hzq' tkzq' Fzq' Nzq'; (try dsimp only); (try k_fold)))) | walk1 | (dsimp only; walk1) | (leave1; walk_say "STEP leave1"; try dsimp only) | fail "no step")
  exact hR _ _ _ F' N'
theorem own_in {own a r l l' : List (Addr × Obj)} {p1 p2 : Addr × Obj} (e : l = a ++ p1 :: p2 :: r) (e' : l' = a ++ p1 :: p2 :: (own ++ r)) : ∀ p ∈ l', p ∈ own ++ l := by
  subst e e'
  intro p hp
  simp only [List.mem_append, List.mem_cons] at hp ⊢
  rcases hp with h | h | h | h | h <;> simp [h]
theorem own_out {own a r l l' : List (Addr × Obj)} {p1 p2 : Addr × Obj} (e : l = a ++ p1 :: p2 :: r) (e' : l' = a ++ p1 :: p2 :: (own ++ r)) : ∀ p ∈ own ++ l, p ∈ l' := by
  subst e e'
  intro p hp
  simp only [List.mem_append, List.mem_cons] at hp ⊢
  rcases hp with h | h | h | h | h <;> simp [h]
theorem off_own {own r : List (Addr × Obj)} {p1 p2 : Addr × Obj} {I V z : Addr} (hown : ∀ p ∈ own, p.1 = I ∨ p.1 = V) (hI : z ≠ I) (hV : V ≠ z) (n : ∀ p ∈ p1 :: p2 :: r, p.1 ≠ z) : ∀ p ∈ p1 :: p2 :: (own ++ r), p.1 ≠ z := fun p hp => by
  rcases List.mem_cons.mp hp with h | hp
  · exact n p (h ▸ .head _)
  rcases List.mem_cons.mp hp with h | hp
  · exact n p (h ▸ .tail _ (.head _))
  rcases List.mem_append.mp hp with hp | hp
  · rcases hown p hp with h | h <;> rw [h]
    · exact fun e => hI e.symm
    · exact hV
  · exact n p (.tail _ (.tail _ hp))
/-- the words that wait so far -/
inductive Pushed (vote : Nat → Int × Int × Int) : Nat → Array Value → Prop
  | zero : Pushed vote 0 #[]
  | succ {i : Nat} {its : Array Value} {t : Tok} : Pushed vote i its → Pushed vote (i + 1) (its.push (.str (wordI (vote i).1 (vote i).2.1 (vote i).2.2) t))
theorem Pushed.size {vote : Nat → Int × Int × Int} {i : Nat} {its : Array Value} (h : Pushed vote i its) : its.size = i := by
  induction h with
  | zero => rfl
  | succ _ ih => rw [Array.size_push, ih]
noncomputable def VotesOk (vote : Nat → Int × Int × Int) : Prop := ∀ i, (0 ≤ (vote i).1 ∧ (vote i).1 ≤ 2) ∧ (0 ≤ (vote i).2.1 ∧ (vote i).2.1 ≤ 2) ∧ (0 ≤ (vote i).2.2 ∧ (vote i).2.2 ≤ 2)
/-- the votes' own lists stand in the ledger -/
noncomputable def VotesIn (vote : Nat → Int × Int × Int) (vs : List Value) (r : List (Addr × Obj)) : Prop :=
  vs.length = 3 ∧ ∀ i v, vs[i]? = some v → ∃ Dv t0 t1 t2, v = .ref Dv ∧ (Dv, LCg.lst [.int (vote i).1 t0, .int (vote i).2.1 t1, .int (vote i).2.2 t2]) ∈ r
theorem law_push {Vl Pl : Addr} {vs : List Value} {nv : Nat} {o3 o4 : Obj} {M : Str → Option Value} {vote : Nat → Int × Int × Int}
  (B : Below A₀ base outer h₀) (F : Fr h₀ L s.heap M) (X : (hd.heap_1 w.params).In h₀)
  (N : News h₀ L s.heap (LX x dx f D f1 c1 ca ct la pb os fd oc oA oT q doc pm ctv e1 e2 e3 e4 er k1 k2 k3 k4 kr tw pos tp ln tl #[] n ((L + 1 + 1 + 1, o3) :: (L + 1 + 1 + 1 + 1, o4) :: rest)))
  (T : Top p loose mean mg mb h₀) (ok : LexOk x dx f D f1 c1 ca ct la pb oc oA oT q text) (d3 : o3.data = Data.cell (some (.ref x))) (d4 : o4.data = Data.cell (some (.ref Vl)))
  (hV : (Vl, W.listOf vs.toArray nv) ∈ rest) (hD : VotesIn vote vs rest) (hb : VotesOk vote) (hM : M (Str.ofString "places") = some (.ref Pl))
  (hd' : dp + 10 < recursionLimit) (hu : un + 60 < cLine) (n5 : ∀ p ∈ ((L + 1 + 1 + 1, o3) :: (L + 1 + 1 + 1 + 1, o4) :: rest), p.1 ≠ la) (n6 : ∀ p ∈ ((L + 1 + 1 + 1, o3) :: (L + 1 + 1 + 1 + 1, o4) :: rest), p.1 ≠ dx) (n7 : ∀ p ∈ ((L + 1 + 1 + 1, o3) :: (L + 1 + 1 + 1 + 1, o4) :: rest), p.1 ≠ pb)
  (hE : PassesOwn (model prog w) (lawA dp un gd L a ccd outer) (lawE L a ccd) E)
  (hnext : ∀ its n' M' h' tk', Pushed vote 3 its → M' (Str.ofString "places") = some (.ref Pl) → Fr h₀ L h' M' → News h₀ L h' (LX x dx f D f1 c1 ca ct la pb os fd oc oA oT q doc pm ctv e1 e2 e3 e4 er k1 k2 k3 k4 kr tw pos tp ln tl its n' ((L + 1 + 1 + 1, o3) :: (L + 1 + 1 + 1 + 1, o4) :: rest)) → wpAny (model prog w) (lawA dp un gd L a ccd outer) (execs tail (lawE L a ccd)) Q E {s with heap := h', toks := tk'}) :
  wpAny (model prog w) (lawA dp un gd L a ccd outer) (execs ((fnBody lawDef).getD 11 default :: tail) (lawE L a ccd)) Q E s := by
  have loop : ∀ (s : Shared) (F : Fr h₀ L s.heap M) (N : News h₀ L s.heap (LX x dx f D f1 c1 ca ct la pb os fd oc oA oT q doc pm ctv e1 e2 e3 e4 er k1 k2 k3 k4 kr tw pos tp ln tl #[] n ((L + 1 + 1 + 1, o3) :: (L + 1 + 1 + 1 + 1, o4) :: rest))) (Q' : Flow → Shared → Prop)
      (done : ∀ its n' M' h' tk', Pushed vote 3 its → M' (Str.ofString "places") = some (.ref Pl) → Fr h₀ L h' M' → News h₀ L h' (LX x dx f D f1 c1 ca ct la pb os fd oc oA oT q doc pm ctv e1 e2 e3 e4 er k1 k2 k3 k4 kr tw pos tp ln tl its n' ((L + 1 + 1 + 1, o3) :: (L + 1 + 1 + 1 + 1, o4) :: rest)) → Q' .next {s with heap := h', toks := tk'}),
      wpAny (model prog w) (lawA dp un gd L a ccd outer) (pyIter (.ref Vl)) (fun it s₂ => LoopAtV prog w (lawA dp un gd L a ccd outer) h₀ (lawE L a ccd) (Str.ofString "vote") (forBody ((fnBody lawDef).getD 11 default)) Q' E it s₂) E s := by
    intro s F N Q' done
    refine list_grow (vs := vs) (k := nv) (fun i m nx => ∃ its n', nx = LX x dx f D f1 c1 ca ct la pb os fd oc oA oT q doc pm ctv e1 e2 e3 e4 er k1 k2 k3 k4 kr tw pos tp ln tl its n' ((L + 1 + 1 + 1, o3) :: (L + 1 + 1 + 1 + 1, o4) :: rest) ∧ Pushed vote i its ∧ m (Str.ofString "places") = some (.ref Pl))
      rfl F (fun p hp => by
        rcases List.mem_cons.mp hp with rfl | hp
        · exact N _ (by rw [LX_pre]; exact List.mem_append_right _ (.tail _ (.tail _ hV)))
        · exact N p hp) ⟨_, _, rfl, .zero, hM⟩ ?_ ?_
    · rintro i v m₁ nx h tk own I oI hv hIo hown hIn ⟨its, n', rfl, hp, hm⟩ F' N'
      have hi3 : i < 3 := by
        rcases Nat.lt_or_ge i vs.length with g | g
        · rw [← hD.1]; exact g
        · rw [List.getElem?_eq_none g] at hv; cases hv
      obtain ⟨Dv, t0, t1, t2, rfl, hmem⟩ := hD.2 i v hv
      obtain ⟨b0, b1, b2⟩ := hb i
      have hVn : ∀ z, (∀ p ∈ ((L + 1 + 1 + 1, o3) :: (L + 1 + 1 + 1 + 1, o4) :: rest), p.1 ≠ z) → Vl ≠ z := fun z g => g _ (.tail _ (.tail _ hV))
      refine push_turn (s := { s with heap := h, toks := tk }) (rest := (L + 1 + 1 + 1 + 1, o4) :: (own ++ rest)) B F' X (news_mono N' (own_in (LX_pre ..) (LX_pre ..))) T ok d3
        (by rw [LX_pre]; exact List.mem_append_right _ (.tail _ (.tail _ (List.mem_append_right _ hmem)))) b0 b1 b2 (by rw [hp.size]; omega) hd' hu
        (off_own hown (hIn _ (.head _)) (hVn _ n5) n5) (off_own hown (hIn _ (.tail _ (.head _))) (hVn _ n6) n6) (off_own hown (hIn _ (.tail _ (.tail _ (.head _)))) (hVn _ n7) n7) fun t h' tk' F2 N2 => ?_
      refine ⟨h', tk', _, _, rfl, F2, news_mono N2 (own_out (LX_pre ..) (LX_pre ..)), ?_, _, _, rfl, .succ hp, ?_⟩
      · intro p hp
        rw [LX_pre] at hp
        rcases List.mem_append.mp hp with hp | hp
        · rcases hp with _ | ⟨_, hp⟩
          · exact hIn _ (.head _)
          rcases hp with _ | ⟨_, hp⟩
          · exact hIn _ (.tail _ (.head _))
          rcases hp with _ | ⟨_, hp⟩
          · exact hIn (pb, W.listOf its n') (.tail _ (.tail _ (.head _)))
          · exact hIn p (.tail _ (.tail _ (.tail _ (List.mem_append_left _ hp))))
        · exact hIn p (by rw [LX_pre]; exact List.mem_append_right _ hp)
      · exact hm
    · rintro m₁ nx h tk ⟨its, n', rfl, hp, hm⟩ F' N'
      exact done its n' m₁ h tk (hD.1 ▸ hp) hm F' N'
  have hxo := LexOk.o ok
  dsimp only [lawDef, PySem.Challenge.pw_pe0144_01, fnBody, fnScope, forBody, List.getD, List.getD_eq_getElem?_getD, List.getElem?_cons_succ, List.getElem?_cons_zero, Option.getD] at hE hnext loop ⊢
  have N0 := N
  dsimp only [LX] at N
  repeat' (first | (k_unfold; (try dsimp only)) | (k_end; wrow_close) | (with_reducible ((with_reducible show wpAny _ _ (pyIter (Value.ref _)) _ _ _); (refine halt ?_))) | (with_reducible ((with_reducible show wpAny _ _ (exec (PySem.Stmt.For (PySem.Expr.Name _ _) (PySem.Expr.Name _ _) _ _ _) _) _ _ _); (k_here; (rename Fr _ _ _ _ => lFzq'); (with_unfolding_all refine' For_invVF lFzq' ?k1zq42 ?k2zq42 ?_ ?k3zq42 ?k4zq42; (case k1zq42 => exact rfl); (case k2zq42 => exact rfl); (case k3zq42 => (intro _; rfl)); (case k4zq42 => assumption); k_whole)))) | (with_reducible ((with_reducible show wpAny _ _ (call (Value.ref 63) _) _ _ _); refine halt ?_)) | (with_reducible (k_here; (with_reducible show wpAny _ _ (call (Value.ref 110) [Value.ref _]) _ _ _); k_dflt (refine' word_spec ?k1zq40 ?k2zq40 ?k3zq40 ?k4zq40 ?k5zq40 ?k6zq40 ?hmzq40 ?b0zq40 ?b1zq40 ?b2zq40 ?k7zq40 ?k8zq40 ?_; (case k1zq40 => k_asm); (case k2zq40 => k_asm); (case k3zq40 => k_asm); (case k4zq40 => k_asm); (case k5zq40 => k_asm); (case k6zq40 => exact rfl); (case hmzq40 => assumption); (case b0zq40 => assumption); (case b1zq40 => assumption); (case b2zq40 => assumption); (case k7zq40 => ktr_room); (case k8zq40 => ktr_units); k_whole; intro tzq' hzq' tkzq' Fzq' Nzq'; (try dsimp only); (try k_fold)))) | walk1 | (dsimp only; walk1) | (leave1; walk_say "STEP leave1"; try dsimp only) | fail "no step")
  unfold Halt
  rename Fr _ _ _ _ => F9
  with_unfolding_all refine' loop _ F9 ?nn9 _ ?dd9
  case nn9 => assumption
  case dd9 =>
    intro its n' M' h' tk' hp hm F' N'
    exact hnext its n' M' h' tk' hp hm F' N'
end

end
section
open PySem PySem.W PyProof.Rows PySem.Spec PySem.Calls
section
variable {prog : Program} {w : World} {A : Around} {E : Value → Shared → Prop} {s : Shared} {h₀ : Heap} {L : Addr} {m : Str → Option Value} {env : Env}
noncomputable def cellO (v : Option Value) : Obj := { cls := .type "cell", data := .cell v }
/-- what a comprehension over a range has still to do, its variable in a cell of its own, its turns leaving the ledger as it was -/
noncomputable def RestK (prog : Program) (w : World) (A : Around) (h₀ : Heap) (L : Addr) (m : Str → Option Value) (env : Env) (elt : PySem.Expr) (x : Str) (scope : Scope) (cl : List (Str × Addr)) (s : Shared) (nw : List (Addr × Obj)) (P : Nat → Value → Prop) (Fin : List Value → Prop) : Nat → Nat → List Value → Prop
  | 0, _, ys => Fin ys
  | k + 1, i, ys => ∀ v I oI C oC D K oK h tk (E' : Value → Shared → Prop), P i v → oK.data = .cell (some v) → Fr h₀ L h m → News h₀ L h ((I, oI) :: (C, oC) :: (D, LCg.lst ys) :: (K, oK) :: nw) →
      (∀ p ∈ nw, @LT.lt Nat _ p.1 I) → (@LT.lt Nat _ I D ∧ @LT.lt Nat _ D C ∧ @LT.lt Nat _ C K) →
      wpAny (model prog w) A (eval elt (compEnvC scope ((x, K) :: cl) C env)) (fun y s' => ∃ h' tk', s' = { s with heap := h', toks := tk' } ∧ Fr h₀ L h' m ∧ News h₀ L h' ((I, oI) :: (C, oC) :: (D, LCg.lst ys) :: (K, oK) :: nw) ∧ RestK prog w A h₀ L m env elt x scope cl s nw P Fin k (i + 1) (ys ++ [y])) E' { s with heap := h, toks := tk }
theorem comp_K {elt iter : PySem.Expr} {x : Str} {px : Pos} {scope : Scope} {cl : List (Str × Addr)} {pos : Pos} {Q : Value → Shared → Prop} {r : Addr} {a b : Int} {t u v : Tok} {n : Nat} {nw : List (Addr × Obj)}
    (hh : A.handled = none) (hkind : scope.kind = .function) (hlay : ∀ b, cellsFrom b scope.names cl = (x, b) :: cl) (hpush : ∀ h, pushCells h scope.names = h.push (cellO none)) (hx : ∀ c C, (compEnvC scope c C env).kindOf x = some .cell)
    (F : Fr h₀ L s.heap m) (N : News h₀ L s.heap nw) (hr : IsRange s.heap r a b 1 t u v) (hsm : Builtin.Range.small a b 1 = true) (hn : Builtin.Range.rangeSize a b 1 = ((n : Nat) : Int)) (hsz : n ≤ sizeLine)
    (R : ∀ g, RestK prog w A h₀ L m env elt x scope cl { s with heap := g } nw (fun i v => ∃ t, v = .int (a + (i : Int)) t) (fun ys => ∀ D h tk, Fr h₀ L h m → News h₀ L h ((D, LCg.lst ys) :: nw) → (∀ p ∈ nw, @LT.lt Nat _ p.1 D) → Q (.ref D) { s with heap := h, toks := tk }) n 0 []) :
    wpAny (model prog w) A (pyIter (.ref r)) (fun it s₂ => wpAny (model prog w) A (newList []) (fun acc s₃ => wpAny (model prog w) A (newFunctionEnv scope env.globals cl [] env.qual none .none (some env)) (fun cenv s₄ =>
      codeAny (model prog w) A (.compStart (.ListComp elt [⟨.Name x px, iter, [], 0⟩] scope pos) 0 it acc { cenv with scope := relabel scope env }) (compPost (model prog w) A E none Q acc cenv.locals) s₄) E s₃) E s₂) E s := by
  refine wpAny_pyIter_range hr hsm ?_
  refine wpAny_newObj_type ?_
  simp only [newFunctionEnv, Option.isSome_some, if_true]
  refine wpAny_bind (wpAny_alloc ?_)
  refine wpAny_bind (wpAny_layCells _ (fun name kind cells => by cases hkc : kind == NameKind.cell <;> simp [hkc]) _ _ _ _ ?_)
  rw [hlay, List.forIn_nil]
  refine wpAny_bind (wpAny_pure (wpAny_pure ?_))
  dsimp only
  rw [hpush]
  generalize e1 : s.heap.push { cls := .type "range_iterator", data := .fields #[rawInt a, rawInt (Builtin.Range.rangeSize a b 1), rawInt 1] } = H1
  generalize e2 : H1.push { cls := .type "list", data := .seq ([] : List Value).toArray } = H2
  generalize e3 : H2.push { cls := .type "dict", data := .dict #[] } = H3
  generalize e4 : H3.push (cellO none) = H4
  have z1 : H1.objs.size = s.heap.objs.size + 1 := by rw [← e1, Heap.size_push]
  have z2 : H2.objs.size = H1.objs.size + 1 := by rw [← e2, Heap.size_push]
  have z3 : H3.objs.size = H2.objs.size + 1 := by rw [← e3, Heap.size_push]
  have u4 : ∀ b o, H3.get? b = some o → H4.get? b = some o := fun b o e => e4 ▸ Heap.get?_push_of_some _ e
  have u3 : ∀ b o, H2.get? b = some o → H4.get? b = some o := fun b o e => u4 b o (e3 ▸ Heap.get?_push_of_some _ e)
  have u2 : ∀ b o, H1.get? b = some o → H4.get? b = some o := fun b o e => u3 b o (e2 ▸ Heap.get?_push_of_some _ e)
  have u1 : ∀ b o, s.heap.get? b = some o → H4.get? b = some o := fun b o e => u2 b o (e1 ▸ Heap.get?_push_of_some _ e)
  have gI : IsRangeIter H4 s.heap.objs.size (a + ((0 : Nat) : Int) * 1) ((n : Int) - ((0 : Nat) : Int)) 1 := u2 _ _ (by rw [← e1, hn]; simpa using Heap.get?_push_size s.heap rfl)
  have gD : H4.get? H1.objs.size = some (LCg.lst []) := u3 _ _ (by rw [← e2]; exact Heap.get?_push_size _ rfl)
  have gC : ∃ o, H4.get? H2.objs.size = some o := ⟨_, u4 _ _ (by rw [← e3]; exact Heap.get?_push_size _ rfl)⟩
  have gK : H4.get? H3.objs.size = some (cellO none) := by rw [← e4]; exact Heap.get?_push_size _ rfl
  have gN : H4.Ns H2.objs.size (fun _ => none) := (by rw [← e3]; exact Heap.Ns.new H2 (.type "dict") : H3.Ns H2.objs.size (fun _ => none)).keeps u4
  have lo : ∀ p ∈ nw, @LT.lt Nat _ p.1 s.heap.objs.size := fun p hp => Heap.lt_size (N p hp).1
  have hL : @LT.lt Nat _ L s.heap.objs.size := F.ns.lt
  clear e1 e2 e3 e4 u2 u3 u4
  generalize hI : s.heap.objs.size = I at *
  generalize hD : H1.objs.size = D at *
  generalize hC : H2.objs.size = C at *
  generalize hK : H3.objs.size = K at *
  have fresh : ∀ d, @LE.le Nat _ I d → h₀.get? d = none := fun d hd => by
    cases e : h₀.get? d with
    | none => rfl
    | some o' =>
      have := Heap.lt_size (F.keep d o' e)
      rw [hI] at this
      exact absurd this (Nat.not_lt.mpr hd)
  have c1 : @LT.lt Nat _ I D := by omega
  have c2 : @LT.lt Nat _ D C := by omega
  have c3 : @LT.lt Nat _ C K := by omega
  have fD := fresh D (by omega)
  have fC := fresh C (by omega)
  have fK := fresh K (by omega)
  have fI := fresh I (by omega)
  clear hI hD hC hK z1 z2 z3
  have F4 := F.keeps u1
  have N4 := N.grown u1
  have W := LCg.range_walks (prog := prog) (w := w) (I := I) hh a n
  have loop : ∀ s₃ : Shared, s₃ = { s with heap := H4 } →
      codeAny (model prog w) A (.compLoop (.ListComp elt [⟨.Name x px, iter, [], 0⟩] scope pos) 0 (.ref I) (.ref D) (compEnvC scope ((x, K) :: cl) C env)) (compPost (model prog w) A E none Q (.ref D) C) s₃ := by
    rintro s₃ rfl
    refine codeAny_compLoop_tests
      (fun k s' => ∃ h' tk i ys ov oK, s' = { s with heap := h', toks := tk } ∧ i ≤ n ∧ k = n + 1 - i ∧ ys.length = i ∧ IsRangeIter h' I (a + (i : Nat) * 1) ((n : Int) - (i : Nat)) 1 ∧ Fr h₀ L h' m ∧ h'.Ns C (fun _ => none) ∧ oK.data = .cell ov ∧ News h₀ L h' ((D, LCg.lst ys) :: (K, oK) :: nw) ∧
        RestK prog w A h₀ L m env elt x scope cl { s with heap := H4 } nw (fun i v => ∃ t, v = .int (a + (i : Int)) t) (fun ys => ∀ D h tk, Fr h₀ L h m → News h₀ L h ((D, LCg.lst ys) :: nw) → (∀ p ∈ nw, @LT.lt Nat _ p.1 D) → Q (.ref D) { s with heap := h, toks := tk }) (n - i) i ys) ?_ (n + 1)
      ⟨H4, _, 0, [], none, cellO none, rfl, Nat.zero_le _, rfl, rfl, gI, F4, gN, rfl, fun p hp => ?_, R H4⟩
    · rintro k s' ⟨h', tk, i, ys, ov, oK, rfl, hi, rfl, hyl, hst', F', hn', hoK, N', R'⟩
      by_cases hlt : i < n
      · obtain ⟨j, hj⟩ : ∃ j, n - i = j + 1 := ⟨n - i - 1, by omega⟩
        rw [hj] at R'
        refine W.item i _ _ _ hlt hst' fun v h₂ tk₂ hPv hst₂ hk₂ => ?_
        have k2 : ∀ b o, @Ne Nat b I → h'.get? b = some o → h₂.get? b = some o := fun b o hb e => hk₂ b o (fun g => hb (List.mem_singleton.mp g)) e
        have N₂ : News h₀ L h₂ ((D, LCg.lst ys) :: (K, oK) :: nw) := LCg.news_but N' hk₂ fun p hp => by
          rcases List.mem_cons.mp hp with rfl | hp
          · exact Ne.symm (Nat.ne_of_lt c1)
          rcases List.mem_cons.mp hp with rfl | hp
          · exact Ne.symm (Nat.ne_of_lt (Nat.lt_trans c1 (Nat.lt_trans c2 c3)))
          · exact Nat.ne_of_lt (lo p hp)
        have F₂ : Fr h₀ L h₂ m := LCg.fr_but F' hk₂ (Nat.ne_of_lt hL) fI
        have zK := N₂ (K, oK) (.tail _ (.head _))
        refine wpAny_assign_Name (wpAny_storeName_cell (by simp [compEnvC, relabel, hkind]) (hx _ _) (by simp [compEnvC]) ⟨oK, zK.1, hoK⟩ (fun h₃ hc₃ hs₃ => ?_))
        refine wpAny_tests_nil ?_
        simp only [if_true]
        obtain ⟨oK', eK, dK⟩ := hc₃
        have k3 : ∀ b o, @Ne Nat b K → h₂.get? b = some o → h₃.get? b = some o := fun b o hb e => hs₃.extBut b o hb e
        have hst₃ : h₃.get? I = some _ := k3 I _ (by omega) hst₂
        obtain ⟨oC, heC, hoC⟩ := LCg.ns_obj ((hn'.at' fun o e => k2 _ o (by omega) e).at' fun o e => k3 C o (by omega) e)
        have F₃ : Fr h₀ L h₃ m := F₂.change hs₃ zK.2.1 zK.2.2
        have N₃ : News h₀ L h₃ ((I, _) :: (C, oC) :: (D, LCg.lst ys) :: (K, oK') :: nw) := fun p hp => by
          rcases List.mem_cons.mp hp with rfl | hp
          · exact ⟨hst₃, Ne.symm (Nat.ne_of_lt hL), fI⟩
          rcases List.mem_cons.mp hp with rfl | hp
          · exact ⟨heC, Ne.symm (Nat.ne_of_lt (by omega)), fC⟩
          rcases List.mem_cons.mp hp with rfl | hp
          · have z := N₂ (D, LCg.lst ys) (.head _)
            exact ⟨k3 D _ (by omega) z.1, z.2⟩
          rcases List.mem_cons.mp hp with rfl | hp
          · exact ⟨eK, zK.2⟩
          · have z := N₂ p (.tail _ (.tail _ hp))
            have := lo p hp
            exact ⟨k3 p.1 _ (by omega) z.1, z.2⟩
        refine wpAny_mono (R' v I _ C oC D K oK' h₃ _ _ hPv dK F₃ N₃ lo ⟨c1, c2, c3⟩) (fun y s₄ h₄ => ?_) fun _ _ e => e
        obtain ⟨h₄, tk₄, rfl, F₄, N₄, R₄⟩ := h₄
        have zI := (N₄ (I, _) (.head _)).1
        have zC := (N₄ (C, oC) (.tail _ (.head _))).1
        have zD := N₄ (D, LCg.lst ys) (.tail _ (.tail _ (.head _)))
        refine append_at (hsz := by show ys.toArray.size ≤ sizeLine; rw [List.size_toArray, hyl]; exact Nat.le_trans hi hsz) zD.1 fun h₅ hs₅ hD₅ => ?_
        have k5 : ∀ b o, @Ne Nat b D → h₄.get? b = some o → h₅.get? b = some o := fun b o hb e => hs₅.extBut b o hb e
        refine ⟨n + 1 - (i + 1), by omega, h₅, tk₄, i + 1, ys ++ [y], _, oK', rfl, hlt, rfl, by rw [List.length_append, List.length_singleton, hyl], k5 I _ (by omega) (zI.trans (hst₃.symm.trans ((k3 I _ (by omega) hst₂)))), F₄.change hs₅ zD.2.1 zD.2.2, ?_, dK, fun p hp => ?_, ?_⟩
        · exact (hoC.ns zC).sameBut hs₅ (Nat.ne_of_gt c2)
        · rcases List.mem_cons.mp hp with rfl | hp
          · exact ⟨hD₅.trans (congrArg some (LCg.lst_snoc ys y)), zD.2⟩
          have z := N₄ p (.tail _ (.tail _ (.tail _ hp)))
          refine ⟨k5 p.1 _ ?_ z.1, z.2⟩
          rcases List.mem_cons.mp hp with rfl | hp
          · show @Ne Nat K D
            omega
          · have := lo p hp
            omega
        · rw [show n - (i + 1) = j by omega]
          exact R₄
      · obtain rfl : i = n := Nat.le_antisymm hi (Nat.not_lt.mp hlt)
        rw [Nat.sub_self] at R'
        refine W.done _ _ _ hst' fun h₂ tk₂ hk₂ => ?_
        have N₂ : News h₀ L h₂ ((D, LCg.lst ys) :: (K, oK) :: nw) := LCg.news_but N' hk₂ fun p hp => by
          rcases List.mem_cons.mp hp with rfl | hp
          · exact Ne.symm (Nat.ne_of_lt c1)
          rcases List.mem_cons.mp hp with rfl | hp
          · exact Ne.symm (Nat.ne_of_lt (Nat.lt_trans c1 (Nat.lt_trans c2 c3)))
          · exact Nat.ne_of_lt (lo p hp)
        refine ⟨_, hn'.at' fun o e => hk₂ _ o (fun g => Nat.ne_of_gt (Nat.lt_trans c1 c2) (List.mem_singleton.mp g)) e, fun h'' hs'' => R' D h'' tk₂ ((LCg.fr_but F' hk₂ (Nat.ne_of_lt hL) fI).change hs'' (Ne.symm (Nat.ne_of_lt (by omega))) fC) (fun p hp => ?_) fun p hp => Nat.lt_trans (lo p hp) c1⟩
        rcases List.mem_cons.mp hp with rfl | hp
        · have z := N₂ (D, LCg.lst ys) (.head _)
          exact ⟨hs''.extBut _ _ (Nat.ne_of_lt c2) z.1, z.2⟩
        · have z := N₂ p (.tail _ (.tail _ hp))
          exact ⟨hs''.extBut _ _ (Nat.ne_of_lt (Nat.lt_trans (lo p hp) (Nat.lt_trans c1 c2))) z.1, z.2⟩
    · rcases List.mem_cons.mp hp with rfl | hp
      · exact ⟨gD, Ne.symm (Nat.ne_of_lt (by omega)), fD⟩
      rcases List.mem_cons.mp hp with rfl | hp
      · exact ⟨gK, Ne.symm (Nat.ne_of_lt (by omega)), fK⟩
      · exact N4 p hp
  exact codeAny_compStart_list (loop _ rfl) (W.self 0 _ _ _ gI (loop _ rfl))
end

end
section
theorem fillN15 : PySem.Challenge.rw_pe0144_01 = PySem.Challenge.rw_pe0144_01 ∧ hd.heap_1 = hd.heap_1 := by
  w_top off
  w_top off
  k_fill
  exact ⟨rfl, rfl⟩
/-- what is under a subscript; a call's first argument -/
noncomputable def subVal : PySem.Expr → PySem.Expr
  | .Subscript v _ _ => v
  | e => e
noncomputable def callArg : PySem.Expr → PySem.Expr
  | .Call _ (a :: _) _ _ => a
  | e => e
section
variable {prog : Program} {w : World} {p : Program} {loose : List Str} {mean : ExcName → Option Value} {mg mb : Str → Option Value}
  {dp un : Nat} {gd : Option (List Code)} {a : Addr} {ccd : Value} {outer : List Env} {A₀ : Around} {base h₀ : Heap} {L : Addr} {m : Str → Option Value} {s : Shared} {E : Value → Shared → Prop} {news : List (Addr × Obj)} {tail : List Stmt} {Q : Flow → Shared → Prop}
theorem item_at {prog : Program} {w : World} {A : Around} {E : Value → Shared → Prop} {s : Shared} {value slice : PySem.Expr} {l : Addr} {vi : Array Value} {v : Value} {u : Tok} {k : Nat} {Q : Value → Shared → Prop}
    (hl : s.heap.IsList l vi) (hk : (k : Int) < 2 ^ 63) (hv : vi[k]? = some v) (h : Q v s)
    (hs : subscripted slice false (.ref l) (.int (k : Int) u) = operate [.ref l, .int (k : Int) u] (getItem (.ref l) (.int (k : Int) u)) := by with_unfolding_all rfl) :
    wpAny (model prog w) A (subscriptTail value slice (.ref l) (.int (k : Int) u)) Q E s :=
  tail_any hl.typeIs slot_list_getitem.lookup (wpAny_getItem_list (k := (k : Int)) hl (by omega) hk (by rw [Int.toNat_natCast]; exact hv) h) hs
/-- the vote's part that its place in the turn names -/
noncomputable def part (v : Int × Int × Int) (i : Nat) : Int := if i = 0 then v.1 else if i = 1 then v.2.1 else v.2.2
theorem part_get {v : Int × Int × Int} {t0 t1 t2 : Tok} {i : Nat} (hi : i < 3) : ∃ t, [Value.int v.1 t0, .int v.2.1 t1, .int v.2.2 t2].toArray[i]? = some (.int (part v i) t) := by
  have h3 : i = 0 ∨ i = 1 ∨ i = 2 := by omega
  rcases h3 with rfl | rfl | rfl <;> exact ⟨_, rfl⟩
theorem maj_item {I C D K I' C' D' Dv : Addr} {oI oC oK oI' oC' : Obj} {ys ys' : List Value} {i : Nat} {t : Tok} {m₂ : Str → Option Value} {v : Int × Int × Int} {t0 t1 t2 : Tok} {R : Value → Shared → Prop} {E' : Value → Shared → Prop}
  (B : Below A₀ base outer h₀) (F : Fr h₀ L s.heap m) (X : (hd.heap_1 w.params).In h₀)
  (N : News h₀ L s.heap ((I', oI') :: (C', oC') :: (D', LCg.lst ys') :: (I, oI) :: (C, oC) :: (D, LCg.lst ys) :: (K, oK) :: news)) (T : Top p loose mean mg mb h₀)
  (dK : oK.data = .cell (some (.int (i : Int) t))) (hi : i < 3) (hC : LCg.NsObj oC' m₂) (hx : m₂ (Str.ofString "vote") = some (.ref Dv)) (hm : (Dv, LCg.lst [.int v.1 t0, .int v.2.1 t1, .int v.2.2 t2]) ∈ news)
  (hR : ∀ t h' tk', Fr h₀ L h' m → News h₀ L h' ((I', oI') :: (C', oC') :: (D', LCg.lst ys') :: (I, oI) :: (C, oC) :: (D, LCg.lst ys) :: (K, oK) :: news) → R (.int (part v i) t) {s with heap := h', toks := tk'}) :
  wpAny (model prog w) (lawA dp un gd L a ccd outer) (eval (lcElt (callArg (subVal (lcElt (asgExpr ((fnBody lawDef).getD 12 default)))))) (compEnvC (lcScope (callArg (subVal (lcElt (asgExpr ((fnBody lawDef).getD 12 default)))))) [(Str.ofString "k", K)] C'
    (compEnvC (lcScope (asgExpr ((fnBody lawDef).getD 12 default))) [(Str.ofString "k", K), (Str.ofString "votes", L + 1 + 1 + 1 + 1)] C (lawE L a ccd)))) R E' s := by
  dsimp only [lawDef, asgExpr, lcElt, lcScope, callArg, subVal, PySem.Challenge.pw_pe0144_01, fnBody, fnScope, List.getD, List.getD_eq_getElem?_getD, List.getElem?_cons_succ, List.getElem?_cons_zero, Option.getD]
  repeat' (first | (k_unfold; (try dsimp only)) | (k_end; wrow_close) | (with_reducible ((with_reducible show wpAny _ _ (subscriptTail (PySem.Expr.Name _ _) (PySem.Expr.Name _ _) _ _) _ _ _); (refine halt ?_))) | (with_reducible ((with_reducible show wpAny _ _ (eval (PySem.Expr.ListComp _ _ _ _) _) _ _ _); (refine halt ?_))) | (with_reducible ((with_reducible show wpAny _ _ (pyIter (Value.ref _)) _ _ _); (refine halt ?_))) | walk1 | (dsimp only; walk1) | (leave1; walk_say "STEP leave1"; try dsimp only) | fail "no step")
  unfold Halt
  rename Fr _ _ _ _ => F9
  rename News _ _ _ _ => N9
  obtain ⟨t', e'⟩ := part_get (v := v) (t0 := t0) (t1 := t1) (t2 := t2) hi
  have z := N9 _ (.tail _ (.tail _ (.tail _ (.tail _ (.tail _ (.tail _ (.tail _ hm)))))))
  exact item_at ⟨_, z.1, rfl, _, rfl⟩ (by omega) e' (hR _ _ _ F9 N9) (by with_unfolding_all rfl)
theorem ints_snoc : ∀ {vs : List Value} {ns : List Int} {k : Int} {t : Tok}, IntsAre vs ns → IntsAre (vs ++ [.int k t]) (ns ++ [k])
  | _, _, _, _, .nil => .cons _ _ .nil
  | _, _, _, _, .cons a b r => .cons a b (ints_snoc r)
theorem maj_rest {I C D K Vl : Addr} {oI oC oK : Obj} {ys vs : List Value} {i : Nat} {t : Tok} {vote : Nat → Int × Int × Int} {s : Shared} {Fin : List Value → List (Addr × Obj) → Prop}
  (B : Below A₀ base outer h₀) (X : (hd.heap_1 w.params).In h₀) (T : Top p loose mean mg mb h₀)
  (dK : oK.data = .cell (some (.int (i : Int) t))) (hi : i < 3) (hV : LCg.SrcAt h₀ Vl vs.toArray ((I, oI) :: (C, oC) :: (D, LCg.lst ys) :: (K, oK) :: news)) (hD : VotesIn vote vs news)
  (hfin : ∀ ys', IntsAre ys' [part (vote 0) i, part (vote 1) i, part (vote 2) i] → Fin ys' ((I, oI) :: (C, oC) :: (D, LCg.lst ys) :: (K, oK) :: news)) :
  ∀ (k j : Nat) (ys' : List Value), j + k = 3 → IntsAre ys' ((List.range j).map fun r => part (vote r) i) →
    LCg.CompRest prog w (lawA dp un gd L a ccd outer) h₀ L m (compEnvC (lcScope (asgExpr ((fnBody lawDef).getD 12 default))) [(Str.ofString "k", K), (Str.ofString "votes", L + 1 + 1 + 1 + 1)] C (lawE L a ccd)) (lcElt (callArg (subVal (lcElt (asgExpr ((fnBody lawDef).getD 12 default)))))) (Str.ofString "vote") (lcScope (callArg (subVal (lcElt (asgExpr ((fnBody lawDef).getD 12 default)))))) [(Str.ofString "k", K)] s (LCg.SrcAt h₀ Vl vs.toArray) (fun i v => vs.toArray[i]? = some v) Fin k j ys'
      ((I, oI) :: (C, oC) :: (D, LCg.lst ys) :: (K, oK) :: news)
  | 0, j, ys', hjk, hys => by
    have : j = 3 := by omega
    subst this
    exact hfin ys' hys
  | k + 1, j, ys', hjk, hys => by
    refine LCg.CompRest.succ fun v I' oI' C' oC' D' m₂ h tk E' hP hC hx F N off ne => ?_
    obtain ⟨Dv, t0, t1, t2, rfl, hm⟩ := hD.2 j v (by simpa using hP)
    refine maj_item (s := { s with heap := h, toks := tk }) B F X N T dK hi hC hx hm fun t' h' tk' F' N' => ?_
    refine LCg.CompEnd.intro F' N' _ (fun p hp => hp) off hV ?_
    refine maj_rest B X T dK hi hV hD hfin k (j + 1) (ys' ++ [.int (part (vote j) i) t']) (by omega) ?_
    rw [List.range_succ, List.map_append]
    exact ints_snoc hys
/-- the middle one of three -/
noncomputable def mid3 (a b c : Int) : Int := a + b + c - min a (min b c) - max a (max b c)
theorem perm_sum {a b : List Int} (h : a.Perm b) : a.sum = b.sum := by
  induction h with
  | nil => rfl
  | cons x _ ih => rw [List.sum_cons, List.sum_cons, ih]
  | swap x y l => simp only [List.sum_cons]; omega
  | trans _ _ h1 h2 => exact h1.trans h2
theorem mid_of {x y z a b c : Int} (hp : [x, y, z].Perm [a, b, c]) (ho : [x, y, z].Pairwise (· ≤ ·)) : y = mid3 a b c := by
  have hs := perm_sum hp
  simp only [List.sum_cons, List.sum_nil] at hs
  have p1 := List.pairwise_cons.mp ho
  have p2 := List.pairwise_cons.mp p1.2
  have lo : ∀ k ∈ [a, b, c], x ≤ k := fun k hk => by
    rcases List.mem_cons.mp (hp.mem_iff.mpr hk) with e | h
    · exact Int.le_of_eq e.symm
    · exact p1.1 k h
  have up : ∀ k ∈ [a, b, c], k ≤ z := fun k hk => by
    rcases List.mem_cons.mp (hp.mem_iff.mpr hk) with e | h
    · rw [e]; exact p1.1 z (.tail _ (.head _))
    rcases List.mem_cons.mp h with e | h
    · rw [e]; exact p2.1 z (.head _)
    · exact Int.le_of_eq (List.mem_singleton.mp h)
  have hx : x ∈ [a, b, c] := hp.mem_iff.mp (.head _)
  have hz : z ∈ [a, b, c] := hp.mem_iff.mp (.tail _ (.tail _ (.head _)))
  have e1 : min a (min b c) = x := by
    refine Int.le_antisymm ?_ (Int.le_min.mpr ⟨lo a (.head _), Int.le_min.mpr ⟨lo b (.tail _ (.head _)), lo c (.tail _ (.tail _ (.head _)))⟩⟩)
    rcases List.mem_cons.mp hx with e | h
    · rw [e]; exact Int.min_le_left _ _
    rcases List.mem_cons.mp h with e | h
    · rw [e]; exact Int.le_trans (Int.min_le_right _ _) (Int.min_le_left _ _)
    · rw [List.mem_singleton.mp h]; exact Int.le_trans (Int.min_le_right _ _) (Int.min_le_right _ _)
  have e2 : max a (max b c) = z := by
    refine Int.le_antisymm (Int.max_le.mpr ⟨up a (.head _), Int.max_le.mpr ⟨up b (.tail _ (.head _)), up c (.tail _ (.tail _ (.head _)))⟩⟩) ?_
    rcases List.mem_cons.mp hz with e | h
    · rw [e]; exact Int.le_max_left _ _
    rcases List.mem_cons.mp h with e | h
    · rw [e]; exact Int.le_trans (Int.le_max_left _ _) (Int.le_max_right _ _)
    · rw [List.mem_singleton.mp h]; exact Int.le_trans (Int.le_max_right _ _) (Int.le_max_right _ _)
  unfold mid3
  rw [e1, e2]
  clear lo up hx hz e1 e2 p1 p2 ho hp
  omega
theorem mid_sorted {vs : List Value} {ns : List Int} {a b c : Int} (hi : IntsAre vs ns) (hl : ns.length = 3) (hp : ns.Perm [a, b, c]) (ho : ns.Pairwise (· ≤ ·)) : vs.toArray.size = 3 ∧ ∃ t, vs.toArray[1]? = some (.int (mid3 a b c) t) := by
  cases hi with
  | nil => cases hl
  | cons x t1 r =>
    cases r with
    | nil => cases hl
    | cons y t2 r =>
      cases r with
      | nil => cases hl
      | cons z t3 r =>
        cases r with
        | nil => exact ⟨rfl, t2, by rw [← mid_of hp ho]; rfl⟩
        | cons => simp at hl
theorem maj_turn {I C D K Vl : Addr} {oI oC oK o4 : Obj} {ys vs : List Value} {nv i : Nat} {t : Tok} {vote : Nat → Int × Int × Int} {R : Value → Shared → Prop} {E' : Value → Shared → Prop}
  (B : Below A₀ base outer h₀) (F : Fr h₀ L s.heap m) (X : (hd.heap_1 w.params).In h₀)
  (N : News h₀ L s.heap ((I, oI) :: (C, oC) :: (D, LCg.lst ys) :: (K, oK) :: news)) (T : Top p loose mean mg mb h₀)
  (dK : oK.data = .cell (some (.int (i : Int) t))) (hi : i < 3) (h4 : (L + 1 + 1 + 1 + 1, o4) ∈ news) (d4 : o4.data = Data.cell (some (.ref Vl))) (hV : (Vl, W.listOf vs.toArray nv) ∈ news) (hD : VotesIn vote vs news)
  (hd' : dp + 10 < recursionLimit) (hu : un + 60 < cLine)
  (hR : ∀ t h' tk', Fr h₀ L h' m → News h₀ L h' ((I, oI) :: (C, oC) :: (D, LCg.lst ys) :: (K, oK) :: news) → R (.int (mid3 (part (vote 0) i) (part (vote 1) i) (part (vote 2) i)) t) {s with heap := h', toks := tk'}) :
  wpAny (model prog w) (lawA dp un gd L a ccd outer) (eval (lcElt (asgExpr ((fnBody lawDef).getD 12 default))) (compEnvC (lcScope (asgExpr ((fnBody lawDef).getD 12 default))) [(Str.ofString "k", K), (Str.ofString "votes", L + 1 + 1 + 1 + 1)] C (lawE L a ccd))) R E' s := by
  dsimp only [lawDef, asgExpr, lcElt, lcScope, PySem.Challenge.pw_pe0144_01, fnBody, fnScope, List.getD, List.getD_eq_getElem?_getD, List.getElem?_cons_succ, List.getElem?_cons_zero, Option.getD]
  have hm4 : (L + 1 + 1 + 1 + 1, o4) ∈ (I, oI) :: (C, oC) :: (D, LCg.lst ys) :: (K, oK) :: news := .tail _ (.tail _ (.tail _ (.tail _ h4)))
  have hmV : (Vl, W.listOf vs.toArray nv) ∈ (I, oI) :: (C, oC) :: (D, LCg.lst ys) :: (K, oK) :: news := .tail _ (.tail _ (.tail _ (.tail _ hV)))
  have hsz : vs.toArray.size = 3 := by rw [List.size_toArray]; exact hD.1
  repeat' (first | (k_unfold; (try dsimp only)) | (k_end; wrow_close) | (with_reducible ((with_reducible show wpAny _ _ (subscriptTail (PySem.Expr.Call _ _ _ _) _ _ _) _ _ _); (refine halt ?_))) | (with_reducible ((with_reducible show wpAny _ _ (call (Value.builtin "sorted") _) _ _ _); (refine halt ?_))) | (with_reducible ((with_reducible show wpAny _ _ (subscriptTail (PySem.Expr.Name _ _) (PySem.Expr.Name _ _) _ _) _ _ _); (refine halt ?_))) | (with_reducible ((with_reducible show wpAny _ _ (eval (PySem.Expr.ListComp _ _ _ _) _) _ _ _); (refine halt ?_))) | (with_reducible ((with_reducible show wpAny _ _ (pyIter (Value.ref _)) _ _ _); (refine halt ?_))) | walk1 | (dsimp only; walk1) | (leave1; walk_say "STEP leave1"; try dsimp only) | fail "no step")
  unfold Halt
  rename Fr _ _ _ _ => F9
  rename News _ _ _ _ => N9
  refine LCg.ListComp_U (cl := [(Str.ofString "k", K)]) F9 ?c1 ?c2 ?c3 ?c4 ?c5 ?_
  case c1 => with_unfolding_all rfl
  case c2 => decide
  case c3 => rfl
  case c4 => decide
  case c5 => rfl
  refine lcf_cell N9 (c := L + 1 + 1 + 1 + 1) (o := o4) ?d1 hm4 d4 ?_ ?d2 ?d3
  case d1 => with_unfolding_all rfl
  case d2 => with_unfolding_all rfl
  case d3 => with_unfolding_all rfl
  refine LCg.CompSrc.ledger rfl F9 N9 hmV (by rw [hsz]; decide) fun g => ?_
  rw [hsz]
  refine maj_rest B X T dK hi (.inr ⟨_, hmV, rfl, _, rfl⟩) hD (fun ys' hys => ?_) 3 0 [] rfl .nil
  intro D2 h2 tk2 F2 N2 _
  repeat' (first | (k_unfold; (try dsimp only)) | (k_end; wrow_close) | (with_reducible ((with_reducible show wpAny _ _ (subscriptTail (PySem.Expr.Call _ _ _ _) _ _ _) _ _ _); (refine halt ?_))) | (with_reducible ((with_reducible show wpAny _ _ (call (Value.builtin "sorted") _) _ _ _); (refine halt ?_))) | (with_reducible ((with_reducible show wpAny _ _ (subscriptTail (PySem.Expr.Name _ _) (PySem.Expr.Name _ _) _ _) _ _ _); (refine halt ?_))) | (with_reducible ((with_reducible show wpAny _ _ (eval (PySem.Expr.ListComp _ _ _ _) _) _ _ _); (refine halt ?_))) | (with_reducible ((with_reducible show wpAny _ _ (pyIter (Value.ref _)) _ _ _); (refine halt ?_))) | walk1 | (dsimp only; walk1) | (leave1; walk_say "STEP leave1"; try dsimp only) | fail "no step")
  unfold Halt
  refine kso_sorted F2 N2 ⟨_, (N2 _ (.head _)).1, rfl, _, rfl⟩ hys (by show 3 < 64; decide) fun D3 vs' ns' c h3 F3 N3 _ hi3 hl3 hp3 ho3 _ => ?_
  repeat' (first | (k_unfold; (try dsimp only)) | (k_end; wrow_close) | (with_reducible ((with_reducible show wpAny _ _ (subscriptTail (PySem.Expr.Call _ _ _ _) _ _ _) _ _ _); (refine halt ?_))) | (with_reducible ((with_reducible show wpAny _ _ (call (Value.builtin "sorted") _) _ _ _); (refine halt ?_))) | (with_reducible ((with_reducible show wpAny _ _ (subscriptTail (PySem.Expr.Name _ _) (PySem.Expr.Name _ _) _ _) _ _ _); (refine halt ?_))) | (with_reducible ((with_reducible show wpAny _ _ (eval (PySem.Expr.ListComp _ _ _ _) _) _ _ _); (refine halt ?_))) | (with_reducible ((with_reducible show wpAny _ _ (pyIter (Value.ref _)) _ _ _); (refine halt ?_))) | walk1 | (dsimp only; walk1) | (leave1; walk_say "STEP leave1"; try dsimp only) | fail "no step")
  unfold Halt
  obtain ⟨_, t', e'⟩ := mid_sorted hi3 hl3 hp3 ho3
  exact item_at (k := 1) ⟨_, (N3 _ (.head _)).1, rfl, _, rfl⟩ (by decide) e' (hR _ _ _ F3 (news_mono N3 fun p hp => .tail _ (.tail _ hp))) (by with_unfolding_all rfl)
end

end
section
theorem fillN16 : PySem.Challenge.rw_pe0144_01 = PySem.Challenge.rw_pe0144_01 ∧ hd.heap_1 = hd.heap_1 := by
  w_top off
  w_top off
  k_fill
  exact ⟨rfl, rfl⟩
section
variable {prog : Program} {w : World} {p : Program} {loose : List Str} {mean : ExcName → Option Value} {mg mb : Str → Option Value}
  {dp un : Nat} {gd : Option (List Code)} {a : Addr} {ccd : Value} {outer : List Env} {A₀ : Around} {base h₀ : Heap} {L : Addr} {m : Str → Option Value} {s : Shared} {E : Value → Shared → Prop} {news : List (Addr × Obj)} {tail : List Stmt} {Q : Flow → Shared → Prop}
noncomputable def majI (vote : Nat → Int × Int × Int) (k : Nat) : Int := mid3 (part (vote 0) k) (part (vote 1) k) (part (vote 2) k)
theorem maj_rows {o4 : Obj} {Vl : Addr} {vs : List Value} {nv : Nat} {vote : Nat → Int × Int × Int} {s : Shared} {Fin : List Value → Prop}
  (B : Below A₀ base outer h₀) (X : (hd.heap_1 w.params).In h₀) (T : Top p loose mean mg mb h₀)
  (h4 : (L + 1 + 1 + 1 + 1, o4) ∈ news) (d4 : o4.data = Data.cell (some (.ref Vl))) (hV : (Vl, W.listOf vs.toArray nv) ∈ news) (hD : VotesIn vote vs news)
  (hd' : dp + 10 < recursionLimit) (hu : un + 60 < cLine)
  (hfin : ∀ ys, IntsAre ys [majI vote 0, majI vote 1, majI vote 2] → Fin ys) :
  ∀ (k j : Nat) (ys : List Value), j + k = 3 → IntsAre ys ((List.range j).map (majI vote)) →
    RestK prog w (lawA dp un gd L a ccd outer) h₀ L m (lawE L a ccd) (lcElt (asgExpr ((fnBody lawDef).getD 12 default))) (Str.ofString "k") (lcScope (asgExpr ((fnBody lawDef).getD 12 default))) [(Str.ofString "votes", L + 1 + 1 + 1 + 1)] s news (fun i v => ∃ t, v = .int (0 + (i : Int)) t) Fin k j ys
  | 0, j, ys, hjk, hys => by
    have : j = 3 := by omega
    subst this
    exact hfin ys hys
  | k + 1, j, ys, hjk, hys => by
    rintro v I oI C oC D K oK h tk E' ⟨t, rfl⟩ dK F N lo lt
    rw [Int.zero_add] at dK
    refine maj_turn (s := { s with heap := h, toks := tk }) B F X N T dK (by omega) h4 d4 hV hD hd' hu fun t' h' tk' F' N' => ?_
    refine ⟨h', tk', rfl, F', N', ?_⟩
    refine maj_rows B X T h4 d4 hV hD hd' hu hfin k (j + 1) (ys ++ [.int (majI vote j) t']) (by omega) ?_
    rw [List.range_succ, List.map_append]
    exact ints_snoc hys
theorem VotesIn.cons {vote : Nat → Int × Int × Int} {vs : List Value} {q : Addr × Obj} (h : VotesIn vote vs news) : VotesIn vote vs (q :: news) :=
  ⟨h.1, fun i v hv => let ⟨Dv, t0, t1, t2, e, hm⟩ := h.2 i v hv; ⟨Dv, t0, t1, t2, e, .tail _ hm⟩⟩
theorem law_majority {o4 o5 : Obj} {Vl : Addr} {vs : List Value} {nv : Nat} {vote : Nat → Int × Int × Int}
  (B : Below A₀ base outer h₀) (F : Fr h₀ L s.heap m) (X : (hd.heap_1 w.params).In h₀)
  (N : News h₀ L s.heap ((L + 1 + 1 + 1 + 1 + 1, o5) :: news)) (T : Top p loose mean mg mb h₀) (d5 : o5.data = Data.cell none) (n5 : ∀ p ∈ news, p.1 ≠ L + 1 + 1 + 1 + 1 + 1)
  (h4 : (L + 1 + 1 + 1 + 1, o4) ∈ news) (d4 : o4.data = Data.cell (some (.ref Vl))) (hV : (Vl, W.listOf vs.toArray nv) ∈ news) (hD : VotesIn vote vs news)
  (hd' : dp + 10 < recursionLimit) (hu : un + 60 < cLine)
  (hE : PassesOwn (model prog w) (lawA dp un gd L a ccd outer) (lawE L a ccd) E)
  (hnext : ∀ Dm t0 t1 t2 o5' h' tk', o5'.data = Data.cell (some (.ref Dm)) → (∀ p ∈ (L + 1 + 1 + 1 + 1 + 1, o5) :: news, @LT.lt Nat _ p.1 Dm) → Fr h₀ L h' m →
    News h₀ L h' ((Dm, LCg.lst [.int (majI vote 0) t0, .int (majI vote 1) t1, .int (majI vote 2) t2]) :: (L + 1 + 1 + 1 + 1 + 1, o5') :: news) → wpAny (model prog w) (lawA dp un gd L a ccd outer) (execs tail (lawE L a ccd)) Q E {s with heap := h', toks := tk'}) :
  wpAny (model prog w) (lawA dp un gd L a ccd outer) (execs ((fnBody lawDef).getD 12 default :: tail) (lawE L a ccd)) Q E s := by
  dsimp only [lawDef, PySem.Challenge.pw_pe0144_01, fnBody, fnScope, List.getD, List.getD_eq_getElem?_getD, List.getElem?_cons_succ, List.getElem?_cons_zero, Option.getD] at hE hnext ⊢
  repeat' (first | (k_unfold; (try dsimp only)) | (k_end; wrow_close) | (with_reducible ((with_reducible show wpAny _ _ (exec (PySem.Stmt.Assign (_ :: _) (PySem.Expr.ListComp _ _ _ _) _) _) _ _ _); (refine halt ?_))) | (with_reducible ((with_reducible show wpAny _ _ (eval (PySem.Expr.ListComp _ _ _ _) _) _ _ _); (refine halt ?_))) | (with_reducible ((with_reducible show wpAny _ _ (pyIter (Value.ref _)) _ _ _); (refine halt ?_))) | walk1 | (dsimp only; walk1) | (leave1; walk_say "STEP leave1"; try dsimp only) | fail "no step")
  unfold Halt
  refine wpAny_Assign_Name ?_ (by with_unfolding_all rfl)
  rw [eval_ListComp]
  refine wpAny_comprehension_free (cl := [(Str.ofString "votes", L + 1 + 1 + 1 + 1)]) (use := none) rfl (fun _ => rfl) ?c1 rfl ?c2 ?_
  case c1 => with_unfolding_all rfl
  case c2 => decide
  with_unfolding_all show wpAny _ _ (eval (PySem.Expr.Call _ _ _ _) _) _ _ _
  repeat' (first | (k_unfold; (try dsimp only)) | (k_end; wrow_close) | (with_reducible ((with_reducible show wpAny _ _ (exec (PySem.Stmt.Assign (_ :: _) (PySem.Expr.ListComp _ _ _ _) _) _) _ _ _); (refine halt ?_))) | (with_reducible ((with_reducible show wpAny _ _ (eval (PySem.Expr.ListComp _ _ _ _) _) _ _ _); (refine halt ?_))) | (with_reducible ((with_reducible show wpAny _ _ (pyIter (Value.ref _)) _ _ _); (refine halt ?_))) | walk1 | (dsimp only; walk1) | (leave1; walk_say "STEP leave1"; try dsimp only) | fail "no step")
  unfold Halt
  rename Fr _ _ _ _ => F9
  rename News _ _ _ _ => N9
  rename IsRange _ _ _ _ _ _ _ _ => R9
  refine comp_K rfl rfl (fun _ => rfl) (fun _ => rfl) (fun _ _ => by with_unfolding_all rfl) F9 N9 R9 (by decide) (n := 3) (by rfl) (by decide) fun g => ?_
  refine maj_rows (vote := vote) B X T (.tail _ h4) d4 (.tail _ hV) hD.cons hd' hu (fun ys hys D h tk F N lt => ?_) 3 0 [] rfl .nil
  cases hys with
  | cons _ t0 r =>
    cases r with
    | cons _ t1 r =>
      cases r with
      | cons _ t2 r =>
        cases r
        clear F9 N9 R9
        have l5 : @LT.lt Nat _ (L + 1 + 1 + 1 + 1 + 1) D := lt (L + 1 + 1 + 1 + 1 + 1, o5) (.head _)
        dsimp only
        repeat' (first | (k_unfold; (try dsimp only)) | (k_end; wrow_close) | (with_reducible ((with_reducible show wpAny _ _ (exec (PySem.Stmt.Assign (_ :: _) (PySem.Expr.ListComp _ _ _ _) _) _) _ _ _); (refine halt ?_))) | (with_reducible ((with_reducible show wpAny _ _ (eval (PySem.Expr.ListComp _ _ _ _) _) _ _ _); (refine halt ?_))) | (with_reducible ((with_reducible show wpAny _ _ (pyIter (Value.ref _)) _ _ _); (refine halt ?_))) | walk1 | (dsimp only; walk1) | (leave1; walk_say "STEP leave1"; try dsimp only) | fail "no step")
        rename Fr _ _ _ _ => F9
        rename News _ _ _ _ => N9
        refine hnext _ _ _ _ _ _ _ (by assumption) lt F9 N9
end

end
section
theorem fillN17 : PySem.Challenge.rw_pe0144_01 = PySem.Challenge.rw_pe0144_01 ∧ hd.heap_1 = hd.heap_1 := by
  w_top off
  w_top off
  k_fill
  exact ⟨rfl, rfl⟩
theorem item_int {prog : Program} {w : World} {A : Around} {E : Value → Shared → Prop} {s : Shared} {value slice : PySem.Expr} {l : Addr} {vi : Array Value} {v : Value} {u : Tok} {k : Int} {j : Nat} {Q : Value → Shared → Prop}
    (hl : s.heap.IsList l vi) (e : k = (j : Int)) (hk : (j : Int) < 2 ^ 63) (hv : vi[j]? = some v) (h : Q v s)
    (hs : subscripted slice false (.ref l) (.int k u) = operate [.ref l, .int k u] (getItem (.ref l) (.int k u)) := by with_unfolding_all rfl) :
    wpAny (model prog w) A (subscriptTail value slice (.ref l) (.int k u)) Q E s := by
  subst e
  exact item_at hl hk hv h hs
section
variable {prog : Program} {w : World} {p : Program} {loose : List Str} {mean : ExcName → Option Value} {mg mb : Str → Option Value}
  {dp un : Nat} {gd : Option (List Code)} {a : Addr} {ccd : Value} {outer : List Env} {A₀ : Around} {base h₀ : Heap} {L : Addr} {m : Str → Option Value} {s : Shared} {E : Value → Shared → Prop} {tail : List Stmt} {Q : Flow → Shared → Prop} {rest : List (Addr × Obj)}
  {x dx f D f1 c1 ca ct la pb : Addr} {os : Array (Option Value)} {fd : FuncData} {oc oA oT : Obj} {q text : Str} {doc pm ctv : Value} {e1 e2 e3 e4 er : Int} {k1 k2 k3 k4 kr tw : Tok}
  {pos : Int} {tp : Tok} {ln : Int} {tl : Tok} {items : Array Value} {n : Nat}
theorem law_here {w0 w1 w2 : Str} {t0 t1 t2 : Tok} {o3 : Obj}
  (B : Below A₀ base outer h₀) (F : Fr h₀ L s.heap m) (X : (hd.heap_1 w.params).In h₀)
  (N : News h₀ L s.heap (LX x dx f D f1 c1 ca ct la pb os fd oc oA oT q doc pm ctv e1 e2 e3 e4 er k1 k2 k3 k4 kr tw pos tp ln tl #[.str w0 t0, .str w1 t1, .str w2 t2] n ((L + 1 + 1 + 1, o3) :: rest)))
  (T : Top p loose mean mg mb h₀) (ok : LexOk x dx f D f1 c1 ca ct la pb oc oA oT q text) (d3 : o3.data = Data.cell (some (.ref x)))
  (hd' : dp + 10 < recursionLimit) (hu : un + 60 < cLine) (n5 : ∀ p ∈ ((L + 1 + 1 + 1, o3) :: rest), p.1 ≠ la) (n6 : ∀ p ∈ ((L + 1 + 1 + 1, o3) :: rest), p.1 ≠ dx) (n7 : ∀ p ∈ ((L + 1 + 1 + 1, o3) :: rest), p.1 ≠ pb)
  (hE : PassesOwn (model prog w) (lawA dp un gd L a ccd outer) (lawE L a ccd) E)
  (hnext : ∀ n' h' tk', Fr h₀ L h' (fun z => if z = Str.ofString "here" then some (.str w0 t0) else m z) → News h₀ L h' (LX x dx f D f1 c1 ca ct la pb os fd oc oA oT q doc pm ctv e1 e2 e3 e4 er k1 k2 k3 k4 kr tw pos tp ln tl #[.str w1 t1, .str w2 t2] n' ((L + 1 + 1 + 1, o3) :: rest)) → wpAny (model prog w) (lawA dp un gd L a ccd outer) (execs tail (lawE L a ccd)) Q E {s with heap := h', toks := tk'}) :
  wpAny (model prog w) (lawA dp un gd L a ccd outer) (execs ((fnBody lawDef).getD 13 default :: tail) (lawE L a ccd)) Q E s := by
  have hx := LexOk.o ok
  dsimp only [lawDef, PySem.Challenge.pw_pe0144_01, fnBody, fnScope, List.getD, List.getD_eq_getElem?_getD, List.getElem?_cons_succ, List.getElem?_cons_zero, Option.getD] at hE hnext ⊢
  dsimp only [LX] at N
  repeat' (first | (k_unfold; (try dsimp only)) | (k_end; wrow_close) | (with_reducible ((with_reducible show wpAny _ _ (subscriptTail (PySem.Expr.Name _ _) (PySem.Expr.BinOp _ _ _ _) _ _) _ _ _); (refine halt ?_))) | (with_reducible ((with_reducible show wpAny _ _ (subscriptTail (PySem.Expr.Name _ _) (PySem.Expr.Name _ _) _ _) _ _ _); (refine halt ?_))) | (with_reducible ((with_reducible show wpAny _ _ (call (Value.ref _) _) _ _ _); (refine halt ?_))) | (with_reducible ((with_reducible show wpAny _ _ (pyIter (Value.ref _)) _ _ _); (refine halt ?_))) | walk1 | (dsimp only; walk1) | (leave1; walk_say "STEP leave1"; try dsimp only) | fail "no step")
  unfold Halt
  rename Fr _ _ _ _ => F9
  rename News _ _ _ _ => N9
  refine pop_spec (v0 := w0) (v1 := w1) (v2 := w2) (t0 := t0) (t1 := t1) (t9 := t2) (n := n) B F9 X N9 T rfl ok (by omega) (by omega) n5 n6 n7 fun n' h' tk' F' N' => ?_
  clear N9 F9
  repeat' (first | (k_unfold; (try dsimp only)) | (k_end; wrow_close) | (with_reducible ((with_reducible show wpAny _ _ (subscriptTail (PySem.Expr.Name _ _) (PySem.Expr.BinOp _ _ _ _) _ _) _ _ _); (refine halt ?_))) | (with_reducible ((with_reducible show wpAny _ _ (subscriptTail (PySem.Expr.Name _ _) (PySem.Expr.Name _ _) _ _) _ _ _); (refine halt ?_))) | (with_reducible ((with_reducible show wpAny _ _ (call (Value.ref _) _) _ _ _); (refine halt ?_))) | (with_reducible ((with_reducible show wpAny _ _ (pyIter (Value.ref _)) _ _ _); (refine halt ?_))) | walk1 | (dsimp only; walk1) | (leave1; walk_say "STEP leave1"; try dsimp only) | fail "no step")
  rename Fr _ _ _ _ => F9
  rename News _ _ _ _ => N9
  exact hnext _ _ _ F9 N9
theorem way_turn {w0 w1 w2 : Str} {ti th ta tb : Tok} {o3 : Obj} {Pl : Addr} {ps : Array Value} {np i j : Nat} {pi pj : Int} {ui uj : Tok} {M : Str → Option Value} {R : Flow → Shared → Prop}
  (B : Below A₀ base outer h₀) (F : Fr h₀ L s.heap (fun z => if z = Str.ofString "k" then some (.int (i : Int) ti) else if z = Str.ofString "here" then some (.str w0 th) else if z = Str.ofString "places" then some (.ref Pl) else M z)) (X : (hd.heap_1 w.params).In h₀)
  (N : News h₀ L s.heap (LX x dx f D f1 c1 ca ct la pb os fd oc oA oT q doc pm ctv e1 e2 e3 e4 er k1 k2 k3 k4 kr tw pos tp ln tl #[.str w1 ta, .str w2 tb] n ((L + 1 + 1 + 1, o3) :: rest)))
  (T : Top p loose mean mg mb h₀) (ok : LexOk x dx f D f1 c1 ca ct la pb oc oA oT q text) (d3 : o3.data = Data.cell (some (.ref x)))
  (hP : (Pl, W.listOf ps np) ∈ rest) (hi : i < 3) (hij : ((i : Int) + 1).fmod 3 = (j : Int)) (hj : j < 3) (gi : ps[i]? = some (.int pi ui)) (gj : ps[j]? = some (.int pj uj))
  (lv : LevOk w0 w1 (wayI pi pj)) (hl : levS w0 w1 = wayI pi pj)
  (hd' : dp + 10 < recursionLimit) (hu : un + 60 < cLine) (n5 : ∀ p ∈ ((L + 1 + 1 + 1, o3) :: rest), p.1 ≠ la) (n6 : ∀ p ∈ ((L + 1 + 1 + 1, o3) :: rest), p.1 ≠ dx) (n7 : ∀ p ∈ ((L + 1 + 1 + 1, o3) :: rest), p.1 ≠ pb)
  (hE : PassesOwn (model prog w) (lawA dp un gd L a ccd outer) (lawE L a ccd) E)
  (hR : ∀ M' n' h' tk', Fr h₀ L h' M' → M' (Str.ofString "here") = some (.str w1 ta) → M' (Str.ofString "places") = some (.ref Pl) → News h₀ L h' (LX x dx f D f1 c1 ca ct la pb os fd oc oA oT q doc pm ctv e1 e2 e3 e4 er k1 k2 k3 k4 kr tw pos tp ln tl #[.str w2 tb, .str w0 th] n' ((L + 1 + 1 + 1, o3) :: rest)) → R .next {s with heap := h', toks := tk'}) :
  wpAny (model prog w) (lawA dp un gd L a ccd outer) (execs (forBody ((fnBody lawDef).getD 14 default)) (lawE L a ccd)) R E s := by
  have hx := LexOk.o ok
  dsimp only [lawDef, PySem.Challenge.pw_pe0144_01, fnBody, fnScope, forBody, List.getD, List.getD_eq_getElem?_getD, List.getElem?_cons_succ, List.getElem?_cons_zero, Option.getD] at hE hR ⊢
  dsimp only [LX] at N
  repeat' (first | (k_unfold; (try dsimp only)) | (k_end; wrow_close) | (with_reducible ((with_reducible show wpAny _ _ (subscriptTail (PySem.Expr.Name _ _) (PySem.Expr.BinOp _ _ _ _) _ _) _ _ _); (refine halt ?_))) | (with_reducible ((with_reducible show wpAny _ _ (subscriptTail (PySem.Expr.Name _ _) (PySem.Expr.Name _ _) _ _) _ _ _); (refine halt ?_))) | (with_reducible ((with_reducible show wpAny _ _ (call (Value.ref _) _) _ _ _); (refine halt ?_))) | (with_reducible ((with_reducible show wpAny _ _ (pyIter (Value.ref _)) _ _ _); (refine halt ?_))) | walk1 | (dsimp only; walk1) | (leave1; walk_say "STEP leave1"; try dsimp only) | fail "no step")
  unfold Halt
  rename Fr _ _ _ _ => F9
  rename News _ _ _ _ => N9
  refine push_spec (v0 := w0) (t0 := th) (items := #[.str w1 ta, .str w2 tb]) (n := n) B F9 X N9 T rfl ok (by omega) (by omega) (by show 2 ≤ 10; decide) n5 n6 n7 fun h' tk' F' N' => ?_
  clear N9 F9
  repeat' (first | (k_unfold; (try dsimp only)) | (k_end; wrow_close) | (with_reducible ((with_reducible show wpAny _ _ (subscriptTail (PySem.Expr.Name _ _) (PySem.Expr.BinOp _ _ _ _) _ _) _ _ _); (refine halt ?_))) | (with_reducible ((with_reducible show wpAny _ _ (subscriptTail (PySem.Expr.Name _ _) (PySem.Expr.Name _ _) _ _) _ _ _); (refine halt ?_))) | (with_reducible ((with_reducible show wpAny _ _ (call (Value.ref _) _) _ _ _); (refine halt ?_))) | (with_reducible ((with_reducible show wpAny _ _ (pyIter (Value.ref _)) _ _ _); (refine halt ?_))) | walk1 | (dsimp only; walk1) | (leave1; walk_say "STEP leave1"; try dsimp only) | fail "no step")
  unfold Halt
  rename Fr _ _ _ _ => F9
  rename News _ _ _ _ => N9
  refine pop_spec (v0 := w1) (v1 := w2) (v2 := w0) (t0 := ta) (t1 := tb) (t9 := th) (n := n + 1) B F9 X N9 T rfl ok (by omega) (by omega) n5 n6 n7 fun n' h' tk' F' N' => ?_
  clear N9 F9
  repeat' (first | (k_unfold; (try dsimp only)) | (k_end; wrow_close) | (with_reducible ((with_reducible show wpAny _ _ (subscriptTail (PySem.Expr.Name _ _) (PySem.Expr.BinOp _ _ _ _) _ _) _ _ _); (refine halt ?_))) | (with_reducible ((with_reducible show wpAny _ _ (subscriptTail (PySem.Expr.Name _ _) (PySem.Expr.Name _ _) _ _) _ _ _); (refine halt ?_))) | (with_reducible ((with_reducible show wpAny _ _ (call (Value.ref _) _) _ _ _); (refine halt ?_))) | (with_reducible ((with_reducible show wpAny _ _ (pyIter (Value.ref _)) _ _ _); (refine halt ?_))) | walk1 | (dsimp only; walk1) | (leave1; walk_say "STEP leave1"; try dsimp only) | fail "no step")
  unfold Halt
  rename Fr _ _ _ _ => F9
  rename News _ _ _ _ => N9
  have z := N9 (Pl, W.listOf ps np) (by rw [LX_pre]; exact List.mem_append_right _ (.tail _ hP))
  refine item_int (j := i) ⟨_, z.1, rfl, _, rfl⟩ rfl (by omega) gi ?_ (by with_unfolding_all rfl)
  repeat' (first | (k_unfold; (try dsimp only)) | (k_end; wrow_close) | (with_reducible ((with_reducible show wpAny _ _ (subscriptTail (PySem.Expr.Name _ _) (PySem.Expr.BinOp _ _ _ _) _ _) _ _ _); (refine halt ?_))) | (with_reducible ((with_reducible show wpAny _ _ (subscriptTail (PySem.Expr.Name _ _) (PySem.Expr.Name _ _) _ _) _ _ _); (refine halt ?_))) | (with_reducible ((with_reducible show wpAny _ _ (call (Value.ref _) _) _ _ _); (refine halt ?_))) | (with_reducible ((with_reducible show wpAny _ _ (pyIter (Value.ref _)) _ _ _); (refine halt ?_))) | walk1 | (dsimp only; walk1) | (leave1; walk_say "STEP leave1"; try dsimp only) | fail "no step")
  unfold Halt
  refine item_int (j := j) ⟨_, z.1, rfl, _, rfl⟩ hij (by omega) gj ?_ (by with_unfolding_all rfl)
  clear z
  repeat' (first | (k_unfold; (try dsimp only)) | (k_end; wrow_close) | (with_reducible ((with_reducible show wpAny _ _ (subscriptTail (PySem.Expr.Name _ _) (PySem.Expr.BinOp _ _ _ _) _ _) _ _ _); (refine halt ?_))) | (with_reducible ((with_reducible show wpAny _ _ (subscriptTail (PySem.Expr.Name _ _) (PySem.Expr.Name _ _) _ _) _ _ _); (refine halt ?_))) | (with_reducible ((with_reducible show wpAny _ _ (call (Value.ref _) _) _ _ _); (refine halt ?_))) | (with_reducible ((with_reducible show wpAny _ _ (pyIter (Value.ref _)) _ _ _); (refine halt ?_))) | walk1 | (dsimp only; walk1) | (leave1; walk_say "STEP leave1"; try dsimp only) | fail "no step")
  unfold Halt
  refine way_spec B F9 X N9 T rfl (by omega) (by omega) fun t' h' tk' F' N' => ?_
  clear N9 F9
  repeat' (first | (k_unfold; (try dsimp only)) | (k_end; wrow_close) | (with_reducible ((with_reducible show wpAny _ _ (subscriptTail (PySem.Expr.Name _ _) (PySem.Expr.BinOp _ _ _ _) _ _) _ _ _); (refine halt ?_))) | (with_reducible ((with_reducible show wpAny _ _ (subscriptTail (PySem.Expr.Name _ _) (PySem.Expr.Name _ _) _ _) _ _ _); (refine halt ?_))) | (with_reducible ((with_reducible show wpAny _ _ (call (Value.ref _) _) _ _ _); (refine halt ?_))) | (with_reducible ((with_reducible show wpAny _ _ (pyIter (Value.ref _)) _ _ _); (refine halt ?_))) | walk1 | (dsimp only; walk1) | (leave1; walk_say "STEP leave1"; try dsimp only) | fail "no step")
  unfold Halt
  rename Fr _ _ _ _ => F9
  rename News _ _ _ _ => N9
  refine lev_spec B F9 X N9 T rfl (by omega) (by omega) lv fun t' h' tk' F' N' => ?_
  clear N9 F9
  rw [hl]
  repeat' (first | (k_unfold; (try dsimp only)) | (k_end; wrow_close) | (with_reducible ((with_reducible show wpAny _ _ (subscriptTail (PySem.Expr.Name _ _) (PySem.Expr.BinOp _ _ _ _) _ _) _ _ _); (refine halt ?_))) | (with_reducible ((with_reducible show wpAny _ _ (subscriptTail (PySem.Expr.Name _ _) (PySem.Expr.Name _ _) _ _) _ _ _); (refine halt ?_))) | (with_reducible ((with_reducible show wpAny _ _ (call (Value.ref _) _) _ _ _); (refine halt ?_))) | (with_reducible ((with_reducible show wpAny _ _ (pyIter (Value.ref _)) _ _ _); (refine halt ?_))) | walk1 | (dsimp only; walk1) | (leave1; walk_say "STEP leave1"; try dsimp only) | fail "no step")
  · exact absurd rfl (by assumption)
  · rename Fr _ _ _ _ => F9
    rename News _ _ _ _ => N9
    exact hR _ _ _ _ F9 rfl rfl N9
end

end
section
theorem fillN18 : PySem.Challenge.rw_pe0144_01 = PySem.Challenge.rw_pe0144_01 ∧ hd.heap_1 = hd.heap_1 := by
  w_top off
  w_top off
  k_fill
  exact ⟨rfl, rfl⟩
section
variable {prog : Program} {w : World} {p : Program} {loose : List Str} {mean : ExcName → Option Value} {mg mb : Str → Option Value}
  {dp un : Nat} {gd : Option (List Code)} {a : Addr} {ccd : Value} {outer : List Env} {A₀ : Around} {base h₀ : Heap} {L : Addr} {m : Str → Option Value} {s : Shared} {E : Value → Shared → Prop} {tail : List Stmt} {Q : Flow → Shared → Prop} {rest : List (Addr × Obj)}
  {x dx f D f1 c1 ca ct la pb : Addr} {os : Array (Option Value)} {fd : FuncData} {oc oA oT : Obj} {q text : Str} {doc pm ctv : Value} {e1 e2 e3 e4 er : Int} {k1 k2 k3 k4 kr tw : Tok}
  {pos : Int} {tp : Tok} {ln : Int} {tl : Tok} {items : Array Value} {n : Nat}
/-- the words' distances round the ring are the ways of their places -/
noncomputable def WaysOk (wd : Nat → Str) (place : Nat → Int) : Prop :=
  ∀ i, i < 3 → LevOk (wd i) (wd (i + 1)) (wayI (place i) (place ((i + 1) % 3))) ∧ levS (wd i) (wd (i + 1)) = wayI (place i) (place ((i + 1) % 3))
noncomputable def PlacesIn (place : Nat → Int) (ps : Array Value) : Prop := ps.size = 3 ∧ ∀ i, i < 3 → ∃ u, ps[i]? = some (.int (place i) u)
theorem off_right {own r : List (Addr × Obj)} {p1 : Addr × Obj} {z : Addr} (n : ∀ p ∈ p1 :: r, p.1 ≠ z) (o : ∀ p ∈ own, p.1 ≠ z) : ∀ p ∈ p1 :: (r ++ own), p.1 ≠ z := fun p hp => by
  rcases List.mem_cons.mp hp with h | hp
  · exact n p (h ▸ .head _)
  rcases List.mem_append.mp hp with hp | hp
  · exact n p (.tail _ hp)
  · exact o p hp
theorem law_ways {wd : Nat → Str} {place : Nat → Int} {th ta tb : Tok} {o3 : Obj} {Pl : Addr} {ps : Array Value} {np : Nat} {M : Str → Option Value}
  (B : Below A₀ base outer h₀) (F : Fr h₀ L s.heap M) (X : (hd.heap_1 w.params).In h₀)
  (N : News h₀ L s.heap (LX x dx f D f1 c1 ca ct la pb os fd oc oA oT q doc pm ctv e1 e2 e3 e4 er k1 k2 k3 k4 kr tw pos tp ln tl #[.str (wd 1) ta, .str (wd 2) tb] n ((L + 1 + 1 + 1, o3) :: rest)))
  (T : Top p loose mean mg mb h₀) (ok : LexOk x dx f D f1 c1 ca ct la pb oc oA oT q text) (d3 : o3.data = Data.cell (some (.ref x)))
  (hP : (Pl, W.listOf ps np) ∈ rest) (hps : PlacesIn place ps) (hw : WaysOk wd place) (hwd : ∀ i, wd (i + 3) = wd i)
  (hM1 : M (Str.ofString "here") = some (.str (wd 0) th)) (hM2 : M (Str.ofString "places") = some (.ref Pl))
  (hd' : dp + 10 < recursionLimit) (hu : un + 60 < cLine) (n5 : ∀ p ∈ ((L + 1 + 1 + 1, o3) :: rest), p.1 ≠ la) (n6 : ∀ p ∈ ((L + 1 + 1 + 1, o3) :: rest), p.1 ≠ dx) (n7 : ∀ p ∈ ((L + 1 + 1 + 1, o3) :: rest), p.1 ≠ pb)
  (hE : PassesOwn (model prog w) (lawA dp un gd L a ccd outer) (lawE L a ccd) E)
  (hnext : ∀ its n' M' h' tk', M' (Str.ofString "places") = some (.ref Pl) → Fr h₀ L h' M' → News h₀ L h' (LX x dx f D f1 c1 ca ct la pb os fd oc oA oT q doc pm ctv e1 e2 e3 e4 er k1 k2 k3 k4 kr tw pos tp ln tl its n' ((L + 1 + 1 + 1, o3) :: rest)) → wpAny (model prog w) (lawA dp un gd L a ccd outer) (execs tail (lawE L a ccd)) Q E {s with heap := h', toks := tk'}) :
  wpAny (model prog w) (lawA dp un gd L a ccd outer) (execs ((fnBody lawDef).getD 14 default :: tail) (lawE L a ccd)) Q E s := by
  have loop : ∀ (s : Shared) (r : Addr) (t₀ u₀ v₀ : Tok) (_ : IsRange s.heap r 0 ((3 : Nat) : Int) 1 t₀ u₀ v₀) (_ : Fr h₀ L s.heap M) (_ : News h₀ L s.heap (LX x dx f D f1 c1 ca ct la pb os fd oc oA oT q doc pm ctv e1 e2 e3 e4 er k1 k2 k3 k4 kr tw pos tp ln tl #[.str (wd 1) ta, .str (wd 2) tb] n ((L + 1 + 1 + 1, o3) :: rest))) (Q' : Flow → Shared → Prop)
      (_ : ∀ its n' M' h' tk', M' (Str.ofString "places") = some (.ref Pl) → Fr h₀ L h' M' → News h₀ L h' (LX x dx f D f1 c1 ca ct la pb os fd oc oA oT q doc pm ctv e1 e2 e3 e4 er k1 k2 k3 k4 kr tw pos tp ln tl its n' ((L + 1 + 1 + 1, o3) :: rest)) → Q' .next {s with heap := h', toks := tk'}),
      wpAny (model prog w) (lawA dp un gd L a ccd outer) (pyIter (.ref r)) (fun it s₂ => LoopAtV prog w (lawA dp un gd L a ccd outer) h₀ (lawE L a ccd) (Str.ofString "k") (forBody ((fnBody lawDef).getD 14 default)) Q' E it s₂) E s := by
    intro s r t₀ u₀ v₀ hr F N Q' done
    refine range_turns (n := 3) (fun i m nx => ∃ th ta tb n', nx = LX x dx f D f1 c1 ca ct la pb os fd oc oA oT q doc pm ctv e1 e2 e3 e4 er k1 k2 k3 k4 kr tw pos tp ln tl #[.str (wd (i + 1)) ta, .str (wd (i + 2)) tb] n' ((L + 1 + 1 + 1, o3) :: rest) ∧ m (Str.ofString "here") = some (.str (wd i) th) ∧ m (Str.ofString "places") = some (.ref Pl))
      rfl hr (by decide) F N ⟨_, _, _, _, rfl, hM1, hM2⟩ ?_ ?_
    · rintro i t m₁ nx h tk own hi off ⟨th, ta, tb, n', rfl, g1, g2⟩ F' N'
      obtain ⟨ui, gi⟩ := hps.2 i hi
      obtain ⟨uj, gj⟩ := hps.2 ((i + 1) % 3) (Nat.mod_lt _ (by decide))
      obtain ⟨lv, hl⟩ := hw i hi
      refine way_turn (s := { s with heap := h, toks := tk }) (rest := rest ++ own) B (fr_k2 F' g1 g2) X N' T ok d3 (List.mem_append_left _ hP) hi (j := (i + 1) % 3) ?_ (Nat.mod_lt _ (by decide)) gi gj lv hl hd' hu
        (off_right n5 (off.ne (.head _))) (off_right n6 (off.ne (.tail _ (.head _)))) (off_right n7 (off.ne (.tail _ (.tail _ (.head _))))) hE fun M' n'' h' tk' F2 q1 q2 N2 => ?_
      · rw [Int.fmod_eq_emod_of_nonneg _ (by decide)]
        omega
      · refine ⟨h', tk', M', _, LX x dx f D f1 c1 ca ct la pb os fd oc oA oT q doc pm ctv e1 e2 e3 e4 er k1 k2 k3 k4 kr tw pos tp ln tl #[.str (wd (i + 1 + 1)) tb, .str (wd (i + 1 + 2)) th] n'' ((L + 1 + 1 + 1, o3) :: rest), rfl, F2, N2, fun p hp => ?_, fun p hp => ?_, rfl, _, _, _, _, rfl, q1, q2⟩
        · have e : wd (i + 1 + 2) = wd i := hwd i
          rw [e] at hp
          exact List.mem_append_left own hp
        · exact List.mem_append_right (LX x dx f D f1 c1 ca ct la pb os fd oc oA oT q doc pm ctv e1 e2 e3 e4 er k1 k2 k3 k4 kr tw pos tp ln tl #[.str (wd (i + 2)) tb, .str (wd i) th] n'' ((L + 1 + 1 + 1, o3) :: rest)) hp
    · rintro m₁ nx h tk ⟨th, ta, tb, n', rfl, g1, g2⟩ F' N'
      exact done _ n' m₁ h tk g2 F' N'
  have hxo := LexOk.o ok
  dsimp only [lawDef, PySem.Challenge.pw_pe0144_01, fnBody, fnScope, forBody, List.getD, List.getD_eq_getElem?_getD, List.getElem?_cons_succ, List.getElem?_cons_zero, Option.getD] at hE hnext loop ⊢
  dsimp only [LX] at N
  repeat' (first | (k_unfold; (try dsimp only)) | (k_end; wrow_close) | (with_reducible ((with_reducible show wpAny _ _ (exec (PySem.Stmt.For (PySem.Expr.Name _ _) (PySem.Expr.Call _ _ _ _) (_ :: _) [] _) _) _ _ _); (k_here; (rename Fr _ _ _ _ => lFzq'); (with_unfolding_all refine' For_invVF lFzq' ?k1zq57 ?k2zq57 ?_ ?k3zq57 ?k4zq57; (case k1zq57 => exact rfl); (case k2zq57 => exact rfl); (case k3zq57 => (intro _; rfl)); (case k4zq57 => assumption); k_whole)))) | (with_reducible ((with_reducible show wpAny _ _ (pyIter (Value.ref _)) _ _ _); (refine halt ?_))) | walk1 | (dsimp only; walk1) | (leave1; walk_say "STEP leave1"; try dsimp only) | fail "no step")
  unfold Halt
  rename Fr _ _ _ _ => F9
  rename News _ _ _ _ => N9
  rename IsRange _ _ _ _ _ _ _ _ => R9
  with_unfolding_all refine' loop _ _ _ _ _ R9 F9 N9 _ ?dd9
  intro its n' M' h' tk' g2 F' N'
  exact hnext its n' M' h' tk' g2 F' N'
end

end
section
theorem fillN19 : PySem.Challenge.rw_pe0144_01 = PySem.Challenge.rw_pe0144_01 ∧ hd.heap_1 = hd.heap_1 := by
  w_top off
  w_top off
  k_fill
  exact ⟨rfl, rfl⟩
section
variable {prog : Program} {w : World} {p : Program} {loose : List Str} {mean : ExcName → Option Value} {mg mb : Str → Option Value}
  {dp un : Nat} {gd : Option (List Code)} {a : Addr} {ccd : Value} {outer : List Env} {A₀ : Around} {base h₀ : Heap} {L : Addr} {m : Str → Option Value} {s : Shared} {E : Value → Shared → Prop} {news : List (Addr × Obj)} {tail : List Stmt} {Q : Flow → Shared → Prop}
noncomputable def wordV (v : Int × Int × Int) : Str := wordI v.1 v.2.1 v.2.2
noncomputable def VoteOk (v : Int × Int × Int) : Prop := (0 ≤ v.1 ∧ v.1 ≤ 2) ∧ (0 ≤ v.2.1 ∧ v.2.1 ≤ 2) ∧ (0 ≤ v.2.2 ∧ v.2.2 ≤ 2)
theorem reach_item {I C D Dm Dv : Addr} {oI oC o4 o5 : Obj} {ys : List Value} {m₂ : Str → Option Value} {v mj : Int × Int × Int} {t0 t1 t2 u0 u1 u2 : Tok} {R : Value → Shared → Prop} {E' : Value → Shared → Prop}
  (B : Below A₀ base outer h₀) (F : Fr h₀ L s.heap m) (X : (hd.heap_1 w.params).In h₀)
  (N : News h₀ L s.heap ((I, oI) :: (C, oC) :: (D, LCg.lst ys) :: (L + 1 + 1 + 1 + 1, o4) :: (L + 1 + 1 + 1 + 1 + 1, o5) :: news)) (T : Top p loose mean mg mb h₀)
  (d5 : o5.data = .cell (some (.ref Dm))) (hC : LCg.NsObj oC m₂) (hx : m₂ (Str.ofString "vote") = some (.ref Dv)) (hm : (Dv, LCg.lst [.int v.1 t0, .int v.2.1 t1, .int v.2.2 t2]) ∈ news) (hj : (Dm, LCg.lst [.int mj.1 u0, .int mj.2.1 u1, .int mj.2.2 u2]) ∈ news)
  (bv : VoteOk v) (bj : VoteOk mj) (lv : LevOk (wordV mj) (wordV v) 6)
  (hd' : dp + 10 < recursionLimit) (hu : un + 60 < cLine)
  (hR : ∀ t h' tk', Fr h₀ L h' m → News h₀ L h' ((I, oI) :: (C, oC) :: (D, LCg.lst ys) :: (L + 1 + 1 + 1 + 1, o4) :: (L + 1 + 1 + 1 + 1 + 1, o5) :: news) → R (.int (levS (wordV mj) (wordV v)) t) {s with heap := h', toks := tk'}) :
  wpAny (model prog w) (lawA dp un gd L a ccd outer) (eval (lcElt (asgExpr ((fnBody lawDef).getD 15 default))) (compEnvC (lcScope (asgExpr ((fnBody lawDef).getD 15 default))) [(Str.ofString "majority", L + 1 + 1 + 1 + 1 + 1)] C (lawE L a ccd))) R E' s := by
  dsimp only [lawDef, asgExpr, lcElt, lcScope, PySem.Challenge.pw_pe0144_01, fnBody, fnScope, List.getD, List.getD_eq_getElem?_getD, List.getElem?_cons_succ, List.getElem?_cons_zero, Option.getD]
  repeat' (first | (k_unfold; (try dsimp only)) | (k_end; wrow_close) | (with_reducible ((with_reducible show LCg.CompSrc _ _ _ _ _ _ _ _ _ _ _ _ _ _); (refine halt ?_))) | (with_reducible ((with_reducible show wpAny _ _ (exec (PySem.Stmt.Assign (_ :: _) (PySem.Expr.ListComp _ _ _ _) _) _) _ _ _); (k_here; k_dflt (refine LCg.Assign_ListComp_U (F₀ := by k_asm) (by rfl) (by with_unfolding_all rfl) (by with_unfolding_all rfl) (by decide) (by rfl) (by decide) (by rfl) (by rfl) (by rfl) ?_)))) | (with_reducible ((with_reducible show wpAny _ _ (call (Value.ref _) _) _ _ _); (refine halt ?_))) | walk1 | (dsimp only; walk1) | (leave1; walk_say "STEP leave1"; try dsimp only) | fail "no step")
  unfold Halt
  rename Fr _ _ _ _ => F9
  rename News _ _ _ _ => N9
  refine word_spec B F9 X N9 T rfl (.tail _ (.tail _ (.tail _ (.tail _ (.tail _ hj))))) bj.1 bj.2.1 bj.2.2 (by omega) (by omega) fun t' h' tk' F' N' => ?_
  clear N9 F9
  repeat' (first | (k_unfold; (try dsimp only)) | (k_end; wrow_close) | (with_reducible ((with_reducible show LCg.CompSrc _ _ _ _ _ _ _ _ _ _ _ _ _ _); (refine halt ?_))) | (with_reducible ((with_reducible show wpAny _ _ (exec (PySem.Stmt.Assign (_ :: _) (PySem.Expr.ListComp _ _ _ _) _) _) _ _ _); (k_here; k_dflt (refine LCg.Assign_ListComp_U (F₀ := by k_asm) (by rfl) (by with_unfolding_all rfl) (by with_unfolding_all rfl) (by decide) (by rfl) (by decide) (by rfl) (by rfl) (by rfl) ?_)))) | (with_reducible ((with_reducible show wpAny _ _ (call (Value.ref _) _) _ _ _); (refine halt ?_))) | walk1 | (dsimp only; walk1) | (leave1; walk_say "STEP leave1"; try dsimp only) | fail "no step")
  unfold Halt
  rename Fr _ _ _ _ => F9
  rename News _ _ _ _ => N9
  refine word_spec B F9 X N9 T rfl (.tail _ (.tail _ (.tail _ (.tail _ (.tail _ hm))))) bv.1 bv.2.1 bv.2.2 (by omega) (by omega) fun t' h' tk' F' N' => ?_
  clear N9 F9
  repeat' (first | (k_unfold; (try dsimp only)) | (k_end; wrow_close) | (with_reducible ((with_reducible show LCg.CompSrc _ _ _ _ _ _ _ _ _ _ _ _ _ _); (refine halt ?_))) | (with_reducible ((with_reducible show wpAny _ _ (exec (PySem.Stmt.Assign (_ :: _) (PySem.Expr.ListComp _ _ _ _) _) _) _ _ _); (k_here; k_dflt (refine LCg.Assign_ListComp_U (F₀ := by k_asm) (by rfl) (by with_unfolding_all rfl) (by with_unfolding_all rfl) (by decide) (by rfl) (by decide) (by rfl) (by rfl) (by rfl) ?_)))) | (with_reducible ((with_reducible show wpAny _ _ (call (Value.ref _) _) _ _ _); (refine halt ?_))) | walk1 | (dsimp only; walk1) | (leave1; walk_say "STEP leave1"; try dsimp only) | fail "no step")
  unfold Halt
  rename Fr _ _ _ _ => F9
  rename News _ _ _ _ => N9
  exact lev_spec B F9 X N9 T rfl (by omega) (by omega) lv fun t' h' tk' F' N' => hR _ _ _ F' N'
noncomputable def reachI (vote : Nat → Int × Int × Int) (mj : Int × Int × Int) (j : Nat) : Int := levS (wordV mj) (wordV (vote j))
theorem reach_rest {Dm Vl : Addr} {o4 o5 : Obj} {vs : List Value} {nv : Nat} {vote : Nat → Int × Int × Int} {mj : Int × Int × Int} {u0 u1 u2 : Tok} {s : Shared} {Fin : List Value → List (Addr × Obj) → Prop}
  (B : Below A₀ base outer h₀) (X : (hd.heap_1 w.params).In h₀) (T : Top p loose mean mg mb h₀)
  (d5 : o5.data = .cell (some (.ref Dm))) (hV : (Vl, W.listOf vs.toArray nv) ∈ news) (hD : VotesIn vote vs news) (hj : (Dm, LCg.lst [.int mj.1 u0, .int mj.2.1 u1, .int mj.2.2 u2]) ∈ news)
  (bv : ∀ j, VoteOk (vote j)) (bj : VoteOk mj) (lv : ∀ j, j < 3 → LevOk (wordV mj) (wordV (vote j)) 6)
  (hd' : dp + 10 < recursionLimit) (hu : un + 60 < cLine)
  (hfin : ∀ ys, IntsAre ys [reachI vote mj 0, reachI vote mj 1, reachI vote mj 2] → Fin ys ((L + 1 + 1 + 1 + 1, o4) :: (L + 1 + 1 + 1 + 1 + 1, o5) :: news)) :
  ∀ (k j : Nat) (ys : List Value), j + k = 3 → IntsAre ys ((List.range j).map (reachI vote mj)) →
    LCg.CompRest prog w (lawA dp un gd L a ccd outer) h₀ L m (lawE L a ccd) (lcElt (asgExpr ((fnBody lawDef).getD 15 default))) (Str.ofString "vote") (lcScope (asgExpr ((fnBody lawDef).getD 15 default))) [(Str.ofString "majority", L + 1 + 1 + 1 + 1 + 1)] s (LCg.SrcAt h₀ Vl vs.toArray) (fun i v => vs.toArray[i]? = some v) Fin k j ys
      ((L + 1 + 1 + 1 + 1, o4) :: (L + 1 + 1 + 1 + 1 + 1, o5) :: news)
  | 0, j, ys, hjk, hys => by
    have : j = 3 := by omega
    subst this
    exact hfin ys hys
  | k + 1, j, ys, hjk, hys => by
    refine LCg.CompRest.succ fun v I oI C oC D m₂ h tk E' hP hC hx F N off ne => ?_
    obtain ⟨Dv, t0, t1, t2, rfl, hm⟩ := hD.2 j v (by simpa using hP)
    refine reach_item (s := { s with heap := h, toks := tk }) B F X N T d5 hC hx hm hj (bv j) bj (lv j (by omega)) hd' hu fun t' h' tk' F' N' => ?_
    refine LCg.CompEnd.intro F' N' _ (fun p hp => hp) off (.inr ⟨_, .tail _ (.tail _ hV), rfl, _, rfl⟩) ?_
    refine reach_rest B X T d5 hV hD hj bv bj lv hd' hu hfin k (j + 1) (ys ++ [.int (reachI vote mj j) t']) (by omega) ?_
    rw [List.range_succ, List.map_append]
    exact ints_snoc hys
theorem law_reach {Dm Vl : Addr} {o4 o5 : Obj} {vs : List Value} {nv : Nat} {vote : Nat → Int × Int × Int} {mj : Int × Int × Int} {u0 u1 u2 : Tok}
  (B : Below A₀ base outer h₀) (F : Fr h₀ L s.heap m) (X : (hd.heap_1 w.params).In h₀)
  (N : News h₀ L s.heap ((L + 1 + 1 + 1 + 1, o4) :: (L + 1 + 1 + 1 + 1 + 1, o5) :: news)) (T : Top p loose mean mg mb h₀)
  (d4 : o4.data = .cell (some (.ref Vl))) (d5 : o5.data = .cell (some (.ref Dm))) (hV : (Vl, W.listOf vs.toArray nv) ∈ news) (hD : VotesIn vote vs news) (hj : (Dm, LCg.lst [.int mj.1 u0, .int mj.2.1 u1, .int mj.2.2 u2]) ∈ news)
  (bv : ∀ j, VoteOk (vote j)) (bj : VoteOk mj) (lv : ∀ j, j < 3 → LevOk (wordV mj) (wordV (vote j)) 6)
  (hd' : dp + 10 < recursionLimit) (hu : un + 60 < cLine)
  (hE : PassesOwn (model prog w) (lawA dp un gd L a ccd outer) (lawE L a ccd) E)
  (hnext : ∀ Dr ys h' tk', IntsAre ys [reachI vote mj 0, reachI vote mj 1, reachI vote mj 2] → Fr h₀ L h' (fun z => if z = Str.ofString "reach" then some (.ref Dr) else m z) →
    News h₀ L h' ((Dr, LCg.lst ys) :: (L + 1 + 1 + 1 + 1, o4) :: (L + 1 + 1 + 1 + 1 + 1, o5) :: news) → wpAny (model prog w) (lawA dp un gd L a ccd outer) (execs tail (lawE L a ccd)) Q E {s with heap := h', toks := tk'}) :
  wpAny (model prog w) (lawA dp un gd L a ccd outer) (execs ((fnBody lawDef).getD 15 default :: tail) (lawE L a ccd)) Q E s := by
  have hsz : vs.toArray.size = 3 := by rw [List.size_toArray]; exact hD.1
  dsimp only [lawDef, PySem.Challenge.pw_pe0144_01, fnBody, fnScope, asgExpr, lcElt, lcScope, List.getD, List.getD_eq_getElem?_getD, List.getElem?_cons_succ, List.getElem?_cons_zero, Option.getD] at hE hnext ⊢
  repeat' (first | (k_unfold; (try dsimp only)) | (k_end; wrow_close) | (with_reducible ((with_reducible show LCg.CompSrc _ _ _ _ _ _ _ _ _ _ _ _ _ _); (refine halt ?_))) | (with_reducible ((with_reducible show wpAny _ _ (exec (PySem.Stmt.Assign (_ :: _) (PySem.Expr.ListComp _ _ _ _) _) _) _ _ _); (k_here; k_dflt (refine LCg.Assign_ListComp_U (F₀ := by k_asm) (by rfl) (by with_unfolding_all rfl) (by with_unfolding_all rfl) (by decide) (by rfl) (by decide) (by rfl) (by rfl) (by rfl) ?_)))) | (with_reducible ((with_reducible show wpAny _ _ (call (Value.ref _) _) _ _ _); (refine halt ?_))) | walk1 | (dsimp only; walk1) | (leave1; walk_say "STEP leave1"; try dsimp only) | fail "no step")
  unfold Halt
  rename Fr _ _ _ _ => F9
  rename News _ _ _ _ => N9
  refine LCg.CompSrc.ledger rfl F9 N9 (.tail _ (.tail _ hV)) (by rw [hsz]; decide) fun g => ?_
  rw [hsz]
  with_unfolding_all refine' reach_rest B X T d5 hV hD hj bv bj lv hd' hu ?fin9 3 0 [] rfl .nil
  intro ys hys Dr h' tk' F' N' _
  exact hnext Dr ys h' tk' hys F' N'
end

end
section
theorem fillN20 : PySem.Challenge.rw_pe0144_01 = PySem.Challenge.rw_pe0144_01 ∧ hd.heap_1 = hd.heap_1 := by
  w_top off
  w_top off
  k_fill
  exact ⟨rfl, rfl⟩
section
variable {prog : Program} {w : World} {p : Program} {loose : List Str} {mean : ExcName → Option Value} {mg mb : Str → Option Value}
  {dp un : Nat} {gd : Option (List Code)} {a : Addr} {ccd : Value} {outer : List Env} {A₀ : Around} {base h₀ : Heap} {L : Addr} {m : Str → Option Value} {s : Shared} {E : Value → Shared → Prop} {news : List (Addr × Obj)} {tail : List Stmt} {Q : Flow → Shared → Prop}
theorem ints3_get {vs : List Value} {f : Nat → Int} (h : IntsAre vs [f 0, f 1, f 2]) : vs.toArray.size = 3 ∧ ∀ j, j < 3 → ∃ t, vs.toArray[j]? = some (.int (f j) t) := by
  cases h with
  | cons _ t0 r =>
    cases r with
    | cons _ t1 r =>
      cases r with
      | cons _ t2 r =>
        cases r
        refine ⟨rfl, fun j hj => ?_⟩
        have h3 : j = 0 ∨ j = 1 ∨ j = 2 := by omega
        rcases h3 with rfl | rfl | rfl <;> exact ⟨_, rfl⟩
theorem ints_same : ∀ ns : List Int, PySem.Spec.sameAll (ns.map PyData.int) (ns.map PyData.int) = true
  | [] => by simp [PySem.Spec.sameAll]
  | a :: r => by simp [PySem.Spec.sameAll, PySem.Spec.same, ints_same r]
theorem ints_canLay : ∀ ns : List Int, PyData.canLayAll0 (ns.map PyData.int) = true
  | [] => rfl
  | a :: r => by simp [PyData.canLayAll0, PyData.canLay0, ints_canLay r]
theorem ints_depth : ∀ ns : List Int, PyData.depthAll (ns.map PyData.int) = 0
  | [] => rfl
  | _ :: r => by simp [PyData.depthAll, PyData.depth, ints_depth r]
theorem ints_shaped (ns : List Int) : SeqAt.shaped (.list (ns.map PyData.int)) = true := by
  simp [SeqAt.shaped, PyData.canLay0, PyData.depth, ints_canLay ns, ints_depth]
theorem ne_ints {prog : Program} {w : World} {A : Around} {E : Value → Shared → Prop} {s : Shared} {a b : Addr} {xs ys : List Value} {ns : List Int} {Q : Value → Shared → Prop} (ha : s.heap.IsList a xs.toArray) (hb : s.heap.IsList b ys.toArray) (hi : IntsAre xs ns) (hj : IntsAre ys ns) (hu : A.units + 64 < cLine) (h : Q (.bool false) s) :
    wpAny (model prog w) A (compareOp .NotEq (.ref a) (.ref b)) Q E s :=
  ne_dataH_same (reads_newData ha hi.carried) (reads_newData hb hj.carried) (ints_shaped _) (ints_shaped _) hu (SeqAt.noMix_of_shape (.list .int) rfl _ _ (list_map_has fun _ => rfl) (list_map_has fun _ => rfl)) (by simp only [PySem.Spec.same]; rw [ints_same]; exact h)
theorem item_back {prog : Program} {w : World} {A : Around} {E : Value → Shared → Prop} {s : Shared} {value slice : PySem.Expr} {l : Addr} {vs : List Value} {f : Nat → Int} {i : Nat} {u : Tok} {Q : Value → Shared → Prop}
    (hl : s.heap.IsList l vs.toArray) (hi : i < 3) (hv : IntsAre vs [f 0, f 1, f 2]) (h : ∀ t, Q (.int (f ((i + 2) % 3)) t) s)
    (hs : subscripted slice false (.ref l) (.int ((i : Int) - 1) u) = operate [.ref l, .int ((i : Int) - 1) u] (getItem (.ref l) (.int ((i : Int) - 1) u)) := by with_unfolding_all rfl) :
    wpAny (model prog w) A (subscriptTail value slice (.ref l) (.int ((i : Int) - 1) u)) Q E s := by
  obtain ⟨hz, hg⟩ := ints3_get hv
  obtain ⟨t, e⟩ := hg ((i + 2) % 3) (Nat.mod_lt _ (by decide))
  refine tail_any hl.typeIs slot_list_getitem.lookup ?_ hs
  rcases Nat.eq_zero_or_pos i with rfl | g
  · exact wpAny_getItem_list_neg hl (by decide) (by rw [hz]; decide) (by decide) (by rw [hz]; exact e) (h t)
  · have e2 : ((i : Int) - 1).toNat = (i + 2) % 3 := by omega
    exact wpAny_getItem_list hl (by omega) (by omega) (by rw [e2]; exact e) (h t)
theorem last_turn {Dm Dr Pl Vl : Addr} {o4 o5 : Obj} {vs rs ps : List Value} {nv np i j : Nat} {vote : Nat → Int × Int × Int} {place reach : Nat → Int} {mj : Int × Int × Int} {u0 u1 u2 ti : Tok} {M : Str → Option Value} {R : Flow → Shared → Prop}
  (B : Below A₀ base outer h₀) (F : Fr h₀ L s.heap (fun z => if z = Str.ofString "k" then some (.int (i : Int) ti) else if z = Str.ofString "reach" then some (.ref Dr) else if z = Str.ofString "places" then some (.ref Pl) else M z)) (X : (hd.heap_1 w.params).In h₀)
  (N : News h₀ L s.heap ((L + 1 + 1 + 1 + 1, o4) :: (L + 1 + 1 + 1 + 1 + 1, o5) :: news)) (T : Top p loose mean mg mb h₀)
  (d4 : o4.data = .cell (some (.ref Vl))) (d5 : o5.data = .cell (some (.ref Dm)))
  (hP : (Pl, W.listOf ps.toArray np) ∈ news) (hRc : (Dr, LCg.lst rs) ∈ news) (hV : (Vl, W.listOf vs.toArray nv) ∈ news) (hD : VotesIn vote vs news) (hj : (Dm, LCg.lst [.int mj.1 u0, .int mj.2.1 u1, .int mj.2.2 u2]) ∈ news)
  (ip : IntsAre ps [place 0, place 1, place 2]) (ir : IntsAre rs [reach 0, reach 1, reach 2])
  (h1 : reach i + reach j = wayI (place i) (place j))
  (h2 : ([place 0, place 1, place 2].any fun x => x == 12) = false → (if (place i - place j).fmod 12 + (place ((i + 2) % 3) - place i).fmod 12 < (place i - place ((i + 2) % 3)).fmod 12 + (place j - place i).fmod 12 then (place i - place j).fmod 12 + (place ((i + 2) % 3) - place i).fmod 12 else (place i - place ((i + 2) % 3)).fmod 12 + (place j - place i).fmod 12) < 6 → mj = vote i)
  (hi : i < 3) (ei : j = (i + 1) % 3) 
  (hd' : dp + 10 < recursionLimit) (hu : un + 100 < cLine)
  (hE : PassesOwn (model prog w) (lawA dp un gd L a ccd outer) (lawE L a ccd) E)
  (hR : ∀ M' h' tk', Fr h₀ L h' M' → M' (Str.ofString "reach") = some (.ref Dr) → M' (Str.ofString "places") = some (.ref Pl) → News h₀ L h' ((L + 1 + 1 + 1 + 1, o4) :: (L + 1 + 1 + 1 + 1 + 1, o5) :: news) → R .next {s with heap := h', toks := tk'}) :
  wpAny (model prog w) (lawA dp un gd L a ccd outer) (execs (forBody ((fnBody lawDef).getD 16 default)) (lawE L a ccd)) R E s := by
  dsimp only [lawDef, PySem.Challenge.pw_pe0144_01, fnBody, fnScope, forBody, List.getD, List.getD_eq_getElem?_getD, List.getElem?_cons_succ, List.getElem?_cons_zero, Option.getD] at hE hR ⊢
  have gp := (ints3_get ip).2
  have gr := (ints3_get ir).2
  obtain ⟨_, gpi⟩ := gp i hi
  obtain ⟨_, gpj⟩ := gp j (by omega)
  obtain ⟨_, gri⟩ := gr i hi
  obtain ⟨_, grj⟩ := gr j (by omega)
  clear gp gr
  have hij : ((i : Int) + 1).fmod 3 = (j : Int) := by
    rw [Int.fmod_eq_emod_of_nonneg _ (by decide)]
    omega
  repeat' (first | (k_unfold; (try dsimp only)) | (k_end; wrow_close) | (with_reducible ((with_reducible show wpAny _ _ (compareOp CmpOp.NotEq (Value.ref _) (Value.ref _)) _ _ _); (refine halt ?_))) | (with_reducible ((with_reducible show wpAny _ _ (compareOp CmpOp.NotIn (Value.int _ _) (Value.ref _)) _ _ _); (refine halt ?_))) | (with_reducible ((with_reducible show wpAny _ _ (subscriptTail (PySem.Expr.Name _ _) (PySem.Expr.BinOp _ _ _ _) _ _) _ _ _); (refine halt ?_))) | (with_reducible ((with_reducible show wpAny _ _ (subscriptTail (PySem.Expr.Name _ _) (PySem.Expr.Name _ _) _ _) _ _ _); (refine halt ?_))) | (with_reducible ((with_reducible show wpAny _ _ (pyIter (Value.ref _)) _ _ _); (refine halt ?_))) | (with_reducible ((with_reducible show wpAny _ _ (call (Value.ref _) _) _ _ _); (refine halt ?_))) | walk1 | (dsimp only; walk1) | (leave1; walk_say "STEP leave1"; try dsimp only) | fail "no step")
  unfold Halt
  rename News _ _ _ _ => N9
  refine item_back ⟨_, (N9 _ (.tail _ (.tail _ hP))).1, rfl, _, rfl⟩ hi ip (fun tb => ?_) (by with_unfolding_all rfl)
  repeat' (first | (k_unfold; (try dsimp only)) | (k_end; wrow_close) | (with_reducible ((with_reducible show wpAny _ _ (compareOp CmpOp.NotEq (Value.ref _) (Value.ref _)) _ _ _); (refine halt ?_))) | (with_reducible ((with_reducible show wpAny _ _ (compareOp CmpOp.NotIn (Value.int _ _) (Value.ref _)) _ _ _); (refine halt ?_))) | (with_reducible ((with_reducible show wpAny _ _ (subscriptTail (PySem.Expr.Name _ _) (PySem.Expr.BinOp _ _ _ _) _ _) _ _ _); (refine halt ?_))) | (with_reducible ((with_reducible show wpAny _ _ (subscriptTail (PySem.Expr.Name _ _) (PySem.Expr.Name _ _) _ _) _ _ _); (refine halt ?_))) | (with_reducible ((with_reducible show wpAny _ _ (pyIter (Value.ref _)) _ _ _); (refine halt ?_))) | (with_reducible ((with_reducible show wpAny _ _ (call (Value.ref _) _) _ _ _); (refine halt ?_))) | walk1 | (dsimp only; walk1) | (leave1; walk_say "STEP leave1"; try dsimp only) | fail "no step")
  unfold Halt
  try dsimp only
  refine item_int (j := j) ⟨_, (N9 _ (.tail _ (.tail _ hP))).1, rfl, _, rfl⟩ hij (by omega) gpj ?_ (by with_unfolding_all rfl)
  repeat' (first | (k_unfold; (try dsimp only)) | (k_end; wrow_close) | (with_reducible ((with_reducible show wpAny _ _ (compareOp CmpOp.NotEq (Value.ref _) (Value.ref _)) _ _ _); (refine halt ?_))) | (with_reducible ((with_reducible show wpAny _ _ (compareOp CmpOp.NotIn (Value.int _ _) (Value.ref _)) _ _ _); (refine halt ?_))) | (with_reducible ((with_reducible show wpAny _ _ (subscriptTail (PySem.Expr.Name _ _) (PySem.Expr.BinOp _ _ _ _) _ _) _ _ _); (refine halt ?_))) | (with_reducible ((with_reducible show wpAny _ _ (subscriptTail (PySem.Expr.Name _ _) (PySem.Expr.Name _ _) _ _) _ _ _); (refine halt ?_))) | (with_reducible ((with_reducible show wpAny _ _ (pyIter (Value.ref _)) _ _ _); (refine halt ?_))) | (with_reducible ((with_reducible show wpAny _ _ (call (Value.ref _) _) _ _ _); (refine halt ?_))) | walk1 | (dsimp only; walk1) | (leave1; walk_say "STEP leave1"; try dsimp only) | fail "no step")
  unfold Halt
  try clear N9
  rename News _ _ _ _ => N9
  refine item_int (j := i) ⟨_, (N9 _ (.tail _ (.tail _ (.tail _ hRc)))).1, rfl, _, rfl⟩ rfl (by omega) gri ?_ (by with_unfolding_all rfl)
  repeat' (first | (k_unfold; (try dsimp only)) | (k_end; wrow_close) | (with_reducible ((with_reducible show wpAny _ _ (compareOp CmpOp.NotEq (Value.ref _) (Value.ref _)) _ _ _); (refine halt ?_))) | (with_reducible ((with_reducible show wpAny _ _ (compareOp CmpOp.NotIn (Value.int _ _) (Value.ref _)) _ _ _); (refine halt ?_))) | (with_reducible ((with_reducible show wpAny _ _ (subscriptTail (PySem.Expr.Name _ _) (PySem.Expr.BinOp _ _ _ _) _ _) _ _ _); (refine halt ?_))) | (with_reducible ((with_reducible show wpAny _ _ (subscriptTail (PySem.Expr.Name _ _) (PySem.Expr.Name _ _) _ _) _ _ _); (refine halt ?_))) | (with_reducible ((with_reducible show wpAny _ _ (pyIter (Value.ref _)) _ _ _); (refine halt ?_))) | (with_reducible ((with_reducible show wpAny _ _ (call (Value.ref _) _) _ _ _); (refine halt ?_))) | walk1 | (dsimp only; walk1) | (leave1; walk_say "STEP leave1"; try dsimp only) | fail "no step")
  unfold Halt
  try dsimp only
  refine item_int (j := j) ⟨_, (N9 _ (.tail _ (.tail _ (.tail _ hRc)))).1, rfl, _, rfl⟩ hij (by omega) grj ?_ (by with_unfolding_all rfl)
  repeat' (first | (k_unfold; (try dsimp only)) | (k_end; wrow_close) | (with_reducible ((with_reducible show wpAny _ _ (compareOp CmpOp.NotEq (Value.ref _) (Value.ref _)) _ _ _); (refine halt ?_))) | (with_reducible ((with_reducible show wpAny _ _ (compareOp CmpOp.NotIn (Value.int _ _) (Value.ref _)) _ _ _); (refine halt ?_))) | (with_reducible ((with_reducible show wpAny _ _ (subscriptTail (PySem.Expr.Name _ _) (PySem.Expr.BinOp _ _ _ _) _ _) _ _ _); (refine halt ?_))) | (with_reducible ((with_reducible show wpAny _ _ (subscriptTail (PySem.Expr.Name _ _) (PySem.Expr.Name _ _) _ _) _ _ _); (refine halt ?_))) | (with_reducible ((with_reducible show wpAny _ _ (pyIter (Value.ref _)) _ _ _); (refine halt ?_))) | (with_reducible ((with_reducible show wpAny _ _ (call (Value.ref _) _) _ _ _); (refine halt ?_))) | walk1 | (dsimp only; walk1) | (leave1; walk_say "STEP leave1"; try dsimp only) | fail "no step")
  unfold Halt
  try dsimp only
  refine item_int (j := i) ⟨_, (N9 _ (.tail _ (.tail _ (.tail _ hP)))).1, rfl, _, rfl⟩ rfl (by omega) gpi ?_ (by with_unfolding_all rfl)
  repeat' (first | (k_unfold; (try dsimp only)) | (k_end; wrow_close) | (with_reducible ((with_reducible show wpAny _ _ (compareOp CmpOp.NotEq (Value.ref _) (Value.ref _)) _ _ _); (refine halt ?_))) | (with_reducible ((with_reducible show wpAny _ _ (compareOp CmpOp.NotIn (Value.int _ _) (Value.ref _)) _ _ _); (refine halt ?_))) | (with_reducible ((with_reducible show wpAny _ _ (subscriptTail (PySem.Expr.Name _ _) (PySem.Expr.BinOp _ _ _ _) _ _) _ _ _); (refine halt ?_))) | (with_reducible ((with_reducible show wpAny _ _ (subscriptTail (PySem.Expr.Name _ _) (PySem.Expr.Name _ _) _ _) _ _ _); (refine halt ?_))) | (with_reducible ((with_reducible show wpAny _ _ (pyIter (Value.ref _)) _ _ _); (refine halt ?_))) | (with_reducible ((with_reducible show wpAny _ _ (call (Value.ref _) _) _ _ _); (refine halt ?_))) | walk1 | (dsimp only; walk1) | (leave1; walk_say "STEP leave1"; try dsimp only) | fail "no step")
  unfold Halt
  rename Fr _ _ _ _ => F9
  refine way_spec B F9 X N9 T rfl (by omega) (by omega) fun t' h' tk' F' N' => ?_
  (try clear N9); (try clear F9)
  rw [h1]
  repeat' (first | (k_unfold; (try dsimp only)) | (k_end; wrow_close) | (with_reducible ((with_reducible show wpAny _ _ (compareOp CmpOp.NotEq (Value.ref _) (Value.ref _)) _ _ _); (refine halt ?_))) | (with_reducible ((with_reducible show wpAny _ _ (compareOp CmpOp.NotIn (Value.int _ _) (Value.ref _)) _ _ _); (refine halt ?_))) | (with_reducible ((with_reducible show wpAny _ _ (subscriptTail (PySem.Expr.Name _ _) (PySem.Expr.BinOp _ _ _ _) _ _) _ _ _); (refine halt ?_))) | (with_reducible ((with_reducible show wpAny _ _ (subscriptTail (PySem.Expr.Name _ _) (PySem.Expr.Name _ _) _ _) _ _ _); (refine halt ?_))) | (with_reducible ((with_reducible show wpAny _ _ (pyIter (Value.ref _)) _ _ _); (refine halt ?_))) | (with_reducible ((with_reducible show wpAny _ _ (call (Value.ref _) _) _ _ _); (refine halt ?_))) | walk1 | (dsimp only; walk1) | (leave1; walk_say "STEP leave1"; try dsimp only) | fail "no step")
  · exact absurd rfl (by assumption)
  unfold Halt
  rename News _ _ _ _ => N9
  refine notin_list_ints ⟨_, (N9 _ (.tail _ (.tail _ (.tail _ hP)))).1, rfl, _, rfl⟩ ip ?_
  cases hb12 : ([place 0, place 1, place 2].any fun x => x == 12) with
  | true =>
    repeat' (first | (k_unfold; (try dsimp only)) | (k_end; wrow_close) | (with_reducible ((with_reducible show wpAny _ _ (compareOp CmpOp.NotEq (Value.ref _) (Value.ref _)) _ _ _); (refine halt ?_))) | (with_reducible ((with_reducible show wpAny _ _ (compareOp CmpOp.NotIn (Value.int _ _) (Value.ref _)) _ _ _); (refine halt ?_))) | (with_reducible ((with_reducible show wpAny _ _ (subscriptTail (PySem.Expr.Name _ _) (PySem.Expr.BinOp _ _ _ _) _ _) _ _ _); (refine halt ?_))) | (with_reducible ((with_reducible show wpAny _ _ (subscriptTail (PySem.Expr.Name _ _) (PySem.Expr.Name _ _) _ _) _ _ _); (refine halt ?_))) | (with_reducible ((with_reducible show wpAny _ _ (pyIter (Value.ref _)) _ _ _); (refine halt ?_))) | (with_reducible ((with_reducible show wpAny _ _ (call (Value.ref _) _) _ _ _); (refine halt ?_))) | walk1 | (dsimp only; walk1) | (leave1; walk_say "STEP leave1"; try dsimp only) | fail "no step")
    rename Fr _ _ _ _ => F9
    try (rename News _ _ _ _ => N9)
    exact hR _ _ _ F9 rfl rfl (news_tail N9)
  | false =>
    repeat' (first | (k_unfold; (try dsimp only)) | (k_end; wrow_close) | (with_reducible ((with_reducible show wpAny _ _ (compareOp CmpOp.NotEq (Value.ref _) (Value.ref _)) _ _ _); (refine halt ?_))) | (with_reducible ((with_reducible show wpAny _ _ (compareOp CmpOp.NotIn (Value.int _ _) (Value.ref _)) _ _ _); (refine halt ?_))) | (with_reducible ((with_reducible show wpAny _ _ (subscriptTail (PySem.Expr.Name _ _) (PySem.Expr.BinOp _ _ _ _) _ _) _ _ _); (refine halt ?_))) | (with_reducible ((with_reducible show wpAny _ _ (subscriptTail (PySem.Expr.Name _ _) (PySem.Expr.Name _ _) _ _) _ _ _); (refine halt ?_))) | (with_reducible ((with_reducible show wpAny _ _ (pyIter (Value.ref _)) _ _ _); (refine halt ?_))) | (with_reducible ((with_reducible show wpAny _ _ (call (Value.ref _) _) _ _ _); (refine halt ?_))) | walk1 | (dsimp only; walk1) | (leave1; walk_say "STEP leave1"; try dsimp only) | fail "no step")
    unfold Halt
    try dsimp only
    refine item_int (j := i) ⟨_, (N9 _ (.tail _ (.tail _ (.tail _ hP)))).1, rfl, _, rfl⟩ rfl (by omega) gpi ?_ (by with_unfolding_all rfl)
    repeat' (first | (k_unfold; (try dsimp only)) | (k_end; wrow_close) | (with_reducible ((with_reducible show wpAny _ _ (compareOp CmpOp.NotEq (Value.ref _) (Value.ref _)) _ _ _); (refine halt ?_))) | (with_reducible ((with_reducible show wpAny _ _ (compareOp CmpOp.NotIn (Value.int _ _) (Value.ref _)) _ _ _); (refine halt ?_))) | (with_reducible ((with_reducible show wpAny _ _ (subscriptTail (PySem.Expr.Name _ _) (PySem.Expr.BinOp _ _ _ _) _ _) _ _ _); (refine halt ?_))) | (with_reducible ((with_reducible show wpAny _ _ (subscriptTail (PySem.Expr.Name _ _) (PySem.Expr.Name _ _) _ _) _ _ _); (refine halt ?_))) | (with_reducible ((with_reducible show wpAny _ _ (pyIter (Value.ref _)) _ _ _); (refine halt ?_))) | (with_reducible ((with_reducible show wpAny _ _ (call (Value.ref _) _) _ _ _); (refine halt ?_))) | walk1 | (dsimp only; walk1) | (leave1; walk_say "STEP leave1"; try dsimp only) | fail "no step")
    unfold Halt
    try dsimp only
    refine item_int (j := i) ⟨_, (N9 _ (.tail _ (.tail _ (.tail _ hP)))).1, rfl, _, rfl⟩ rfl (by omega) gpi ?_ (by with_unfolding_all rfl)
    repeat' (first | (k_unfold; (try dsimp only)) | (k_end; wrow_close) | (with_reducible ((with_reducible show wpAny _ _ (compareOp CmpOp.NotEq (Value.ref _) (Value.ref _)) _ _ _); (refine halt ?_))) | (with_reducible ((with_reducible show wpAny _ _ (compareOp CmpOp.NotIn (Value.int _ _) (Value.ref _)) _ _ _); (refine halt ?_))) | (with_reducible ((with_reducible show wpAny _ _ (subscriptTail (PySem.Expr.Name _ _) (PySem.Expr.BinOp _ _ _ _) _ _) _ _ _); (refine halt ?_))) | (with_reducible ((with_reducible show wpAny _ _ (subscriptTail (PySem.Expr.Name _ _) (PySem.Expr.Name _ _) _ _) _ _ _); (refine halt ?_))) | (with_reducible ((with_reducible show wpAny _ _ (pyIter (Value.ref _)) _ _ _); (refine halt ?_))) | (with_reducible ((with_reducible show wpAny _ _ (call (Value.ref _) _) _ _ _); (refine halt ?_))) | walk1 | (dsimp only; walk1) | (leave1; walk_say "STEP leave1"; try dsimp only) | fail "no step")
    unfold Halt
    rename News _ _ _ _ => N8
    try dsimp only
    refine item_int (j := i) ⟨_, (N8 _ (.tail _ (.tail _ (.tail _ hP)))).1, rfl, _, rfl⟩ rfl (by omega) gpi ?_ (by with_unfolding_all rfl)
    repeat' (first | (k_unfold; (try dsimp only)) | (k_end; wrow_close) | (with_reducible ((with_reducible show wpAny _ _ (compareOp CmpOp.NotEq (Value.ref _) (Value.ref _)) _ _ _); (refine halt ?_))) | (with_reducible ((with_reducible show wpAny _ _ (compareOp CmpOp.NotIn (Value.int _ _) (Value.ref _)) _ _ _); (refine halt ?_))) | (with_reducible ((with_reducible show wpAny _ _ (subscriptTail (PySem.Expr.Name _ _) (PySem.Expr.BinOp _ _ _ _) _ _) _ _ _); (refine halt ?_))) | (with_reducible ((with_reducible show wpAny _ _ (subscriptTail (PySem.Expr.Name _ _) (PySem.Expr.Name _ _) _ _) _ _ _); (refine halt ?_))) | (with_reducible ((with_reducible show wpAny _ _ (pyIter (Value.ref _)) _ _ _); (refine halt ?_))) | (with_reducible ((with_reducible show wpAny _ _ (call (Value.ref _) _) _ _ _); (refine halt ?_))) | walk1 | (dsimp only; walk1) | (leave1; walk_say "STEP leave1"; try dsimp only) | fail "no step")
    unfold Halt
    try dsimp only
    refine item_int (j := i) ⟨_, (N8 _ (.tail _ (.tail _ (.tail _ hP)))).1, rfl, _, rfl⟩ rfl (by omega) gpi ?_ (by with_unfolding_all rfl)
    try dsimp only
    repeat' (first | (k_unfold; (try dsimp only)) | (k_end; wrow_close) | (with_reducible ((with_reducible show wpAny _ _ (compareOp CmpOp.NotEq (Value.ref _) (Value.ref _)) _ _ _); (refine halt ?_))) | (with_reducible ((with_reducible show wpAny _ _ (compareOp CmpOp.NotIn (Value.int _ _) (Value.ref _)) _ _ _); (refine halt ?_))) | (with_reducible ((with_reducible show wpAny _ _ (subscriptTail (PySem.Expr.Name _ _) (PySem.Expr.BinOp _ _ _ _) _ _) _ _ _); (refine halt ?_))) | (with_reducible ((with_reducible show wpAny _ _ (subscriptTail (PySem.Expr.Name _ _) (PySem.Expr.Name _ _) _ _) _ _ _); (refine halt ?_))) | (with_reducible ((with_reducible show wpAny _ _ (pyIter (Value.ref _)) _ _ _); (refine halt ?_))) | (with_reducible ((with_reducible show wpAny _ _ (call (Value.ref _) _) _ _ _); (refine halt ?_))) | walk1 | (dsimp only; walk1) | (leave1; walk_say "STEP leave1"; try dsimp only) | fail "no step")
    · unfold Halt
      have e := h2 hb12 (by assumption)
      subst e
      rename News _ _ _ _ => N7
      have hvi : vs.toArray[i]? = some (vs[i]'(by rw [hD.1]; exact hi)) := by rw [List.getElem?_toArray]; exact List.getElem?_eq_getElem _
      obtain ⟨Dv, v0, v1, v2, ev, hm⟩ := hD.2 i _ (List.getElem?_eq_getElem (by rw [hD.1]; exact hi))
      rw [ev] at hvi
      try dsimp only
      refine item_int (j := i) ⟨_, (N7 _ (.tail _ (.tail _ (.tail _ hV)))).1, rfl, _, rfl⟩ rfl (by omega) hvi ?_ (by with_unfolding_all rfl)
      repeat' (first | (k_unfold; (try dsimp only)) | (k_end; wrow_close) | (with_reducible ((with_reducible show wpAny _ _ (compareOp CmpOp.NotEq (Value.ref _) (Value.ref _)) _ _ _); (refine halt ?_))) | (with_reducible ((with_reducible show wpAny _ _ (compareOp CmpOp.NotIn (Value.int _ _) (Value.ref _)) _ _ _); (refine halt ?_))) | (with_reducible ((with_reducible show wpAny _ _ (subscriptTail (PySem.Expr.Name _ _) (PySem.Expr.BinOp _ _ _ _) _ _) _ _ _); (refine halt ?_))) | (with_reducible ((with_reducible show wpAny _ _ (subscriptTail (PySem.Expr.Name _ _) (PySem.Expr.Name _ _) _ _) _ _ _); (refine halt ?_))) | (with_reducible ((with_reducible show wpAny _ _ (pyIter (Value.ref _)) _ _ _); (refine halt ?_))) | (with_reducible ((with_reducible show wpAny _ _ (call (Value.ref _) _) _ _ _); (refine halt ?_))) | walk1 | (dsimp only; walk1) | (leave1; walk_say "STEP leave1"; try dsimp only) | fail "no step")
      unfold Halt
      try dsimp only
      refine ne_ints ⟨_, (N7 _ (.tail _ (.tail _ (.tail _ hj)))).1, rfl, _, rfl⟩ ⟨_, (N7 _ (.tail _ (.tail _ (.tail _ hm)))).1, rfl, _, rfl⟩ (.cons _ _ (.cons _ _ (.cons _ _ .nil))) (.cons _ _ (.cons _ _ (.cons _ _ .nil))) (by units_room) ?_
      repeat' (first | (k_unfold; (try dsimp only)) | (k_end; wrow_close) | (with_reducible ((with_reducible show wpAny _ _ (compareOp CmpOp.NotEq (Value.ref _) (Value.ref _)) _ _ _); (refine halt ?_))) | (with_reducible ((with_reducible show wpAny _ _ (compareOp CmpOp.NotIn (Value.int _ _) (Value.ref _)) _ _ _); (refine halt ?_))) | (with_reducible ((with_reducible show wpAny _ _ (subscriptTail (PySem.Expr.Name _ _) (PySem.Expr.BinOp _ _ _ _) _ _) _ _ _); (refine halt ?_))) | (with_reducible ((with_reducible show wpAny _ _ (subscriptTail (PySem.Expr.Name _ _) (PySem.Expr.Name _ _) _ _) _ _ _); (refine halt ?_))) | (with_reducible ((with_reducible show wpAny _ _ (pyIter (Value.ref _)) _ _ _); (refine halt ?_))) | (with_reducible ((with_reducible show wpAny _ _ (call (Value.ref _) _) _ _ _); (refine halt ?_))) | walk1 | (dsimp only; walk1) | (leave1; walk_say "STEP leave1"; try dsimp only) | fail "no step")
      rename Fr _ _ _ _ => F9
      try dsimp only
      exact hR _ _ _ F9 rfl rfl (news_tail N7)
    · rename Fr _ _ _ _ => F9
      rename News _ _ _ _ => N7
      try dsimp only
      exact hR _ _ _ F9 rfl rfl (news_tail N7)
end

end
section
theorem fillN21 : PySem.Challenge.rw_pe0144_01 = PySem.Challenge.rw_pe0144_01 ∧ hd.heap_1 = hd.heap_1 := by
  w_top off
  w_top off
  k_fill
  exact ⟨rfl, rfl⟩
section
variable {prog : Program} {w : World} {p : Program} {loose : List Str} {mean : ExcName → Option Value} {mg mb : Str → Option Value}
  {dp un : Nat} {gd : Option (List Code)} {a : Addr} {ccd : Value} {outer : List Env} {A₀ : Around} {base h₀ : Heap} {L : Addr} {m : Str → Option Value} {s : Shared} {E : Value → Shared → Prop} {news : List (Addr × Obj)} {tail : List Stmt} {Q : Flow → Shared → Prop}
theorem VotesIn.more {vote : Nat → Int × Int × Int} {vs : List Value} {own : List (Addr × Obj)} (h : VotesIn vote vs news) : VotesIn vote vs (news ++ own) :=
  ⟨h.1, fun i v hv => let ⟨Dv, t0, t1, t2, e, hm⟩ := h.2 i v hv; ⟨Dv, t0, t1, t2, e, List.mem_append_left _ hm⟩⟩
/-- what the last loop asks of places, distances and the majority -/
structure LastOk (vote : Nat → Int × Int × Int) (place reach : Nat → Int) (mj : Int × Int × Int) (i j : Nat) : Prop where
  h1 : reach i + reach j = wayI (place i) (place j)
  h2 : ([place 0, place 1, place 2].any fun x => x == 12) = false → (if (place i - place j).fmod 12 + (place ((i + 2) % 3) - place i).fmod 12 < (place i - place ((i + 2) % 3)).fmod 12 + (place j - place i).fmod 12 then (place i - place j).fmod 12 + (place ((i + 2) % 3) - place i).fmod 12 else (place i - place ((i + 2) % 3)).fmod 12 + (place j - place i).fmod 12) < 6 → mj = vote i
theorem law_last {Dm Dr Pl Vl : Addr} {o4 o5 : Obj} {vs rs ps : List Value} {nv np : Nat} {vote : Nat → Int × Int × Int} {place reach : Nat → Int} {mj : Int × Int × Int} {u0 u1 u2 : Tok} {M : Str → Option Value}
  (B : Below A₀ base outer h₀) (F : Fr h₀ L s.heap M) (X : (hd.heap_1 w.params).In h₀)
  (N : News h₀ L s.heap ((L + 1 + 1 + 1 + 1, o4) :: (L + 1 + 1 + 1 + 1 + 1, o5) :: news)) (T : Top p loose mean mg mb h₀)
  (d4 : o4.data = .cell (some (.ref Vl))) (d5 : o5.data = .cell (some (.ref Dm)))
  (hP : (Pl, W.listOf ps.toArray np) ∈ news) (hRc : (Dr, LCg.lst rs) ∈ news) (hV : (Vl, W.listOf vs.toArray nv) ∈ news) (hD : VotesIn vote vs news) (hj : (Dm, LCg.lst [.int mj.1 u0, .int mj.2.1 u1, .int mj.2.2 u2]) ∈ news)
  (ip : IntsAre ps [place 0, place 1, place 2]) (ir : IntsAre rs [reach 0, reach 1, reach 2]) (ok : ∀ i, i < 3 → LastOk vote place reach mj i ((i + 1) % 3))
  (hM1 : M (Str.ofString "reach") = some (.ref Dr)) (hM2 : M (Str.ofString "places") = some (.ref Pl))
  (hd' : dp + 10 < recursionLimit) (hu : un + 100 < cLine)
  (hE : PassesOwn (model prog w) (lawA dp un gd L a ccd outer) (lawE L a ccd) E)
  (hnext : ∀ M' h' tk', M' (Str.ofString "places") = some (.ref Pl) → Fr h₀ L h' M' → News h₀ L h' ((L + 1 + 1 + 1 + 1, o4) :: (L + 1 + 1 + 1 + 1 + 1, o5) :: news) → wpAny (model prog w) (lawA dp un gd L a ccd outer) (execs tail (lawE L a ccd)) Q E {s with heap := h', toks := tk'}) :
  wpAny (model prog w) (lawA dp un gd L a ccd outer) (execs ((fnBody lawDef).getD 16 default :: tail) (lawE L a ccd)) Q E s := by
  have loop : ∀ (s : Shared) (r : Addr) (t₀ u₀ v₀ : Tok) (_ : IsRange s.heap r 0 ((3 : Nat) : Int) 1 t₀ u₀ v₀) (_ : Fr h₀ L s.heap M) (_ : News h₀ L s.heap ((L + 1 + 1 + 1 + 1, o4) :: (L + 1 + 1 + 1 + 1 + 1, o5) :: news)) (Q' : Flow → Shared → Prop)
      (_ : ∀ M' h' tk', M' (Str.ofString "places") = some (.ref Pl) → Fr h₀ L h' M' → News h₀ L h' ((L + 1 + 1 + 1 + 1, o4) :: (L + 1 + 1 + 1 + 1 + 1, o5) :: news) → Q' .next {s with heap := h', toks := tk'}),
      wpAny (model prog w) (lawA dp un gd L a ccd outer) (pyIter (.ref r)) (fun it s₂ => LoopAtV prog w (lawA dp un gd L a ccd outer) h₀ (lawE L a ccd) (Str.ofString "k") (forBody ((fnBody lawDef).getD 16 default)) Q' E it s₂) E s := by
    intro s r t₀ u₀ v₀ hr F N Q' done
    refine range_turns (n := 3) (fun i m nx => nx = (L + 1 + 1 + 1 + 1, o4) :: (L + 1 + 1 + 1 + 1 + 1, o5) :: news ∧ m (Str.ofString "reach") = some (.ref Dr) ∧ m (Str.ofString "places") = some (.ref Pl))
      rfl hr (by decide) F N ⟨rfl, hM1, hM2⟩ ?_ ?_
    · rintro i t m₁ nx h tk own hi off ⟨rfl, g1, g2⟩ F' N'
      refine last_turn (s := { s with heap := h, toks := tk }) (news := news ++ own) B (fr_k2 F' g1 g2) X N' T d4 d5 (List.mem_append_left _ hP) (List.mem_append_left _ hRc) (List.mem_append_left _ hV) hD.more (List.mem_append_left _ hj) ip ir (ok i hi).h1 (ok i hi).h2 hi rfl hd' hu hE fun M' h' tk' F2 q1 q2 N2 => ?_
      exact ⟨h', tk', M', _, (L + 1 + 1 + 1 + 1, o4) :: (L + 1 + 1 + 1 + 1 + 1, o5) :: news, rfl, F2, N2, fun p hp => List.mem_append_left own hp, fun p hp => List.mem_append_right ((L + 1 + 1 + 1 + 1, o4) :: (L + 1 + 1 + 1 + 1 + 1, o5) :: news) hp, rfl, rfl, q1, q2⟩
    · rintro m₁ nx h tk ⟨rfl, g1, g2⟩ F' N'
      exact done m₁ h tk g2 F' N'
  dsimp only [lawDef, PySem.Challenge.pw_pe0144_01, fnBody, fnScope, forBody, List.getD, List.getD_eq_getElem?_getD, List.getElem?_cons_succ, List.getElem?_cons_zero, Option.getD] at hE hnext loop ⊢
  repeat' (first | (k_unfold; (try dsimp only)) | (k_end; wrow_close) | (with_reducible ((with_reducible show wpAny _ _ (exec (PySem.Stmt.For (PySem.Expr.Name _ _) (PySem.Expr.Call _ _ _ _) (_ :: _) [] _) _) _ _ _); (k_here; (rename Fr _ _ _ _ => lFzq'); (with_unfolding_all refine' For_invVF lFzq' ?k1zq68 ?k2zq68 ?_ ?k3zq68 ?k4zq68; (case k1zq68 => exact rfl); (case k2zq68 => exact rfl); (case k3zq68 => (intro _; rfl)); (case k4zq68 => assumption); k_whole)))) | (with_reducible ((with_reducible show wpAny _ _ (pyIter (Value.ref _)) _ _ _); (refine halt ?_))) | walk1 | (dsimp only; walk1) | (leave1; walk_say "STEP leave1"; try dsimp only) | fail "no step")
  unfold Halt
  rename Fr _ _ _ _ => F9
  rename News _ _ _ _ => N9
  rename IsRange _ _ _ _ _ _ _ _ => R9
  with_unfolding_all refine' loop _ _ _ _ _ R9 F9 N9 _ ?dd9
  intro M' h' tk' g2 F' N'
  exact hnext M' h' tk' g2 F' N'
end

end
section
theorem fillN22 : PySem.Challenge.rw_pe0144_01 = PySem.Challenge.rw_pe0144_01 ∧ hd.heap_1 = hd.heap_1 := by
  w_top off
  w_top off
  k_fill
  exact ⟨rfl, rfl⟩
section
variable {prog : Program} {w : World} {p : Program} {loose : List Str} {mean : ExcName → Option Value} {mg mb : Str → Option Value}
  {dp un : Nat} {gd : Option (List Code)} {a : Addr} {ccd : Value} {outer : List Env} {A₀ : Around} {base h₀ : Heap} {L : Addr} {m : Str → Option Value} {s : Shared} {E : Value → Shared → Prop} {news : List (Addr × Obj)} {tail : List Stmt} {Q : Flow → Shared → Prop}
theorem ints_beq : ∀ ns ms : List Int, PySem.Spec.sameAll (ns.map PyData.int) (ms.map PyData.int) = (ns == ms)
  | [], [] => by simp [PySem.Spec.sameAll]
  | [], _ :: _ => by simp [PySem.Spec.sameAll]
  | _ :: _, [] => by simp [PySem.Spec.sameAll]
  | a :: r, b :: q => by simp [PySem.Spec.sameAll, PySem.Spec.same, ints_beq r q]
theorem eq_ints {prog : Program} {w : World} {A : Around} {E : Value → Shared → Prop} {s : Shared} {a b : Addr} {xs ys : List Value} {ns ms : List Int} {Q : Value → Shared → Prop} (ha : s.heap.IsList a xs.toArray) (hb : s.heap.IsList b ys.toArray) (hi : IntsAre xs ns) (hj : IntsAre ys ms) (hu : A.units + 64 < cLine) (h : Q (.bool (ns == ms)) s) :
    wpAny (model prog w) A (compareOp .Eq (.ref a) (.ref b)) Q E s :=
  eq_dataH_same (reads_newData ha hi.carried) (reads_newData hb hj.carried) (ints_shaped _) (ints_shaped _) hu (SeqAt.noMix_of_shape (.list .int) rfl _ _ (list_map_has fun _ => rfl) (list_map_has fun _ => rfl)) (by simp only [PySem.Spec.same]; rw [ints_beq]; exact h)
theorem law_ring {Dm Pl : Addr} {o4 o5 : Obj} {mj : Int × Int × Int} {u0 u1 u2 : Tok} {M : Str → Option Value}
  (B : Below A₀ base outer h₀) (F : Fr h₀ L s.heap (fun z => if z = Str.ofString "places" then some (.ref Pl) else M z)) (X : (hd.heap_1 w.params).In h₀)
  (N : News h₀ L s.heap ((L + 1 + 1 + 1 + 1, o4) :: (L + 1 + 1 + 1 + 1 + 1, o5) :: news)) (T : Top p loose mean mg mb h₀)
  (d5 : o5.data = .cell (some (.ref Dm))) (hj : (Dm, LCg.lst [.int mj.1 u0, .int mj.2.1 u1, .int mj.2.2 u2]) ∈ news)
  (hd' : dp + 10 < recursionLimit) (hu : un + 100 < cLine)
  (hE : PassesOwn (model prog w) (lawA dp un gd L a ccd outer) (lawE L a ccd) E)
  (hnext : ∀ h' tk', Fr h₀ L h' (fun z => if z = Str.ofString "ring" then some (.bool (([mj.1, mj.2.1, mj.2.2] == [2, 2, 2]) || ([mj.1, mj.2.1, mj.2.2] == [0, 0, 0]))) else if z = Str.ofString "places" then some (.ref Pl) else M z) →
    News h₀ L h' ((L + 1 + 1 + 1 + 1, o4) :: (L + 1 + 1 + 1 + 1 + 1, o5) :: news) → wpAny (model prog w) (lawA dp un gd L a ccd outer) (execs tail (lawE L a ccd)) Q E {s with heap := h', toks := tk'}) :
  wpAny (model prog w) (lawA dp un gd L a ccd outer) (execs ((fnBody lawDef).getD 17 default :: tail) (lawE L a ccd)) Q E s := by
  dsimp only [lawDef, PySem.Challenge.pw_pe0144_01, fnBody, fnScope, List.getD, List.getD_eq_getElem?_getD, List.getElem?_cons_succ, List.getElem?_cons_zero, Option.getD] at hE hnext ⊢
  repeat' (first | (k_unfold; (try dsimp only)) | (k_end; wrow_close) | (with_reducible ((with_reducible show wpAny _ _ (call (Value.builtin "sorted") _) _ _ _); (refine halt ?_))) | (with_reducible ((with_reducible show wpAny _ _ (compareOp CmpOp.In (Value.ref _) (Value.ref _)) _ _ _); (refine halt ?_))) | (with_reducible ((with_reducible show wpAny _ _ (compareOp CmpOp.Eq (Value.ref _) (Value.ref _)) _ _ _); (refine halt ?_))) | walk1 | (dsimp only; walk1) | (leave1; walk_say "STEP leave1"; try dsimp only) | fail "no step")
  unfold Halt
  dsimp only
  rename News _ _ _ _ => N9
  refine eq_ints (ns := [mj.1, mj.2.1, mj.2.2]) (ms := [2, 2, 2]) ⟨_, (N9 _ (.tail _ (.tail _ (.tail _ hj)))).1, rfl, _, rfl⟩ ⟨_, (N9 _ (.head _)).1, rfl, _, rfl⟩ (.cons _ _ (.cons _ _ (.cons _ _ .nil))) (.cons _ _ (.cons _ _ (.cons _ _ .nil))) (by units_room) ?_
  cases ha : ([mj.1, mj.2.1, mj.2.2] == [2, 2, 2]) with
  | true =>
    rw [ha] at hnext
    repeat' (first | (k_unfold; (try dsimp only)) | (k_end; wrow_close) | (with_reducible ((with_reducible show wpAny _ _ (call (Value.builtin "sorted") _) _ _ _); (refine halt ?_))) | (with_reducible ((with_reducible show wpAny _ _ (compareOp CmpOp.In (Value.ref _) (Value.ref _)) _ _ _); (refine halt ?_))) | (with_reducible ((with_reducible show wpAny _ _ (compareOp CmpOp.Eq (Value.ref _) (Value.ref _)) _ _ _); (refine halt ?_))) | walk1 | (dsimp only; walk1) | (leave1; walk_say "STEP leave1"; try dsimp only) | fail "no step")
    rename Fr _ _ _ _ => F9
    rename News _ _ _ _ => N8
    exact hnext _ _ F9 (news_tail N8)
  | false =>
    rw [ha, Bool.false_or] at hnext
    repeat' (first | (k_unfold; (try dsimp only)) | (k_end; wrow_close) | (with_reducible ((with_reducible show wpAny _ _ (call (Value.builtin "sorted") _) _ _ _); (refine halt ?_))) | (with_reducible ((with_reducible show wpAny _ _ (compareOp CmpOp.In (Value.ref _) (Value.ref _)) _ _ _); (refine halt ?_))) | (with_reducible ((with_reducible show wpAny _ _ (compareOp CmpOp.Eq (Value.ref _) (Value.ref _)) _ _ _); (refine halt ?_))) | walk1 | (dsimp only; walk1) | (leave1; walk_say "STEP leave1"; try dsimp only) | fail "no step")
    unfold Halt
    dsimp only
    rename News _ _ _ _ => N8
    refine eq_ints (ns := [mj.1, mj.2.1, mj.2.2]) (ms := [0, 0, 0]) ⟨_, (N8 _ (.tail _ (.tail _ (.tail _ (.tail _ hj))))).1, rfl, _, rfl⟩ ⟨_, (N8 _ (.head _)).1, rfl, _, rfl⟩ (.cons _ _ (.cons _ _ (.cons _ _ .nil))) (.cons _ _ (.cons _ _ (.cons _ _ .nil))) (by units_room) ?_
    repeat' (first | (k_unfold; (try dsimp only)) | (k_end; wrow_close) | (with_reducible ((with_reducible show wpAny _ _ (call (Value.builtin "sorted") _) _ _ _); (refine halt ?_))) | (with_reducible ((with_reducible show wpAny _ _ (compareOp CmpOp.In (Value.ref _) (Value.ref _)) _ _ _); (refine halt ?_))) | (with_reducible ((with_reducible show wpAny _ _ (compareOp CmpOp.Eq (Value.ref _) (Value.ref _)) _ _ _); (refine halt ?_))) | walk1 | (dsimp only; walk1) | (leave1; walk_say "STEP leave1"; try dsimp only) | fail "no step")
    rename Fr _ _ _ _ => F9
    rename News _ _ _ _ => N7
    exact hnext _ _ F9 (news_tail (news_tail N7))
end

end
section
theorem fillN23 : PySem.Challenge.rw_pe0144_01 = PySem.Challenge.rw_pe0144_01 ∧ hd.heap_1 = hd.heap_1 := by
  w_top off
  w_top off
  k_fill
  exact ⟨rfl, rfl⟩
section
variable {prog : Program} {w : World} {p : Program} {loose : List Str} {mean : ExcName → Option Value} {mg mb : Str → Option Value}
  {dp un : Nat} {gd : Option (List Code)} {a : Addr} {ccd : Value} {outer : List Env} {A₀ : Around} {base h₀ : Heap} {L : Addr} {m : Str → Option Value} {s : Shared} {E : Value → Shared → Prop} {news : List (Addr × Obj)} {tail : List Stmt} {Q : Flow → Shared → Prop}
theorem eqv_ints (ns ms : List Int) : PyData.eqv (.list (ns.map .int)) (.list (ms.map .int)) = (ns == ms) := by
  rw [← SeqAt.same_eq_eqv _ _ (SeqAt.noMix_of_shape (.list .int) rfl _ _ (list_map_has fun _ => rfl) (list_map_has fun _ => rfl))]
  simp only [PySem.Spec.same]
  exact ints_beq ns ms
theorem law_ret {Pl : Addr} {o4 o5 : Obj} {ps : List Value} {np : Nat} {place : Nat → Int} {rg : Bool} {M : Str → Option Value}
  (B : Below A₀ base outer h₀) (F : Fr h₀ L s.heap (fun z => if z = Str.ofString "ring" then some (.bool rg) else if z = Str.ofString "places" then some (.ref Pl) else M z)) (X : (hd.heap_1 w.params).In h₀)
  (N : News h₀ L s.heap ((L + 1 + 1 + 1 + 1, o4) :: (L + 1 + 1 + 1 + 1 + 1, o5) :: news)) (T : Top p loose mean mg mb h₀)
  (hP : (Pl, W.listOf ps.toArray np) ∈ news) (ip : IntsAre ps [place 0, place 1, place 2])
  (hr : ∀ ns : List Int, ns.Perm [place 0, place 1, place 2] → ns.Pairwise (· ≤ ·) → rg = ([[1, 5, 9], [3, 7, 11]].any fun y => y == ns))
  (hd' : dp + 10 < recursionLimit) (hu : un + 100 < cLine)
  (hE : PassesOwn (model prog w) (lawA dp un gd L a ccd outer) (lawE L a ccd) E)
  (hnext : ∀ M' h' tk', Fr h₀ L h' M' → News h₀ L h' ((L + 1 + 1 + 1 + 1, o4) :: (L + 1 + 1 + 1 + 1 + 1, o5) :: news) → Q (.ret (.bool true)) {s with heap := h', toks := tk'}) :
  wpAny (model prog w) (lawA dp un gd L a ccd outer) (execs [(fnBody lawDef).getD 18 default] (lawE L a ccd)) Q E s := by
  dsimp only [lawDef, PySem.Challenge.pw_pe0144_01, fnBody, fnScope, List.getD, List.getD_eq_getElem?_getD, List.getElem?_cons_succ, List.getElem?_cons_zero, Option.getD] at hE hnext ⊢
  repeat' (first | (k_unfold; (try dsimp only)) | (k_end; wrow_close) | (with_reducible ((with_reducible show wpAny _ _ (call (Value.builtin "sorted") _) _ _ _); (refine halt ?_))) | (with_reducible ((with_reducible show wpAny _ _ (compareOp CmpOp.In (Value.ref _) (Value.ref _)) _ _ _); (refine halt ?_))) | walk1 | (dsimp only; walk1) | (leave1; walk_say "STEP leave1"; try dsimp only) | fail "no step")
  unfold Halt
  try dsimp only
  refine kso_sorted (ns := [place 0, place 1, place 2]) F N ⟨_, (N _ (.tail _ (.tail _ hP))).1, rfl, _, rfl⟩ ip (by show 3 < 64; decide) fun D3 vs' ns' c h3 F3 N3 lt3 hi3 hl3 hp3 ho3 _ => ?_
  have e := hr ns' hp3 ho3
  clear F N hr hP
  repeat' (first | (k_unfold; (try dsimp only)) | (k_end; wrow_close) | (with_reducible ((with_reducible show wpAny _ _ (call (Value.builtin "sorted") _) _ _ _); (refine halt ?_))) | (with_reducible ((with_reducible show wpAny _ _ (compareOp CmpOp.In (Value.ref _) (Value.ref _)) _ _ _); (refine halt ?_))) | walk1 | (dsimp only; walk1) | (leave1; walk_say "STEP leave1"; try dsimp only) | fail "no step")
  unfold Halt
  rename News _ _ _ _ => N9
  rename Fr _ _ _ _ => F9
  refine SeqAt.in_list_reads (xs := [.list ([1, 5, 9].map .int), .list ([3, 7, 11].map .int)]) (d := .list (ns'.map .int))
    (.list (N9 _ (.head _)).1 rfl rfl (.cons (reads_newData ⟨_, (N9 _ (.tail _ (.tail _ (.head _)))).1, rfl, _, rfl⟩ (IntsAre.carried (.cons _ _ (.cons _ _ (.cons _ _ .nil))))) (.cons (reads_newData ⟨_, (N9 _ (.tail _ (.head _))).1, rfl, _, rfl⟩ (IntsAre.carried (.cons _ _ (.cons _ _ (.cons _ _ .nil))))) .nil)))
    (reads_newData ⟨_, (N9 _ (.tail _ (.tail _ (.tail _ (.head _))))).1, rfl, _, rfl⟩ hi3.carried) rfl (ints_canLay ns') (by simp only [PyData.depth, ints_depth]; units_room) ?_
  rw [show ([PyData.list ([1, 5, 9].map .int), .list ([3, 7, 11].map .int)].any fun y => PyData.eqv y (.list (ns'.map .int))) = rg by rw [e]; simp only [List.any_cons, List.any_nil, eqv_ints]]
  repeat' (first | (k_unfold; (try dsimp only)) | (k_end; wrow_close) | (with_reducible ((with_reducible show wpAny _ _ (call (Value.builtin "sorted") _) _ _ _); (refine halt ?_))) | (with_reducible ((with_reducible show wpAny _ _ (compareOp CmpOp.In (Value.ref _) (Value.ref _)) _ _ _); (refine halt ?_))) | walk1 | (dsimp only; walk1) | (leave1; walk_say "STEP leave1"; try dsimp only) | fail "no step")
  rw [show (rg == rg) = true from beq_self_eq_true rg]
  exact hnext _ _ _ F9 (news_mono N9 fun p hp => .tail _ (.tail _ (.tail _ (.tail _ hp))))
end

end
section
section floats
open PySem.Float64 (V decode val pack sgn infMag dist Right)
noncomputable def UU : Nat := 2 ^ 1034
noncomputable def OO : Nat := 2 ^ 1074
theorem OO_eq : OO = 1099511627776 * UU := by
  unfold OO UU
  rw [show (1099511627776 : Nat) = 2 ^ 40 from rfl, ← Nat.pow_add]
theorem UU_pos : 0 < UU := Nat.two_pow_pos _
theorem OO_pos : 0 < OO := Nat.two_pow_pos _
/-- a finite float and its value in parts of 2^1074 -/
noncomputable def IsF (x : UInt64) (v : Int) : Prop := ∃ neg t, t < infMag ∧ x = pack neg t ∧ sgn neg (V t) = v
theorem rep : ∀ (k q : Nat), q ≤ 2 ^ 53 → ∃ t, V t = q * 2 ^ k
  | 0, _, h => ⟨_, Float64.V_at h (.inr rfl)⟩
  | k + 1, q, h => if g : 2 ^ 52 ≤ q then ⟨_, Float64.V_at h (.inl g)⟩ else by
    obtain ⟨t, e⟩ := rep k (2 * q) (by omega)
    exact ⟨t, by rw [e, Nat.pow_succ, Nat.mul_comm 2 q, Nat.mul_assoc, Nat.mul_comm 2]⟩
noncomputable def Rnd (W D n : Nat) : Prop := ∀ t, (D * V t ≤ W → V t ≤ n) ∧ (W ≤ D * V t → n ≤ V t)
theorem near {r : UInt64} {neg : Bool} {W D : Nat} (h : Right r neg W D) (hD : 0 < D) (hW : W ≤ 8 * OO * D) : ∃ t, r = pack neg t ∧ t < infMag ∧ Rnd W D (V t) := by
  obtain ⟨t, hr, hle, hov, hn⟩ := h
  have ht : t < infMag := Nat.lt_of_le_of_ne hle fun e => by
    have h1 := hov.mp e
    have h2 : D * (16 * OO) < D * ((2 ^ 54 - 1) * 2 ^ 2045) := Nat.mul_lt_mul_of_pos_left (by decide +kernel) hD
    have h3 : 2 * W ≤ D * (16 * OO) := by
      have : D * (16 * OO) = 2 * (8 * OO * D) := by rw [Nat.mul_comm D, show 2 * (8 * OO * D) = 2 * 8 * OO * D by simp only [Nat.mul_assoc]]
      omega
    omega
  refine ⟨t, hr, ht, fun t' => ⟨fun g => ?_, fun g => ?_⟩⟩
  · rcases Nat.lt_or_ge (V t) (V t') with c | c
    · have := (hn ht t').1
      have c' : D * V t < D * V t' := Nat.mul_lt_mul_of_pos_left c hD
      unfold dist at this
      omega
    · exact c
  · rcases Nat.lt_or_ge (V t') (V t) with c | c
    · have := (hn ht t').1
      have c' : D * V t' < D * V t := Nat.mul_lt_mul_of_pos_left c hD
      unfold dist at this
      omega
    · exact c
theorem Rnd.err {W D n : Nat} (h : Rnd W D n) (hD : 0 < D) (hW : W ≤ 8 * OO * D) : D * n ≤ W + D * UU ∧ W ≤ D * n + D * UU := by
  have hDU : 0 < D * UU := Nat.mul_pos hD UU_pos
  have hq : W / (D * UU) ≤ 8796093022208 := Nat.div_le_of_le_mul (by
    rw [OO_eq] at hW
    calc W ≤ 8 * (1099511627776 * UU) * D := hW
      _ = D * UU * 8796093022208 := by rw [← Nat.mul_assoc, Nat.mul_comm D UU, Nat.mul_right_comm UU, Nat.mul_comm UU])
  obtain ⟨t1, e1⟩ := rep 1034 (W / (D * UU)) (by omega)
  obtain ⟨t2, e2⟩ := rep 1034 (W / (D * UU) + 1) (by omega)
  have a1 := (h t1).1
  have a2 := (h t2).2
  rw [e1] at a1
  rw [e2] at a2
  have b1 : D * (W / (D * UU) * UU) ≤ W := by
    rw [Nat.mul_left_comm]
    exact Nat.div_mul_le_self _ _
  have b2 : W < D * ((W / (D * UU) + 1) * UU) := by
    rw [Nat.mul_left_comm, Nat.mul_comm]
    exact Nat.lt_mul_div_succ W hDU
  have c1 := Nat.mul_le_mul_left D (a1 b1)
  have c2 := Nat.mul_le_mul_left D (a2 (Nat.le_of_lt b2))
  have d : D * ((W / (D * UU) + 1) * UU) = D * (W / (D * UU) * UU) + D * UU := by rw [Nat.add_mul, Nat.one_mul, Nat.mul_add]
  change D * (W / (D * UU) * UU) ≤ _ at c1
  change _ ≤ D * ((W / (D * UU) + 1) * UU) at c2
  omega
theorem IsF.dec {x : UInt64} {v : Int} (h : IsF x v) : ∃ a m e, decode x = .fin a m e ∧ val x = v := by
  obtain ⟨neg, t, ht, rfl, hv⟩ := h
  obtain ⟨m, e, hd, _⟩ := Float64.decode_pack neg ht
  exact ⟨neg, m, e, hd, by rw [Float64.val_pack neg ht, hv]⟩
theorem IsF.cmp {x y : UInt64} {a b : Int} (hx : IsF x a) (hy : IsF y b) : Float64.cmp x y = some (compare a b) := by
  obtain ⟨_, _, _, d1, v1⟩ := hx.dec
  obtain ⟨_, _, _, d2, v2⟩ := hy.dec
  rw [Float64.cmp_right d1 d2, v1, v2]
theorem sgn_nat (c : Bool) (n : Nat) : sgn c n = if c then -(n : Int) else n := rfl
theorem V_inj {a b : Nat} (h : V a = V b) : a = b := by
  rcases Nat.lt_trichotomy a b with g | g | g
  · exact absurd h (Nat.ne_of_lt (Float64.V_lt g))
  · exact g
  · exact absurd h.symm (Nat.ne_of_lt (Float64.V_lt g))
/-- a sum or a difference: near, and itself where it can be written -/
noncomputable def NearSum (r : UInt64) (d : Int) : Prop := ∃ c, IsF r c ∧ c ≤ d + UU ∧ d ≤ c + UU ∧ (∀ t, V t = d.natAbs → c = d)
theorem nearSum {r : UInt64} {d : Int} {z : Bool} (h : (d = 0 → r = Float64.zero z) ∧ (d ≠ 0 → Right r (decide (d < 0)) d.natAbs 1)) (hd : d.natAbs ≤ 8 * OO) : NearSum r d := by
  rcases Decidable.em (d = 0) with e | e
  · refine ⟨0, ⟨z, 0, by decide, h.1 e, ?_⟩, by omega, by omega, fun _ _ => e.symm⟩
    rw [Float64.V_zero]; cases z <;> rfl
  · obtain ⟨t, hr, ht, hn⟩ := near (h.2 e) (by decide) (by rw [Nat.mul_one]; exact hd)
    have he := hn.err (by decide) (by rw [Nat.mul_one]; exact hd)
    refine ⟨_, ⟨_, t, ht, hr, rfl⟩, ?_, ?_, fun t' e' => ?_⟩
    · rw [sgn_nat]; split <;> simp_all <;> omega
    · rw [sgn_nat]; split <;> simp_all <;> omega
    · have h1 := (hn t').1 (by omega)
      have h2 := (hn t').2 (by omega)
      rw [sgn_nat]; split <;> simp_all <;> omega
theorem IsF.sub {x y : UInt64} {a b : Int} (hx : IsF x a) (hy : IsF y b) (h : (a - b).natAbs ≤ 8 * OO) : NearSum (Float64.sub x y) (a - b) := by
  obtain ⟨_, _, _, d1, v1⟩ := hx.dec
  obtain ⟨_, _, _, d2, v2⟩ := hy.dec
  have := Float64.sub_right d1 d2
  rw [v1, v2] at this
  exact nearSum this h
theorem IsF.add {x y : UInt64} {a b : Int} (hx : IsF x a) (hy : IsF y b) (h : (a + b).natAbs ≤ 8 * OO) : NearSum (Float64.add x y) (a + b) := by
  obtain ⟨_, _, _, d1, v1⟩ := hx.dec
  obtain ⟨_, _, _, d2, v2⟩ := hy.dec
  have := Float64.add_right d1 d2
  rw [v1, v2] at this
  exact nearSum this h
end floats

end
section
section floats2
open PySem.Float64 (V decode val pack sgn infMag dist Right)
theorem Rnd.exact {W D n t : Nat} (h : Rnd W D n) (e : W = D * V t) : n = V t := by
  have := h t
  omega
theorem Rnd.zero {D n : Nat} (h : Rnd 0 D n) : n = 0 := by
  have := (h 0).2 (Nat.zero_le _)
  rw [Float64.V_zero] at this
  omega
theorem sgn_zero (c : Bool) : sgn c 0 = 0 := by cases c <;> rfl
theorem IsF.sign {x : UInt64} {n : Nat} (h : IsF x n) : ∃ a m e, decode x = .fin a m e ∧ val x = n ∧ (0 < n → a = false) := by
  obtain ⟨neg, t, ht, rfl, hv⟩ := h
  obtain ⟨m, e, hd, _⟩ := Float64.decode_pack neg ht
  refine ⟨neg, m, e, hd, by rw [Float64.val_pack neg ht, hv], fun h0 => ?_⟩
  cases neg with
  | false => rfl
  | true => rw [sgn_nat, if_pos rfl] at hv; omega
theorem IsF.signNeg {x : UInt64} {n : Nat} (h : IsF x (-(n : Int))) (h0 : 0 < n) : ∃ m e, decode x = .fin true m e ∧ val x = -(n : Int) := by
  obtain ⟨neg, t, ht, rfl, hv⟩ := h
  obtain ⟨m, e, hd, _⟩ := Float64.decode_pack neg ht
  cases neg with
  | true => exact ⟨m, e, hd, by rw [Float64.val_pack true ht, hv]⟩
  | false => rw [sgn_nat, if_neg (by decide)] at hv; omega
theorem IsF.mulN {x y : UInt64} {a b : Nat} (hx : IsF x a) (hy : IsF y b) (h : a * b ≤ 8 * OO * OO) : ∃ n : Nat, IsF (Float64.mul x y) n ∧ Rnd (a * b) OO n := by
  obtain ⟨s1, _, _, d1, v1, g1⟩ := hx.sign
  obtain ⟨s2, _, _, d2, v2, g2⟩ := hy.sign
  have r := Float64.mul_right d1 d2
  rw [v1, v2, Int.natAbs_natCast, Int.natAbs_natCast] at r
  obtain ⟨t, hr, ht, hn⟩ := near r OO_pos h
  refine ⟨V t, ⟨_, t, ht, hr, ?_⟩, hn⟩
  rcases Nat.eq_zero_or_pos (a * b) with e | e
  · rw [e] at hn
    rw [hn.zero, sgn_zero]; rfl
  · rw [g1 (Nat.pos_of_mul_pos_right e), g2 (Nat.pos_of_mul_pos_left e)]; rfl
theorem IsF.divN {x y : UInt64} {a b : Nat} (hx : IsF x a) (hy : IsF y b) (hb : 0 < b) (h : a * OO ≤ 8 * OO * b) : ∃ n : Nat, IsF (Float64.div x y) n ∧ Rnd (a * OO) b n := by
  obtain ⟨s1, _, _, d1, v1, g1⟩ := hx.sign
  obtain ⟨s2, m2, _, d2, v2, g2⟩ := hy.sign
  have hm : m2 ≠ 0 := fun e => by
    rw [Float64.val_eq d2, e, Nat.zero_mul, sgn_zero] at v2
    omega
  have r := Float64.div_right d1 d2 hm
  rw [v1, v2, Int.natAbs_natCast, Int.natAbs_natCast] at r
  obtain ⟨t, hr, ht, hn⟩ := near r hb h
  refine ⟨V t, ⟨_, t, ht, hr, ?_⟩, hn⟩
  rcases Nat.eq_zero_or_pos a with e | e
  · rw [e, Nat.zero_mul] at hn
    rw [hn.zero, sgn_zero]; rfl
  · rw [g1 e, g2 hb]; rfl
theorem IsF.divNeg {x y : UInt64} {a b : Nat} (hx : IsF x (-(a : Int))) (ha : 0 < a) (hy : IsF y b) (hb : 0 < b) (h : a * OO ≤ 8 * OO * b) : ∃ n : Nat, IsF (Float64.div x y) (-(n : Int)) ∧ Rnd (a * OO) b n := by
  obtain ⟨_, _, d1, v1⟩ := hx.signNeg ha
  obtain ⟨s2, m2, _, d2, v2, g2⟩ := hy.sign
  have hm : m2 ≠ 0 := fun e => by
    rw [Float64.val_eq d2, e, Nat.zero_mul, sgn_zero] at v2
    omega
  have r := Float64.div_right d1 d2 hm
  rw [v1, v2, Int.natAbs_neg, Int.natAbs_natCast, Int.natAbs_natCast] at r
  obtain ⟨t, hr, ht, hn⟩ := near r hb h
  refine ⟨V t, ⟨_, t, ht, hr, ?_⟩, hn⟩
  rw [g2 hb]; rfl
theorem trunc_of {x : UInt64} {n i : Nat} (h : IsF x n) (h1 : i * OO ≤ n) (h2 : n < (i + 1) * OO) : Flt.toInt Float64.truncOf x = i := by
  obtain ⟨a, m, e, hd, hv, hs⟩ := h.sign
  have he := Float64.decode_ge hd
  unfold Flt.toInt
  rw [hd]
  show Float64.truncOf a m e = _
  rw [Float64.val_eq hd] at hv
  have hn : m * 2 ^ (e + 1074).toNat = n := by
    have := congrArg Int.natAbs hv
    rw [Float64.sgn_natAbs, Int.natAbs_natCast] at this
    exact this
  have key : Float64.floorOf false m e = (i : Int) := by
    unfold Float64.floorOf
    split
    · rename_i g
      have e1 : (e + 1074).toNat = e.toNat + 1074 := by omega
      rw [e1, Nat.pow_add, ← Nat.mul_assoc] at hn
      have e2 : m * 2 ^ e.toNat = i := by
        have a1 : i ≤ m * 2 ^ e.toNat := Nat.le_of_mul_le_mul_right (by rw [← hn] at h1; exact h1) OO_pos
        have a2 : m * 2 ^ e.toNat < i + 1 := Nat.lt_of_mul_lt_mul_right (a := OO) (by rw [← hn] at h2; exact h2)
        omega
      show (m : Int) * 2 ^ e.toNat = i
      rw [← e2]; simp
    · rename_i g
      have e1 : OO = 2 ^ (-e).toNat * 2 ^ (e + 1074).toNat := by
        unfold OO
        rw [← Nat.pow_add]
        congr 1
        omega
      have hpos : 0 < 2 ^ (e + 1074).toNat := Nat.two_pow_pos _
      have a1 : i * 2 ^ (-e).toNat ≤ m := Nat.le_of_mul_le_mul_right (by rw [hn, Nat.mul_assoc, ← e1]; exact h1) hpos
      have a2 : m < (i + 1) * 2 ^ (-e).toNat := Nat.lt_of_mul_lt_mul_right (a := 2 ^ (e + 1074).toNat) (by rw [hn, Nat.mul_assoc, ← e1]; exact h2)
      show (m : Int).fdiv (2 ^ (-e).toNat) = i
      have e3 : ((2 : Int) ^ (-e).toNat) = ((2 ^ (-e).toNat : Nat) : Int) := by simp
      rw [e3, Int.fdiv_eq_ediv_of_nonneg _ (Int.natCast_nonneg _), ← Int.natCast_ediv]
      congr 1
      refine Nat.div_eq_of_lt_le ?_ ?_
      · exact a1
      · exact a2
  cases a with
  | false => exact key
  | true =>
    have n0 : n = 0 := by
      rcases Nat.eq_zero_or_pos n with g | g
      · exact g
      · exact nomatch hs g
    have m0 : m = 0 := by
      rw [n0] at hn
      rcases Nat.mul_eq_zero.mp hn with g | g
      · exact g
      · exact absurd g (Nat.ne_of_gt (Nat.two_pow_pos _))
    have i0 : i = 0 := by
      rcases Nat.eq_zero_or_pos i with g | g
      · exact g
      · have := Nat.mul_le_mul_right OO g
        have := OO_pos
        omega
    show -Float64.floorOf false m e = _
    rw [key, i0]; rfl
theorem IsF.notNaN {x : UInt64} {v : Int} (h : IsF x v) : ¬ Float64.isNaN x = true := by
  obtain ⟨_, _, _, hd, _⟩ := h.dec
  unfold Float64.isNaN
  rw [hd]
  exact Bool.false_ne_true
theorem IsF.notInf {x : UInt64} {v : Int} (h : IsF x v) : ¬ Float64.isInf x = true := by
  obtain ⟨_, _, _, hd, _⟩ := h.dec
  unfold Float64.isInf
  rw [hd]
  exact Bool.false_ne_true
theorem IsF.zeroIff {x : UInt64} {v : Int} (h : IsF x v) : Float64.isZero x = true ↔ v = 0 := by
  obtain ⟨a, m, e, hd, hv⟩ := h.dec
  rw [Float64.val_eq hd] at hv
  unfold Float64.isZero
  rw [hd]
  cases m with
  | zero => rw [Nat.zero_mul, sgn_zero] at hv; simp [hv]
  | succ m =>
    refine ⟨fun g => (nomatch g), fun g => ?_⟩
    have := congrArg Int.natAbs hv
    rw [Float64.sgn_natAbs, g] at this
    rcases Nat.mul_eq_zero.mp this with q | q
    · exact nomatch q
    · exact absurd q (Nat.ne_of_gt (Nat.two_pow_pos _))
theorem IsF.cmpInt {x : UInt64} {v : Int} (h : IsF x v) (i : Int) : Float64.cmpInt x i = some (compare v (i * (OO : Int))) := by
  obtain ⟨a, m, e, hd, hv⟩ := h.dec
  rw [Float64.cmpInt_right hd, hv, show ((OO : Nat) : Int) = 2 ^ 1074 by unfold OO; simp]
end floats2

end
section
section floats3
open PySem.Float64 (V decode val pack sgn infMag dist Right)
noncomputable abbrev oneF : UInt64 := 4607182418800017408
noncomputable abbrev twoF : UInt64 := 4611686018427387904
noncomputable abbrev fourF : UInt64 := 4616189618054758400
noncomputable abbrev sixF : UInt64 := 4618441417868443648
noncomputable abbrev halfF : UInt64 := 4602678819172646912
theorem one_is : IsF oneF ((OO : Nat) : Int) := ⟨false, 4607182418800017408, by decide +kernel, by decide +kernel, by unfold OO; decide +kernel⟩
theorem two_is : IsF twoF ((2 * OO : Nat) : Int) := ⟨false, 4611686018427387904, by decide +kernel, by decide +kernel, by unfold OO; decide +kernel⟩
theorem four_is : IsF fourF ((4 * OO : Nat) : Int) := ⟨false, 4616189618054758400, by decide +kernel, by decide +kernel, by unfold OO; decide +kernel⟩
theorem six_is : IsF sixF ((6 * OO : Nat) : Int) := ⟨false, 4618441417868443648, by decide +kernel, by decide +kernel, by unfold OO; decide +kernel⟩
theorem half_is : IsF halfF ((549755813888 * UU : Nat) : Int) := ⟨false, 4602678819172646912, by decide +kernel, by decide +kernel, by unfold UU; decide +kernel⟩
theorem zero_is : IsF 0 0 := ⟨false, 0, by decide +kernel, by decide +kernel, by decide +kernel⟩
theorem ofInt_is {i : Nat} (hi : i ≤ 8) : IsF (Float64.ofInt i) ((i * OO : Nat) : Int) := by
  have r := Float64.ofInt_right (i : Int)
  rw [Int.natAbs_natCast, show decide ((i : Int) < 0) = false from decide_eq_false (by omega)] at r
  obtain ⟨t, hr, ht, hn⟩ := near r (by decide) (by rw [Nat.mul_one]; exact Nat.mul_le_mul_right _ hi)
  obtain ⟨t2, e2⟩ := rep 1074 i (by omega)
  refine ⟨_, t, ht, hr, ?_⟩
  rw [hn.exact (t := t2) (by rw [e2, Nat.one_mul])]
  exact congrArg Nat.cast e2
noncomputable def KK : Nat := 2 ^ 1064
theorem KK_pos : 0 < KK := Nat.two_pow_pos _
theorem KK_OO : OO = 1024 * KK := by
  unfold OO KK
  rw [show (1024 : Nat) = 2 ^ 10 from rfl, ← Nat.pow_add]
theorem FL_is {k : Nat} (hk : k ≤ 1024) : IsF (FL k) ((k * KK : Nat) : Int) := by
  have e0 : FL (k : Int) = Float64.ofFrac false k 1024 := by
    unfold FL
    rw [Int.natAbs_natCast, show decide ((k : Int) < 0) = false from decide_eq_false (by omega)]
    rfl
  rw [e0]
  have r := Float64.ofFrac_right (neg := false) (n := k) (d := 1024) (W := k * KK) (D := 1) (by decide) (by
    rw [Nat.mul_one, show (2 : Nat) ^ 1074 = OO from rfl, KK_OO, Nat.mul_assoc, Nat.mul_comm KK]) (by decide)
  obtain ⟨t, hr, ht, hn⟩ := near r (by decide) (by rw [Nat.mul_one, KK_OO, ← Nat.mul_assoc]; exact Nat.mul_le_mul_right _ (by omega))
  obtain ⟨t2, e2⟩ := rep 1064 k (by omega)
  refine ⟨_, t, ht, hr, ?_⟩
  rw [hn.exact (t := t2) (by rw [e2, Nat.one_mul]; rfl)]
  exact congrArg Nat.cast e2
theorem fmod_one {x : UInt64} {v : Int} (h : IsF x v) (hv : v.natAbs < OO) : IsF (Float64.fmod x oneF) v := by
  obtain ⟨neg, t, ht, rfl, rfl⟩ := h
  rw [Float64.sgn_natAbs] at hv
  obtain ⟨m, e, hd, hm⟩ := Float64.decode_pack neg ht
  have he := Float64.decode_ge hd
  have h1 : decode oneF = .fin false 4503599627370496 (-52) := by kernel_rfl
  have h2 : Float64.fmod (pack neg t) oneF = Float64.ofBin neg ((m * 2 ^ (e - min e (-52)).toNat) % (4503599627370496 * 2 ^ (-52 - min e (-52)).toNat)) (min e (-52)) := by
    unfold Float64.fmod
    rw [hd, h1]
    rfl
  have hg : -1074 ≤ min e (-52) := by omega
  have ep : m * 2 ^ (e - min e (-52)).toNat * 2 ^ (min e (-52) + 1074).toNat = V t := by
    rw [← hm, Nat.mul_assoc, ← Nat.pow_add]
    congr 2
    omega
  have eq : 4503599627370496 * 2 ^ (-52 - min e (-52)).toNat * 2 ^ (min e (-52) + 1074).toNat = OO := by
    unfold OO
    rw [show (4503599627370496 : Nat) = 2 ^ 52 from rfl, ← Nat.pow_add, ← Nat.pow_add]
    congr 1
    omega
  have hlt : m * 2 ^ (e - min e (-52)).toNat < 4503599627370496 * 2 ^ (-52 - min e (-52)).toNat := by
    refine Nat.lt_of_mul_lt_mul_right (a := 2 ^ (min e (-52) + 1074).toNat) ?_
    rw [ep, eq]
    exact hv
  rw [Nat.mod_eq_of_lt hlt] at h2
  generalize m * 2 ^ (e - min e (-52)).toNat = p at ep h2
  have r : Right (Float64.ofBin neg p (min e (-52))) neg (V t) 1 := by
    have e3 : Float64.ofBin neg p (min e (-52)) = Float64.ofFrac neg (Float64.shift p 1 (min e (-52))).1 (Float64.shift p 1 (min e (-52))).2 := rfl
    rw [e3]
    refine Float64.ofFrac_right (Float64.shift_pos _ _ _ (by decide)) ?_ (by decide)
    have := Float64.shift_one p (min e (-52)) 1074 (by omega)
    rw [Nat.mul_one, this, ← ep]
    rfl
  obtain ⟨t2, hr, ht2, hn⟩ := near r (by decide) (by
    have := hv
    omega)
  refine ⟨neg, t2, ht2, h2.trans hr, ?_⟩
  rw [hn.exact (t := t) (by rw [Nat.one_mul])]
theorem lt_zero {x : UInt64} {v : Int} (h : IsF x v) : Float64.lt x (Float64.zero false) = decide (v < 0) := by
  unfold Float64.lt
  rw [show Float64.zero false = 0 by decide +kernel, h.cmp zero_is]
  rcases Int.lt_trichotomy v 0 with g | g | g
  · rw [Int.compare_eq_lt.mpr g, decide_eq_true g]; rfl
  · rw [g]; rfl
  · rw [Int.compare_eq_gt.mpr g, decide_eq_false (by omega)]; rfl
theorem divmod_snd (x y : UInt64) : (Float64.divmod x y).snd = if Float64.isZero (Float64.fmod x y) then Float64.copysign (Float64.zero false) y else if Float64.lt y (Float64.zero false) != Float64.lt (Float64.fmod x y) (Float64.zero false) then Float64.add (Float64.fmod x y) y else Float64.fmod x y := by
  unfold Float64.divmod
  dsimp only
  split
  · rfl
  · split <;> rfl
theorem mod_pos {x : UInt64} {v : Nat} (h : IsF x v) (hv : v < OO) : IsF (Float64.divmod x oneF).snd v := by
  have hm := fmod_one h (by rw [Int.natAbs_natCast]; exact hv)
  rw [divmod_snd]
  split
  · rename_i g
    rw [hm.zeroIff.mp g, show Float64.copysign (Float64.zero false) oneF = 0 by decide +kernel]
    exact zero_is
  · rw [lt_zero hm, lt_zero one_is, decide_eq_false (by omega), decide_eq_false (by omega)]
    exact hm
theorem mod_neg {x : UInt64} {v : Nat} (h : IsF x (-(v : Int))) (h0 : 0 < v) (hv : v < OO) : NearSum (Float64.divmod x oneF).snd (-(v : Int) + (OO : Int)) := by
  have hm := fmod_one h (by rw [Int.natAbs_neg, Int.natAbs_natCast]; exact hv)
  rw [divmod_snd, if_neg (by rw [hm.zeroIff]; omega), lt_zero hm, lt_zero one_is, decide_eq_false (by omega), decide_eq_true (by omega)]
  exact hm.add one_is (by omega)
end floats3

end
section
set_option exponentiation.threshold 3000
section floats4
open PySem.Float64 (V decode val pack sgn infMag dist Right)
theorem IsF.bits {x y : UInt64} {n : Nat} (hx : IsF x n) (hy : IsF y n) (h0 : 0 < n) : x = y := by
  obtain ⟨a, t, _, rfl, e1⟩ := hx
  obtain ⟨b, u, _, rfl, e2⟩ := hy
  have ha : a = false := by
    cases a with
    | false => rfl
    | true => rw [sgn_nat, if_pos rfl] at e1; omega
  have hb : b = false := by
    cases b with
    | false => rfl
    | true => rw [sgn_nat, if_pos rfl] at e2; omega
  subst ha hb
  rw [sgn_nat, if_neg (by decide)] at e1 e2
  rw [V_inj (a := t) (b := u) (by omega)]
theorem FL_sub {x y : Nat} (hx : x ≤ 1024) (h : y ≤ x) : IsF (Float64.sub (FL x) (FL y)) (((x - y) * KK : Nat) : Int) := by
  have e : ((x * KK : Nat) : Int) - ((y * KK : Nat) : Int) = (((x - y) * KK : Nat) : Int) := by
    rw [Nat.sub_mul, Int.ofNat_sub (Nat.mul_le_mul_right _ h)]
  have hb : (x - y) * KK ≤ 8 * OO := by rw [KK_OO, ← Nat.mul_assoc]; exact Nat.mul_le_mul_right _ (by omega)
  obtain ⟨c, hc, _, _, he⟩ := (FL_is hx).sub (FL_is (Nat.le_trans h hx)) (by rw [e, Int.natAbs_natCast]; exact hb)
  obtain ⟨t, ht⟩ := rep 1064 (x - y) (by omega)
  rw [he t (by rw [e, Int.natAbs_natCast, ht]; rfl), e] at hc
  exact hc
theorem FL_self {x : Nat} (hx : x ≤ 1024) : Float64.sub (FL x) (FL x) = 0 := by
  obtain ⟨a, m, e, hd, _⟩ := (FL_is hx).dec
  rw [(Float64.sub_right hd hd).1 (Int.sub_self _), show (a && !a) = false by cases a <;> rfl]
  decide +kernel
theorem ratio {x y z : Nat} (hx : x ≤ 1024) (h1 : y < z) (h2 : z < x) : ∃ n : Nat, IsF (Float64.div (Float64.sub (FL x) (FL z)) (Float64.sub (FL x) (FL y))) n ∧ OO ≤ 1024 * n + 1024 * UU ∧ 1024 * n + OO ≤ 1024 * OO + 1024 * UU := by
  have a1 := FL_sub hx (Nat.le_of_lt h2)
  have a2 := FL_sub hx (Nat.le_of_lt (Nat.lt_trans h1 h2))
  have hA : 1 ≤ x - z := by omega
  have hAB : x - z + 1 ≤ x - y := by omega
  have hB : x - y ≤ 1024 := by omega
  generalize x - z = A at a1 hA hAB
  generalize x - y = B at a2 hAB hB
  have hD : 0 < B * KK := Nat.mul_pos (by omega) KK_pos
  have hW : A * KK * OO ≤ 8 * OO * (B * KK) := by
    have : A * KK * OO ≤ B * KK * OO := Nat.mul_le_mul_right _ (Nat.mul_le_mul_right _ (by omega))
    have e : 8 * OO * (B * KK) = 8 * (B * KK * OO) := by rw [Nat.mul_assoc, Nat.mul_comm OO]
    omega
  obtain ⟨n, hn, hr⟩ := a1.divN a2 hD hW
  have he := hr.err hD hW
  refine ⟨n, hn, ?_, ?_⟩
  · have c1 : KK * OO ≤ KK * (1024 * n + 1024 * UU) := by
      have b1 : KK * OO ≤ A * KK * OO := by rw [Nat.mul_assoc]; exact Nat.le_mul_of_pos_left _ hA
      have b2 : B * KK * n + B * KK * UU ≤ KK * (1024 * n + 1024 * UU) := by
        rw [← Nat.mul_add, ← Nat.mul_add, ← Nat.mul_assoc, Nat.mul_comm KK]
        exact Nat.mul_le_mul_right _ (Nat.mul_le_mul_right _ hB)
      omega
    exact Nat.le_of_mul_le_mul_left c1 KK_pos
  · have c1 : KK * (B * n) ≤ KK * (A * OO + B * UU) := by
      have e1 : B * KK * n = KK * (B * n) := by rw [Nat.mul_comm B, Nat.mul_assoc]
      have e2 : A * KK * OO + B * KK * UU = KK * (A * OO + B * UU) := by rw [Nat.mul_comm A, Nat.mul_comm B, Nat.mul_assoc, Nat.mul_assoc, ← Nat.mul_add]
      rw [← e1, ← e2]; exact he.1
    have c2 := Nat.le_of_mul_le_mul_left c1 KK_pos
    have c3 : A * OO + OO ≤ B * OO := by rw [← Nat.succ_mul]; exact Nat.mul_le_mul_right _ hAB
    rcases Nat.lt_or_ge (OO + UU) n with g | g
    · have := Nat.mul_lt_mul_of_pos_left g (show 0 < B by omega)
      rw [Nat.mul_add] at this
      omega
    · have e4 : B * n + B * (OO + UU - n) = B * OO + B * UU := by rw [← Nat.mul_add, ← Nat.mul_add]; congr 1; omega
      have c5 : B * (OO + UU - n) ≤ 1024 * (OO + UU - n) := Nat.mul_le_mul_right _ hB
      omega
theorem ratio_one {x y : Nat} (hx : x ≤ 1024) (h : y < x) : Float64.div (Float64.sub (FL x) (FL y)) (Float64.sub (FL x) (FL y)) = oneF := by
  have a := FL_sub hx (Nat.le_of_lt h)
  have hD : 0 < (x - y) * KK := Nat.mul_pos (by omega) KK_pos
  obtain ⟨n, hn, hr⟩ := a.divN a hD (by rw [Nat.mul_comm]; exact Nat.mul_le_mul_right _ (by omega))
  have e : n = OO := by
    have e2 : V 4607182418800017408 = OO := by unfold OO; decide +kernel
    rw [← e2]; exact hr.exact (by rw [e2])
  rw [e] at hn
  exact hn.bits one_is OO_pos
theorem zero_div {y : UInt64} {n : Nat} (hy : IsF y n) (h : 0 < n) : Float64.div 0 y = 0 := by
  obtain ⟨s2, m2, _, d2, v2, g2⟩ := hy.sign
  have hm : m2 ≠ 0 := fun e => by
    rw [Float64.val_eq d2, e, Nat.zero_mul, sgn_zero] at v2
    omega
  have d1 : decode 0 = .fin false 0 (-1074) := by kernel_rfl
  have r := Float64.div_right d1 d2 hm
  rw [show val 0 = 0 by decide +kernel, g2 h, v2, Int.natAbs_natCast] at r
  obtain ⟨t, hr, ht, hn⟩ := near r h (by simp)
  have e : V t = V 0 := by
    rw [Float64.V_zero]
    exact Rnd.zero (D := n) (by simpa using hn)
  rw [hr, V_inj e]
  decide +kernel
theorem ratio_zero {x y : Nat} (hx : x ≤ 1024) (h : y < x) : Float64.div (Float64.sub (FL x) (FL x)) (Float64.sub (FL x) (FL y)) = 0 := by
  rw [FL_self hx]
  exact zero_div (FL_sub hx (Nat.le_of_lt h)) (Nat.mul_pos (by omega) KK_pos)
theorem share {x y : Nat} (hx : x ≤ 1024) (h : y < x) : ∃ n : Nat, IsF (Float64.div (Float64.sub (FL x) (FL y)) (FL x)) n ∧ OO ≤ 1024 * n + 1024 * UU ∧ n ≤ OO := by
  have a1 := FL_sub hx (Nat.le_of_lt h)
  have a2 := FL_is hx
  have hA : 1 ≤ x - y := by omega
  have hAB : x - y ≤ x := by omega
  generalize x - y = A at a1 hA hAB
  have hD : 0 < x * KK := Nat.mul_pos (by omega) KK_pos
  have hW0 : A * KK * OO ≤ x * KK * OO := Nat.mul_le_mul_right _ (Nat.mul_le_mul_right _ (by omega))
  have hW : A * KK * OO ≤ 8 * OO * (x * KK) := by
    have e : 8 * OO * (x * KK) = 8 * (x * KK * OO) := by rw [Nat.mul_assoc, Nat.mul_comm OO]
    omega
  obtain ⟨n, hn, hr⟩ := a1.divN a2 hD hW
  have he := hr.err hD hW
  refine ⟨n, hn, ?_, ?_⟩
  · have c1 : KK * OO ≤ KK * (1024 * n + 1024 * UU) := by
      have b1 : KK * OO ≤ A * KK * OO := by rw [Nat.mul_assoc]; exact Nat.le_mul_of_pos_left _ hA
      have b2 : x * KK * n + x * KK * UU ≤ KK * (1024 * n + 1024 * UU) := by
        rw [← Nat.mul_add, ← Nat.mul_add, ← Nat.mul_assoc, Nat.mul_comm KK]
        exact Nat.mul_le_mul_right _ (Nat.mul_le_mul_right _ hx)
      omega
    exact Nat.le_of_mul_le_mul_left c1 KK_pos
  · have e2 : V 4607182418800017408 = OO := by unfold OO; decide +kernel
    rw [← e2]
    exact (hr _).2 (by rw [e2]; exact hW0)
theorem halved {s : UInt64} {n : Nat} (hs : IsF s n) (h1 : OO ≤ 1024 * n + 1024 * UU) (h2 : n ≤ OO) : ∃ m : Nat, IsF (Float64.div s (Float64.ofInt 2)) m ∧ 268435456 * UU ≤ m ∧ 2 * m ≤ OO + 2 * UU := by
  have hD : 0 < 2 * OO := Nat.mul_pos (by decide) OO_pos
  have hW : n * OO ≤ 8 * OO * (2 * OO) := by
    have : n * OO ≤ OO * OO := Nat.mul_le_mul_right _ h2
    have e : 8 * OO * (2 * OO) = 16 * (OO * OO) := by rw [show 8 * OO * (2 * OO) = 8 * 2 * (OO * OO) by ac_rfl]
    omega
  obtain ⟨m, hm, hr⟩ := hs.divN (ofInt_is (i := 2) (by decide)) hD hW
  have he := hr.err hD hW
  have c1 : 2 * m ≤ n + 2 * UU := by
    refine Nat.le_of_mul_le_mul_left (c := OO) ?_ OO_pos
    have e1 : OO * (2 * m) = 2 * OO * m := by ac_rfl
    have e2 : OO * (n + 2 * UU) = n * OO + 2 * OO * UU := by rw [Nat.mul_add]; ac_rfl
    rw [e1, e2]; exact he.1
  have c2 : n ≤ 2 * m + 2 * UU := by
    refine Nat.le_of_mul_le_mul_left (c := OO) ?_ OO_pos
    have e1 : OO * n = n * OO := by ac_rfl
    have e2 : OO * (2 * m + 2 * UU) = 2 * OO * m + 2 * OO * UU := by rw [Nat.mul_add]; ac_rfl
    rw [e1, e2]; exact he.2
  have := OO_eq
  exact ⟨m, hm, by omega, by omega⟩
end floats4

end
section
set_option exponentiation.threshold 3000
section floats5
open PySem.Float64 (V decode val pack sgn infMag dist Right)
/-- a hue within the field i, by a margin -/
noncomputable def FieldHue (x : UInt64) (i : Nat) : Prop := ∃ n : Nat, IsF x n ∧ i * OO + 536870912 * UU ≤ 6 * n ∧ 6 * n + 536870912 * UU ≤ (i + 1) * OO
theorem by_OO {a b : Nat} (h : OO * a ≤ OO * b) : a ≤ b := Nat.le_of_mul_le_mul_left h OO_pos
theorem sixth {v n : Nat} (he : 6 * OO * n ≤ v * OO + 6 * OO * UU ∧ v * OO ≤ 6 * OO * n + 6 * OO * UU) : 6 * n ≤ v + 6 * UU ∧ v ≤ 6 * n + 6 * UU := by
  refine ⟨by_OO ?_, by_OO ?_⟩
  · rw [Nat.mul_add, show OO * (6 * n) = 6 * OO * n by ac_rfl, show OO * v + OO * (6 * UU) = v * OO + 6 * OO * UU by ac_rfl]; exact he.1
  · rw [Nat.mul_add, show OO * v = v * OO by ac_rfl, show OO * (6 * n) + OO * (6 * UU) = 6 * OO * n + 6 * OO * UU by ac_rfl]; exact he.2
theorem hue_pos {h : UInt64} {v i : Nat} (hv : IsF h v) (hi : i ≤ 4) (h1 : i * OO + 1000000000 * UU ≤ v) (h2 : v + 1000000000 * UU ≤ (i + 1) * OO) : FieldHue (Float64.divmod (Float64.div h sixF) oneF).snd i := by
  have hD : 0 < 6 * OO := Nat.mul_pos (by decide) OO_pos
  have h5 : (i + 1) * OO ≤ 5 * OO := Nat.mul_le_mul_right _ (by omega)
  have hW : v * OO ≤ 8 * OO * (6 * OO) := by
    have a : v * OO ≤ 5 * OO * OO := Nat.mul_le_mul_right _ (by omega)
    have e : 8 * OO * (6 * OO) = 48 * (OO * OO) := by rw [show 8 * OO * (6 * OO) = 8 * 6 * (OO * OO) by ac_rfl]
    have e2 : 5 * OO * OO = 5 * (OO * OO) := Nat.mul_assoc ..
    omega
  obtain ⟨n, hn, hr⟩ := hv.divN six_is hD hW
  obtain ⟨a, b⟩ := sixth (hr.err hD hW)
  have hU := UU_pos
  have hO := OO_eq
  exact ⟨n, mod_pos hn (by omega), by omega, by omega⟩
theorem hue_neg {h : UInt64} {v : Nat} (hv : IsF h (-(v : Int))) (h1 : 1000000000 * UU ≤ v) (h2 : v + 1000000000 * UU ≤ OO) : FieldHue (Float64.divmod (Float64.div h sixF) oneF).snd 5 := by
  have hD : 0 < 6 * OO := Nat.mul_pos (by decide) OO_pos
  have hU := UU_pos
  have hO := OO_eq
  have hW : v * OO ≤ 8 * OO * (6 * OO) := by
    have a : v * OO ≤ OO * OO := Nat.mul_le_mul_right _ (by omega)
    have e : 8 * OO * (6 * OO) = 48 * (OO * OO) := by rw [show 8 * OO * (6 * OO) = 8 * 6 * (OO * OO) by ac_rfl]
    omega
  obtain ⟨n, hn, hr⟩ := hv.divNeg (by omega) six_is hD hW
  obtain ⟨a, b⟩ := sixth (hr.err hD hW)
  obtain ⟨c, hc, c1, c2, _⟩ := mod_neg hn (by omega) (by omega)
  obtain ⟨k, rfl⟩ := Int.eq_ofNat_of_zero_le (show 0 ≤ c by omega)
  exact ⟨k, hc, by omega, by omega⟩
theorem field_mul {x y : UInt64} {n k i : Nat} (hi : i ≤ 5) (hx : IsF (Float64.mul x y) k) (hr : Rnd (n * (6 * OO)) OO k) (hW : n * (6 * OO) ≤ 8 * OO * OO) (h1 : i * OO + 536870912 * UU ≤ 6 * n) (h2 : 6 * n + 536870912 * UU ≤ (i + 1) * OO) :
    i * OO + 268435456 * UU ≤ k ∧ k + 268435456 * UU ≤ (i + 1) * OO := by
  have he := hr.err OO_pos hW
  have a : k ≤ 6 * n + UU := by_OO (by rw [Nat.mul_add, show OO * (6 * n) = n * (6 * OO) by ac_rfl]; exact he.1)
  have b : 6 * n ≤ k + UU := by_OO (by rw [Nat.mul_add, show OO * (6 * n) = n * (6 * OO) by ac_rfl]; exact he.2)
  omega
theorem field_room {n i : Nat} (hi : i ≤ 5) (h2 : 6 * n + 536870912 * UU ≤ (i + 1) * OO) : n * (6 * OO) ≤ 8 * OO * OO := by
  have h5 : (i + 1) * OO ≤ 6 * OO := Nat.mul_le_mul_right _ (by omega)
  have a : 6 * n * OO ≤ 6 * OO * OO := Nat.mul_le_mul_right _ (by omega)
  have e1 : n * (6 * OO) = 6 * n * OO := by ac_rfl
  have e2 : 8 * OO * OO = 8 * (OO * OO) := Nat.mul_assoc ..
  have e3 : 6 * OO * OO = 6 * (OO * OO) := Nat.mul_assoc ..
  omega
theorem field_right {x : UInt64} {i : Nat} (h : FieldHue x i) (hi : i ≤ 5) : ∃ k : Nat, IsF (Float64.mul x sixF) k ∧ i * OO + 268435456 * UU ≤ k ∧ k + 268435456 * UU ≤ (i + 1) * OO := by
  obtain ⟨n, hn, h1, h2⟩ := h
  have hW := field_room hi h2
  obtain ⟨k, hk, hr⟩ := hn.mulN six_is hW
  exact ⟨k, hk, field_mul hi hk hr hW h1 h2⟩
theorem field_left {x : UInt64} {i : Nat} (h : FieldHue x i) (hi : i ≤ 5) : ∃ k : Nat, IsF (Float64.mul sixF x) k ∧ i * OO + 268435456 * UU ≤ k ∧ k + 268435456 * UU ≤ (i + 1) * OO := by
  obtain ⟨n, hn, h1, h2⟩ := h
  have hW := field_room hi h2
  obtain ⟨k, hk, hr⟩ := six_is.mulN hn (by rw [Nat.mul_comm]; exact hW)
  rw [Nat.mul_comm] at hr
  exact ⟨k, hk, field_mul hi hk hr hW h1 h2⟩
theorem trunc_in {x : UInt64} {k i : Nat} (h : IsF x k) (h1 : i * OO + 268435456 * UU ≤ k) (h2 : k + 268435456 * UU ≤ (i + 1) * OO) : Flt.toInt Float64.truncOf x = i :=
  trunc_of h (by omega) (by have := UU_pos; omega)
theorem field_place {x y : UInt64} {i : Nat} (h : FieldHue x i) (hi : i ≤ 5) (hy : (Float64.cmp y 0 == some Ordering.eq) = false) : placeF x y = 2 * i + 1 := by
  obtain ⟨k, hk, h1, h2⟩ := field_left h hi
  unfold placeF
  rw [hy, if_neg (by decide), trunc_in hk h1 h2, hk.cmpInt, show compare (k : Int) ((i : Int) * (OO : Int)) = .gt from Int.compare_eq_gt.mpr (by have := UU_pos; rw [← Int.natCast_mul]; omega)]
  rfl
theorem field_f {x : UInt64} {i : Nat} (h : FieldHue x i) (hi : i ≤ 5) : ∃ fv : Nat, IsF (Float64.sub (Float64.mul x sixF) (Float64.ofInt i)) fv ∧ 134217728 * UU ≤ fv ∧ fv + 134217728 * UU ≤ OO := by
  obtain ⟨k, hk, h1, h2⟩ := field_right h hi
  have e : (i + 1) * OO = i * OO + OO := Nat.succ_mul ..
  rw [e] at h2
  have hU := UU_pos
  obtain ⟨c, hc, c1, c2, _⟩ := hk.sub (ofInt_is (i := i) (by omega)) (by omega)
  obtain ⟨j, rfl⟩ := Int.eq_ofNat_of_zero_le (show 0 ≤ c by omega)
  exact ⟨j, hc, by omega, by omega⟩
theorem one_minus {x : UInt64} {v : Nat} (h : IsF x v) (hv : v + UU ≤ OO) : ∃ n : Nat, IsF (Float64.sub oneF x) n ∧ n + v ≤ OO + UU ∧ OO ≤ n + v + UU := by
  obtain ⟨c, hc, c1, c2, _⟩ := one_is.sub h (by omega)
  obtain ⟨j, rfl⟩ := Int.eq_ofNat_of_zero_le (show 0 ≤ c by omega)
  exact ⟨j, hc, by omega, by omega⟩
theorem half_mul {x : UInt64} {v : Nat} (h : IsF x v) (hv : v ≤ OO + UU) : ∃ n : Nat, IsF (Float64.mul halfF x) n ∧ 2 * n ≤ v + 2 * UU ∧ v ≤ 2 * n + 2 * UU := by
  have hO := OO_eq
  have hU := UU_pos
  have e : 2 * (549755813888 * UU) = OO := by omega
  have hW : 549755813888 * UU * v ≤ 8 * OO * OO := by
    have : 549755813888 * UU * v ≤ OO * (OO + UU) := Nat.mul_le_mul (by omega) hv
    have a : OO * UU ≤ OO * OO := Nat.mul_le_mul_left _ (by omega)
    rw [Nat.mul_add] at this
    have e2 : 8 * OO * OO = 8 * (OO * OO) := Nat.mul_assoc ..
    omega
  obtain ⟨n, hn, hr⟩ := half_is.mulN h hW
  have he := hr.err OO_pos hW
  have hH : 0 < 549755813888 * UU := Nat.mul_pos (by decide) hU
  generalize 549755813888 * UU = H at e hH he
  rw [← e] at he
  refine ⟨n, hn, Nat.le_of_mul_le_mul_left (c := H) ?_ hH, Nat.le_of_mul_le_mul_left (c := H) ?_ hH⟩
  · rw [Nat.mul_add, show H * (2 * n) = 2 * H * n by ac_rfl, show H * (2 * UU) = 2 * H * UU by ac_rfl]; exact he.1
  · rw [Nat.mul_add, show H * (2 * n) = 2 * H * n by ac_rfl, show H * (2 * UU) = 2 * H * UU by ac_rfl]; exact he.2
theorem mul_frac {y f : UInt64} {m fv : Nat} (hy : IsF y m) (y1 : 268435456 * UU ≤ m) (y2 : 2 * m ≤ OO + 2 * UU) (hf : IsF f fv) (f1 : 67108864 * UU ≤ fv) (f2 : fv + 67108864 * UU ≤ OO) :
    ∃ n : Nat, IsF (Float64.mul y f) n ∧ 16000 * UU ≤ n ∧ n + 16000 * UU ≤ m := by
  have hO := OO_eq
  have hU := UU_pos
  have hW : m * fv ≤ 8 * OO * OO := by
    have : m * fv ≤ OO * OO := Nat.mul_le_mul (by omega) (by omega)
    have e2 : 8 * OO * OO = 8 * (OO * OO) := Nat.mul_assoc ..
    omega
  obtain ⟨n, hn, hr⟩ := hy.mulN hf hW
  have he := hr.err OO_pos hW
  have a1 : m * (67108864 * UU) ≤ m * fv := Nat.mul_le_mul_left _ f1
  have a2 : m * fv + m * (67108864 * UU) ≤ m * OO := by rw [← Nat.mul_add]; exact Nat.mul_le_mul_left _ f2
  have b1 : UU * (67108864 * m) ≤ UU * (1099511627776 * n + 1099511627776 * UU) := by
    have e1 : UU * (67108864 * m) = m * (67108864 * UU) := by ac_rfl
    have e2 : UU * (1099511627776 * n + 1099511627776 * UU) = OO * n + OO * UU := by rw [hO, Nat.mul_add]; ac_rfl
    omega
  have b2 : UU * (1099511627776 * n + 67108864 * m) ≤ UU * (1099511627776 * m + 1099511627776 * UU) := by
    have e1 : UU * (1099511627776 * n + 67108864 * m) = OO * n + m * (67108864 * UU) := by rw [hO, Nat.mul_add]; ac_rfl
    have e2 : UU * (1099511627776 * m + 1099511627776 * UU) = m * OO + OO * UU := by rw [hO, Nat.mul_add]; ac_rfl
    omega
  have c1 := Nat.le_of_mul_le_mul_left b1 hU
  have c2 := Nat.le_of_mul_le_mul_left b2 hU
  exact ⟨n, hn, by omega, by omega⟩
theorem part_low {O U m n p0 p q0 q : Nat} (hU : 0 < U) (p1 : p0 + m ≤ O + U) (p3 : 2 * p ≤ p0 + 2 * U) (q2 : O ≤ q0 + n + U) (q4 : q0 ≤ 2 * q + 2 * U) (a : n + 16000 * U ≤ m) : p < q := by omega
theorem part_top {O U n q0 q : Nat} (hO : O = 1099511627776 * U) (hU : 0 < U) (q1 : q0 + n ≤ O + U) (q3 : 2 * q ≤ q0 + 2 * U) (a : 16000 * U ≤ n) : q < 549755813888 * U := by omega
theorem room_y {O U m : Nat} (hO : O = 1099511627776 * U) (y2 : 2 * m ≤ O + 2 * U) : m + U ≤ O := by omega
theorem room_n {O U m n : Nat} (hO : O = 1099511627776 * U) (y2 : 2 * m ≤ O + 2 * U) (a : n + 16000 * U ≤ m) : n + U ≤ O := by omega
theorem room_h {O U n q0 : Nat} (q1 : q0 + n ≤ O + U) : q0 ≤ O + U := by omega
theorem room_f {O U fv : Nat} (f2 : fv + 134217728 * U ≤ O) : fv + U ≤ O ∧ fv + 67108864 * U ≤ O := by omega
theorem room_g {O U fv g : Nat} (hU : 0 < U) (f1 : 134217728 * U ≤ fv) (f2 : fv + 134217728 * U ≤ O) (g1 : g + fv ≤ O + U) (g2 : O ≤ g + fv + U) : 67108864 * U ≤ g ∧ g + 67108864 * U ≤ O ∧ 67108864 * U ≤ fv := by omega
/-- the three parts of a colour in a field -/
theorem rgb_field {y f : UInt64} {m fv : Nat} (hy : IsF y m) (y1 : 268435456 * UU ≤ m) (y2 : 2 * m ≤ OO + 2 * UU) (hf : IsF f fv) (f1 : 134217728 * UU ≤ fv) (f2 : fv + 134217728 * UU ≤ OO) :
    ∃ p q t : Nat, IsF (Float64.mul halfF (Float64.sub oneF y)) p ∧ IsF (Float64.mul halfF (Float64.sub oneF (Float64.mul y f))) q ∧ IsF (Float64.mul halfF (Float64.sub oneF (Float64.mul y (Float64.sub oneF f)))) t ∧
      p < q ∧ p < t ∧ q < 549755813888 * UU ∧ t < 549755813888 * UU := by
  have hO := OO_eq
  have hU := UU_pos
  obtain ⟨g, hg, g1, g2⟩ := one_minus hf (room_f f2).1
  obtain ⟨h1, h2, h3⟩ := room_g hU f1 f2 g1 g2
  obtain ⟨n1, hn1, a1, a2⟩ := mul_frac hy y1 y2 hf h3 (room_f f2).2
  obtain ⟨n2, hn2, b1, b2⟩ := mul_frac hy y1 y2 hg h1 h2
  obtain ⟨p0, hp0, p1, p2⟩ := one_minus hy (room_y hO y2)
  obtain ⟨q0, hq0, q1, q2⟩ := one_minus hn1 (room_n hO y2 a2)
  obtain ⟨t0, ht0, t1, t2⟩ := one_minus hn2 (room_n hO y2 b2)
  obtain ⟨p, hp, p3, p4⟩ := half_mul hp0 (room_h p1)
  obtain ⟨q, hq, q3, q4⟩ := half_mul hq0 (room_h q1)
  obtain ⟨t, ht, t3, t4⟩ := half_mul ht0 (room_h t1)
  exact ⟨p, q, t, hp, hq, ht, part_low hU p1 p3 q2 q4 a2, part_low hU p1 p3 t2 t4 b2, part_top hO hU q1 q3 a1, part_top hO hU t1 t3 b1⟩
theorem rgb_low {y : UInt64} {m : Nat} (hy : IsF y m) (y1 : 268435456 * UU ≤ m) (y2 : 2 * m ≤ OO + 2 * UU) : ∃ p : Nat, IsF (Float64.mul halfF (Float64.sub oneF y)) p ∧ p < 549755813888 * UU := by
  have hO := OO_eq
  have hU := UU_pos
  obtain ⟨p0, hp0, p1, p2⟩ := one_minus hy (room_y hO y2)
  obtain ⟨p, hp, p3, p4⟩ := half_mul hp0 (room_h p1)
  exact ⟨p, hp, part_top hO hU p1 p3 (Nat.le_trans (Nat.mul_le_mul_right _ (by decide)) y1)⟩
theorem mul_zero_right {y : UInt64} {m : Nat} (hy : IsF y m) (h : 0 < m) : Float64.mul y 0 = 0 := by
  obtain ⟨s1, _, _, d1, v1, g1⟩ := hy.sign
  have d2 : decode 0 = .fin false 0 (-1074) := by kernel_rfl
  have r := Float64.mul_right d1 d2
  rw [show val 0 = 0 by decide +kernel, g1 h, v1, Int.natAbs_natCast] at r
  obtain ⟨t, hr, ht, hn⟩ := near r (Nat.two_pow_pos _) (by simp)
  have e : V t = V 0 := by
    rw [Float64.V_zero]
    exact Rnd.zero (D := 2 ^ 1074) (by simpa using hn)
  rw [hr, V_inj e]
  decide +kernel
theorem mul_one_right {y : UInt64} {m : Nat} (hy : IsF y m) (h : 0 < m) (hm : m ≤ OO) : Float64.mul y oneF = y := by
  obtain ⟨n, hn, hr⟩ := hy.mulN one_is (by
    have : m * OO ≤ OO * OO := Nat.mul_le_mul_right _ hm
    have e2 : 8 * OO * OO = 8 * (OO * OO) := Nat.mul_assoc ..
    omega)
  have e : n = m := by
    obtain ⟨s, t, ht, rfl, hv⟩ := hy
    have e1 : V t = m := by
      have := congrArg Int.natAbs hv
      rw [Float64.sgn_natAbs, Int.natAbs_natCast] at this
      exact this
    rw [← e1]
    exact hr.exact (by rw [e1, Nat.mul_comm])
  rw [e] at hn
  exact hn.bits hy h
theorem vote_gt {x y : UInt64} {a b : Nat} (hx : IsF x a) (hy : IsF y b) (h : b < a) : voteI x y = 2 := by
  unfold voteI
  rw [hx.cmp hy, Int.compare_eq_gt.mpr (by omega)]; rfl
theorem vote_lt {x y : UInt64} {a b : Nat} (hx : IsF x a) (hy : IsF y b) (h : a < b) : voteI x y = 0 := by
  unfold voteI
  rw [hx.cmp hy, Int.compare_eq_lt.mpr (by omega)]; rfl
theorem vote_eq {x : UInt64} {a : Nat} (hx : IsF x a) : voteI x x = 1 := by
  unfold voteI
  rw [hx.cmp hx, Int.compare_eq_eq.mpr rfl]; rfl
end floats5

end
section
set_option exponentiation.threshold 3000
set_option linter.unusedVariables false
set_option linter.unusedSimpArgs false
section floats6
open PySem.Float64 (V decode val pack sgn infMag dist Right)
/-- the vote of a place on the wheel -/
noncomputable def pv (k : Nat) : Int × Int × Int :=
  [(2, 1, 0), (2, 2, 0), (1, 2, 0), (0, 2, 0), (0, 2, 1), (0, 2, 2), (0, 1, 2), (0, 0, 2), (1, 0, 2), (2, 0, 2), (2, 0, 1), (2, 0, 0)].getD k (1, 1, 1)
noncomputable def hueC (h : UInt64) : UInt64 := (Float64.divmod (Float64.div h sixF) oneF).snd
noncomputable def rgbAt (i : Nat) (p q t : UInt64) : UInt64 × UInt64 × UInt64 := match i with
  | 0 => (halfF, t, p)
  | 1 => (q, halfF, p)
  | 2 => (p, halfF, t)
  | 3 => (p, q, halfF)
  | 4 => (t, p, halfF)
  | _ => (halfF, p, q)
theorem six_cases {i : Nat} (h : i ≤ 5) : i = 0 ∨ i = 1 ∨ i = 2 ∨ i = 3 ∨ i = 4 ∨ i = 5 := by omega
theorem rgbOf_at {x y : UInt64} {i : Nat} (hi : i ≤ 5) (hy : (Float64.cmp y 0 == some Ordering.eq) = false) (hI : Flt.toInt Float64.truncOf (Float64.mul x sixF) = i) :
    rgbOf x y halfF = rgbAt i (Float64.mul halfF (Float64.sub oneF y)) (Float64.mul halfF (Float64.sub oneF (Float64.mul y (Float64.sub (Float64.mul x sixF) (Float64.ofInt i)))))
      (Float64.mul halfF (Float64.sub oneF (Float64.mul y (Float64.sub oneF (Float64.sub (Float64.mul x sixF) (Float64.ofInt i)))))) := by
  unfold rgbOf
  dsimp only
  rw [hI, hy, if_neg (by decide)]
  rcases six_cases hi with rfl | rfl | rfl | rfl | rfl | rfl <;> rfl
noncomputable def votesL (c : UInt64 × UInt64 × UInt64) : List Int := [voteI c.1 c.2.1, voteI c.2.1 c.2.2, voteI c.2.2 c.1]
noncomputable def pvL (k : Nat) : List Int := [(pv k).1, (pv k).2.1, (pv k).2.2]
theorem votes_field {P Q T : UInt64} {p q t i : Nat} (hi : i ≤ 5) (hp : IsF P p) (hq : IsF Q q) (ht : IsF T t) (h1 : p < q) (h2 : p < t) (h3 : q < 549755813888 * UU) (h4 : t < 549755813888 * UU) : votesL (rgbAt i P Q T) = pvL (2 * i + 1) := by
  have h5 := Nat.lt_trans h1 h3
  unfold votesL rgbAt
  rcases six_cases hi with rfl | rfl | rfl | rfl | rfl | rfl
  · show [voteI halfF T, voteI T P, voteI P halfF] = _
    rw [vote_gt half_is ht h4, vote_gt ht hp h2, vote_lt hp half_is h5]; rfl
  · show [voteI Q halfF, voteI halfF P, voteI P Q] = _
    rw [vote_lt hq half_is h3, vote_gt half_is hp h5, vote_lt hp hq h1]; rfl
  · show [voteI P halfF, voteI halfF T, voteI T P] = _
    rw [vote_lt hp half_is h5, vote_gt half_is ht h4, vote_gt ht hp h2]; rfl
  · show [voteI P Q, voteI Q halfF, voteI halfF P] = _
    rw [vote_lt hp hq h1, vote_lt hq half_is h3, vote_gt half_is hp h5]; rfl
  · show [voteI T P, voteI P halfF, voteI halfF T] = _
    rw [vote_gt ht hp h2, vote_lt hp half_is h5, vote_gt half_is ht h4]; rfl
  · show [voteI halfF P, voteI P Q, voteI Q halfF] = _
    rw [vote_gt half_is hp h5, vote_lt hp hq h1, vote_lt hq half_is h3]; rfl
theorem votes_corner {P : UInt64} {p i : Nat} (hi : i ≤ 5) (hp : IsF P p) (h : p < 549755813888 * UU) : votesL (rgbAt i P halfF P) = pvL (2 * i) := by
  unfold votesL rgbAt
  rcases six_cases hi with rfl | rfl | rfl | rfl | rfl | rfl
  · show [voteI halfF P, voteI P P, voteI P halfF] = _
    rw [vote_gt half_is hp h, vote_eq hp, vote_lt hp half_is h]; rfl
  · show [voteI halfF halfF, voteI halfF P, voteI P halfF] = _
    rw [vote_eq half_is, vote_gt half_is hp h, vote_lt hp half_is h]; rfl
  · show [voteI P halfF, voteI halfF P, voteI P P] = _
    rw [vote_lt hp half_is h, vote_gt half_is hp h, vote_eq hp]; rfl
  · show [voteI P halfF, voteI halfF halfF, voteI halfF P] = _
    rw [vote_lt hp half_is h, vote_eq half_is, vote_gt half_is hp h]; rfl
  · show [voteI P P, voteI P halfF, voteI halfF P] = _
    rw [vote_eq hp, vote_lt hp half_is h, vote_gt half_is hp h]; rfl
  · show [voteI halfF P, voteI P halfF, voteI halfF halfF] = _
    rw [vote_gt half_is hp h, vote_lt hp half_is h, vote_eq half_is]; rfl
theorem not_zero {x : UInt64} {n : Nat} (h : IsF x n) (h0 : 0 < n) : (Float64.cmp x 0 == some Ordering.eq) = false := by
  rw [h.cmp zero_is, Int.compare_eq_gt.mpr (by omega)]; rfl
theorem FL_pos {x y : Nat} (hx : x ≤ 1024) (h : y < x) : (¬ Float64.isZero (FL x) = true) ∧ ¬ Float64.isZero (Float64.sub (FL x) (FL y)) = true := by
  have a : 0 < x * KK := Nat.mul_pos (by omega) KK_pos
  have b : 0 < (x - y) * KK := Nat.mul_pos (by omega) KK_pos
  exact ⟨fun z => by have := (FL_is hx).zeroIff.mp z; omega, fun z => by have := (FL_sub hx (Nat.le_of_lt h)).zeroIff.mp z; omega⟩
theorem huge (i : Nat) (hi : i ≤ 5) : ¬ 2 ^ 1024 - 2 ^ 970 ≤ ((i : Nat) : Int).natAbs := by
  rw [Int.natAbs_natCast]
  exact Nat.not_le.mpr (Nat.lt_of_le_of_lt hi (by decide +kernel))
theorem color_field {r g b : UInt64} {x y i : Nat} (hx : x ≤ 1024) (hyx : y < x) (hM : max3 r g b = FL x) (hm : min3 r g b = FL y)
    (hs : (hsvOf r g b).2.1 = Float64.div (Float64.sub (FL x) (FL y)) (FL x)) (hue : FieldHue (hsvOf r g b).1 i) (hi : i ≤ 5) (hv : [voteI r g, voteI g b, voteI b r] = pvL (2 * i + 1)) : ColorOk r g b (2 * (i : Int) + 1) := by
  obtain ⟨n, hn, n1, n2⟩ := share hx hyx
  obtain ⟨m, hm2, m1, m2⟩ := halved hn n1 n2
  obtain ⟨k, hk, k1, k2⟩ := field_right hue hi
  obtain ⟨l, hl, l1, l2⟩ := field_left hue hi
  obtain ⟨fv, hf, f1, f2⟩ := field_f hue hi
  obtain ⟨p, q, t, hp, hq, ht, a1, a2, a3, a4⟩ := rgb_field hm2 m1 m2 hf f1 f2
  have hU := UU_pos
  have hO := OO_eq
  have s0 : (Float64.cmp (hsvOf r g b).2.1 0 == some Ordering.eq) = false := by rw [hs]; exact not_zero hn (by omega)
  have y0 : (Float64.cmp (Float64.div (hsvOf r g b).2.1 (Float64.ofInt 2)) 0 == some Ordering.eq) = false := by rw [hs]; exact not_zero hm2 (by omega)
  have hI := trunc_in hk k1 k2
  refine ⟨fun _ => by rw [hM]; exact (FL_pos hx hyx).1, fun _ => by rw [hM, hm]; exact (FL_pos hx hyx).2, fun _ => hl.notNaN, fun _ => hl.notInf, field_place hue hi s0, fun _ => hk.notNaN, fun _ => hk.notInf, fun _ => by rw [hI]; exact huge i hi, ?_⟩
  show votesL (rgbOf (hsvOf r g b).1 (Float64.div (hsvOf r g b).2.1 (Float64.ofInt 2)) halfF) = _
  rw [rgbOf_at hi y0 hI, hv, hs]
  exact votes_field hi hp hq ht a1 a2 a3 a4
/-- a hue at a corner -/
noncomputable def CornerHue (x : UInt64) (i : Nat) : Prop := Float64.isNaN (Float64.mul sixF x) = false ∧ Float64.isInf (Float64.mul sixF x) = false ∧ Flt.toInt Float64.truncOf (Float64.mul sixF x) = i ∧ Float64.cmpInt (Float64.mul sixF x) i = some .eq ∧
  Float64.isNaN (Float64.mul x sixF) = false ∧ Float64.isInf (Float64.mul x sixF) = false ∧ Flt.toInt Float64.truncOf (Float64.mul x sixF) = i ∧ Float64.sub (Float64.mul x sixF) (Float64.ofInt i) = 0
theorem color_corner {r g b : UInt64} {x y i : Nat} (hx : x ≤ 1024) (hyx : y < x) (hM : max3 r g b = FL x) (hm : min3 r g b = FL y)
    (hs : (hsvOf r g b).2.1 = Float64.div (Float64.sub (FL x) (FL y)) (FL x)) (hue : CornerHue (hsvOf r g b).1 i) (hi : i ≤ 5) (hv : [voteI r g, voteI g b, voteI b r] = pvL (2 * i)) : ColorOk r g b (2 * (i : Int)) := by
  obtain ⟨n, hn, n1, n2⟩ := share hx hyx
  obtain ⟨m, hm2, m1, m2⟩ := halved hn n1 n2
  obtain ⟨p, hp, a1⟩ := rgb_low hm2 m1 m2
  obtain ⟨c1, c2, c3, c4, c5, c6, c7, c8⟩ := hue
  have hU := UU_pos
  have hO := OO_eq
  have s0 : (Float64.cmp (hsvOf r g b).2.1 0 == some Ordering.eq) = false := by rw [hs]; exact not_zero hn (by omega)
  have y0 : (Float64.cmp (Float64.div (hsvOf r g b).2.1 (Float64.ofInt 2)) 0 == some Ordering.eq) = false := by rw [hs]; exact not_zero hm2 (by omega)
  refine ⟨fun _ => by rw [hM]; exact (FL_pos hx hyx).1, fun _ => by rw [hM, hm]; exact (FL_pos hx hyx).2, fun _ => by rw [c1]; decide, fun _ => by rw [c2]; decide, ?_, fun _ => by rw [c5]; decide, fun _ => by rw [c6]; decide, fun _ => by rw [c7]; exact huge i hi, ?_⟩
  · unfold placeF
    rw [s0, if_neg (by decide), c3, c4]
    show 2 * (i : Int) + 0 = _
    rw [Int.add_zero]
  · show votesL (rgbOf (hsvOf r g b).1 (Float64.div (hsvOf r g b).2.1 (Float64.ofInt 2)) halfF) = _
    rw [rgbOf_at hi y0 c7, hv, hs, c8, mul_zero_right hm2 (by omega), show Float64.sub oneF 0 = oneF by decide +kernel, mul_one_right hm2 (by omega) (by omega), show Float64.mul halfF oneF = halfF by decide +kernel]
    exact votes_corner hi hp a1
theorem hsv_r {r g b : UInt64} {x y : Nat} (hM : max3 r g b = FL x) (hm : min3 r g b = FL y) (h0 : (Float64.cmp (FL y) (FL x) == some Ordering.eq) = false) (h1 : (Float64.cmp r (FL x) == some Ordering.eq) = true) :
    hsvOf r g b = (hueC (Float64.sub (Float64.div (Float64.sub (FL x) b) (Float64.sub (FL x) (FL y))) (Float64.div (Float64.sub (FL x) g) (Float64.sub (FL x) (FL y)))), Float64.div (Float64.sub (FL x) (FL y)) (FL x), FL x) := by
  unfold hsvOf
  rw [hM, hm, h0, h1, if_neg (by decide), if_pos rfl]; rfl
theorem hsv_g {r g b : UInt64} {x y : Nat} (hM : max3 r g b = FL x) (hm : min3 r g b = FL y) (h0 : (Float64.cmp (FL y) (FL x) == some Ordering.eq) = false) (h1 : (Float64.cmp r (FL x) == some Ordering.eq) = false) (h2 : (Float64.cmp g (FL x) == some Ordering.eq) = true) :
    hsvOf r g b = (hueC (Float64.sub (Float64.add twoF (Float64.div (Float64.sub (FL x) r) (Float64.sub (FL x) (FL y)))) (Float64.div (Float64.sub (FL x) b) (Float64.sub (FL x) (FL y)))), Float64.div (Float64.sub (FL x) (FL y)) (FL x), FL x) := by
  unfold hsvOf
  rw [hM, hm, h0, h1, h2, if_neg (by decide), if_neg (by decide), if_pos rfl]; rfl
theorem hsv_b {r g b : UInt64} {x y : Nat} (hM : max3 r g b = FL x) (hm : min3 r g b = FL y) (h0 : (Float64.cmp (FL y) (FL x) == some Ordering.eq) = false) (h1 : (Float64.cmp r (FL x) == some Ordering.eq) = false) (h2 : (Float64.cmp g (FL x) == some Ordering.eq) = false) :
    hsvOf r g b = (hueC (Float64.sub (Float64.add fourF (Float64.div (Float64.sub (FL x) g) (Float64.sub (FL x) (FL y)))) (Float64.div (Float64.sub (FL x) r) (Float64.sub (FL x) (FL y)))), Float64.div (Float64.sub (FL x) (FL y)) (FL x), FL x) := by
  unfold hsvOf
  rw [hM, hm, h0, h1, h2, if_neg (by decide), if_neg (by decide), if_neg (by decide)]; rfl
theorem FL_cmp {a b : Nat} (ha : a ≤ 1024) (hb : b ≤ 1024) : Float64.cmp (FL a) (FL b) = some (if a < b then .lt else if a = b then .eq else .gt) := by
  rw [(FL_is ha).cmp (FL_is hb)]
  rcases Nat.lt_trichotomy a b with g | g | g
  · rw [if_pos g, Int.compare_eq_lt.mpr (Int.ofNat_lt.mpr (Nat.mul_lt_mul_of_pos_right g KK_pos))]
  · subst g
    rw [if_neg (Nat.lt_irrefl _), if_pos rfl, Int.compare_eq_eq.mpr rfl]
  · rw [if_neg (by omega), if_neg (by omega), Int.compare_eq_gt.mpr (Int.ofNat_lt.mpr (Nat.mul_lt_mul_of_pos_right g KK_pos))]
theorem FL_lt {a b : Nat} (hb : b ≤ 1024) (h : a < b) : Float64.cmp (FL a) (FL b) = some .lt := by rw [FL_cmp (by omega) hb, if_pos h]
theorem FL_gt {a b : Nat} (ha : a ≤ 1024) (h : b < a) : Float64.cmp (FL a) (FL b) = some .gt := by rw [FL_cmp ha (by omega), if_neg (by omega), if_neg (by omega)]
theorem FL_eq {a : Nat} (ha : a ≤ 1024) : Float64.cmp (FL a) (FL a) = some .eq := by rw [FL_cmp ha ha, if_neg (by omega), if_pos rfl]
theorem hue_first {q : UInt64} {n : Nat} (hq : IsF q n) (h1 : OO ≤ 1024 * n + 1024 * UU) (h2 : 1024 * n + OO ≤ 1024 * OO + 1024 * UU) : FieldHue (hueC (Float64.sub oneF q)) 0 := by
  have hO := OO_eq
  have hU := UU_pos
  obtain ⟨v, hv, v1, v2⟩ := one_minus hq (by omega)
  exact hue_pos hv (by decide) (by omega) (by omega)
theorem hue_last {q : UInt64} {n : Nat} (hq : IsF q n) (h1 : OO ≤ 1024 * n + 1024 * UU) (h2 : 1024 * n + OO ≤ 1024 * OO + 1024 * UU) : FieldHue (hueC (Float64.sub q oneF)) 5 := by
  have hO := OO_eq
  have hU := UU_pos
  obtain ⟨c, hc, c1, c2, _⟩ := hq.sub one_is (by omega)
  obtain ⟨v, e⟩ := Int.eq_ofNat_of_zero_le (show 0 ≤ -c by omega)
  have e2 : c = -(v : Int) := by omega
  subst e2
  exact hue_neg hc (by omega) (by omega)
theorem hue_up {K q : UInt64} {n k : Nat} (hk : k ≤ 3) (hK : IsF K (((k + 1) * OO : Nat) : Int)) (hq : IsF q n) (h1 : OO ≤ 1024 * n + 1024 * UU) (h2 : 1024 * n + OO ≤ 1024 * OO + 1024 * UU) : FieldHue (hueC (Float64.sub (Float64.add K q) oneF)) k := by
  have hO := OO_eq
  have hU := UU_pos
  have e : (k + 1) * OO = k * OO + OO := Nat.succ_mul ..
  have e3 : k * OO ≤ 3 * OO := Nat.mul_le_mul_right _ hk
  rw [e] at hK
  obtain ⟨c, hc, c1, c2, _⟩ := hK.add hq (by omega)
  obtain ⟨u, rfl⟩ := Int.eq_ofNat_of_zero_le (show 0 ≤ c by omega)
  obtain ⟨d, hd, d1, d2, _⟩ := hc.sub one_is (by omega)
  obtain ⟨v, rfl⟩ := Int.eq_ofNat_of_zero_le (show 0 ≤ d by omega)
  exact hue_pos hd (by omega) (by omega) (by omega)
theorem hue_down {K q : UInt64} {n k : Nat} (hk : k ≤ 4) (hK : IsF K ((k * OO : Nat) : Int)) (hq : IsF q n) (h1 : OO ≤ 1024 * n + 1024 * UU) (h2 : 1024 * n + OO ≤ 1024 * OO + 1024 * UU) : FieldHue (hueC (Float64.sub (Float64.add K oneF) q)) k := by
  have hO := OO_eq
  have hU := UU_pos
  have e : (k + 1) * OO = k * OO + OO := Nat.succ_mul ..
  have e3 : k * OO ≤ 4 * OO := Nat.mul_le_mul_right _ hk
  obtain ⟨c, hc, c1, c2, _⟩ := hK.add one_is (by omega)
  obtain ⟨u, rfl⟩ := Int.eq_ofNat_of_zero_le (show 0 ≤ c by omega)
  obtain ⟨d, hd, d1, d2, _⟩ := hc.sub hq (by omega)
  obtain ⟨v, rfl⟩ := Int.eq_ofNat_of_zero_le (show 0 ≤ d by omega)
  exact hue_pos hd (by omega) (by omega) (by omega)
theorem vFL_gt {a b : Nat} (ha : a ≤ 1024) (h : b < a) : voteI (FL a) (FL b) = 2 := by unfold voteI; rw [FL_gt ha h]; rfl
theorem vFL_lt {a b : Nat} (hb : b ≤ 1024) (h : a < b) : voteI (FL a) (FL b) = 0 := by unfold voteI; rw [FL_lt hb h]; rfl
theorem vFL_eq {a : Nat} (ha : a ≤ 1024) : voteI (FL a) (FL a) = 1 := by unfold voteI; rw [FL_eq ha]; rfl
noncomputable def ColorAt (a b c k : Nat) : Prop := ColorOk (FL a) (FL b) (FL c) k ∧ [voteI (FL a) (FL b), voteI (FL b) (FL c), voteI (FL c) (FL a)] = pvL k

theorem color_0 {a b : Nat} (h1 : b < a) (hM : a ≤ 1024) : ColorAt a b b 0 := by
  have e1 : max3 (FL a) (FL b) (FL b) = FL a := by unfold max3 fgt; simp only [(FL_lt hM h1), (FL_eq (Nat.le_of_lt (Nat.lt_of_lt_of_le h1 hM))), (FL_lt hM h1)]; try rfl
  have e2 : min3 (FL a) (FL b) (FL b) = FL b := by unfold min3 flt; simp only [(FL_lt hM h1), (FL_eq (Nat.le_of_lt (Nat.lt_of_lt_of_le h1 hM))), (FL_lt hM h1)]; try rfl
  have e3 : (Float64.cmp (FL b) (FL a) == some Ordering.eq) = false := by rw [(FL_lt hM h1)]; rfl
  have e4 := hsv_r e1 e2 e3 (by rw [(FL_eq hM)]; rfl)
  have hv : [voteI (FL a) (FL b), voteI (FL b) (FL b), voteI (FL b) (FL a)] = pvL 0 := by rw [vFL_gt hM h1, vFL_eq (Nat.le_of_lt (Nat.lt_of_lt_of_le h1 hM)), vFL_lt hM h1]; rfl
  rw [ratio_one hM h1] at e4
  exact ⟨color_corner (i := 0) hM h1 e1 e2 (by rw [e4]) (by rw [e4]; dsimp only; unfold CornerHue; decide +kernel) (by decide) hv, hv⟩
theorem color_1 {a b c : Nat} (h1 : c < b) (h2 : b < a) (hM : a ≤ 1024) : ColorAt a b c 1 := by
  have e1 : max3 (FL a) (FL b) (FL c) = FL a := by unfold max3 fgt; simp only [(FL_lt hM h2), (FL_lt (Nat.le_of_lt (Nat.lt_of_lt_of_le h2 hM)) h1), (FL_lt hM (Nat.lt_trans h1 h2))]; try rfl
  have e2 : min3 (FL a) (FL b) (FL c) = FL c := by unfold min3 flt; simp only [(FL_lt hM h2), (FL_lt (Nat.le_of_lt (Nat.lt_of_lt_of_le h2 hM)) h1), (FL_lt hM (Nat.lt_trans h1 h2))]; try rfl
  have e3 : (Float64.cmp (FL c) (FL a) == some Ordering.eq) = false := by rw [(FL_lt hM (Nat.lt_trans h1 h2))]; rfl
  have e4 := hsv_r e1 e2 e3 (by rw [(FL_eq hM)]; rfl)
  have hv : [voteI (FL a) (FL b), voteI (FL b) (FL c), voteI (FL c) (FL a)] = pvL 1 := by rw [vFL_gt hM h2, vFL_gt (Nat.le_of_lt (Nat.lt_of_lt_of_le h2 hM)) h1, vFL_lt hM (Nat.lt_trans h1 h2)]; rfl
  rw [ratio_one hM (Nat.lt_trans h1 h2)] at e4
  obtain ⟨n, hn, n1, n2⟩ := ratio hM h1 h2
  exact ⟨color_field (i := 0) hM (Nat.lt_trans h1 h2) e1 e2 (by rw [e4]) (by rw [e4]; exact hue_first hn n1 n2) (by decide) hv, hv⟩
theorem color_2 {a c : Nat} (h1 : c < a) (hM : a ≤ 1024) : ColorAt a a c 2 := by
  have e1 : max3 (FL a) (FL a) (FL c) = FL a := by unfold max3 fgt; simp only [(FL_eq hM), (FL_lt hM h1), (FL_lt hM h1)]; try rfl
  have e2 : min3 (FL a) (FL a) (FL c) = FL c := by unfold min3 flt; simp only [(FL_eq hM), (FL_lt hM h1), (FL_lt hM h1)]; try rfl
  have e3 : (Float64.cmp (FL c) (FL a) == some Ordering.eq) = false := by rw [(FL_lt hM h1)]; rfl
  have e4 := hsv_r e1 e2 e3 (by rw [(FL_eq hM)]; rfl)
  have hv : [voteI (FL a) (FL a), voteI (FL a) (FL c), voteI (FL c) (FL a)] = pvL 2 := by rw [vFL_eq hM, vFL_gt hM h1, vFL_lt hM h1]; rfl
  rw [ratio_one hM h1, ratio_zero hM h1] at e4
  exact ⟨color_corner (i := 1) hM h1 e1 e2 (by rw [e4]) (by rw [e4]; dsimp only; unfold CornerHue; decide +kernel) (by decide) hv, hv⟩
theorem color_3 {a b c : Nat} (h1 : c < a) (h2 : a < b) (hM : b ≤ 1024) : ColorAt a b c 3 := by
  have e1 : max3 (FL a) (FL b) (FL c) = FL b := by unfold max3 fgt; simp only [(FL_gt hM h2), (FL_lt hM (Nat.lt_trans h1 h2)), (FL_lt (Nat.le_of_lt (Nat.lt_of_lt_of_le h2 hM)) h1)]; try rfl
  have e2 : min3 (FL a) (FL b) (FL c) = FL c := by unfold min3 flt; simp only [(FL_gt hM h2), (FL_lt hM (Nat.lt_trans h1 h2)), (FL_lt (Nat.le_of_lt (Nat.lt_of_lt_of_le h2 hM)) h1)]; try rfl
  have e3 : (Float64.cmp (FL c) (FL b) == some Ordering.eq) = false := by rw [(FL_lt hM (Nat.lt_trans h1 h2))]; rfl
  have e4 := hsv_g e1 e2 e3 (by rw [(FL_lt hM h2)]; rfl) (by rw [(FL_eq hM)]; rfl)
  have hv : [voteI (FL a) (FL b), voteI (FL b) (FL c), voteI (FL c) (FL a)] = pvL 3 := by rw [vFL_lt hM h2, vFL_gt hM (Nat.lt_trans h1 h2), vFL_lt (Nat.le_of_lt (Nat.lt_of_lt_of_le h2 hM)) h1]; rfl
  rw [ratio_one hM (Nat.lt_trans h1 h2)] at e4
  obtain ⟨n, hn, n1, n2⟩ := ratio hM h1 h2
  exact ⟨color_field (i := 1) hM (Nat.lt_trans h1 h2) e1 e2 (by rw [e4]) (by rw [e4]; exact hue_up (by decide) two_is hn n1 n2) (by decide) hv, hv⟩
theorem color_4 {a b : Nat} (h1 : a < b) (hM : b ≤ 1024) : ColorAt a b a 4 := by
  have e1 : max3 (FL a) (FL b) (FL a) = FL b := by unfold max3 fgt; simp only [(FL_gt hM h1), (FL_lt hM h1), (FL_eq (Nat.le_of_lt (Nat.lt_of_lt_of_le h1 hM)))]; try rfl
  have e2 : min3 (FL a) (FL b) (FL a) = FL a := by unfold min3 flt; simp only [(FL_gt hM h1), (FL_lt hM h1), (FL_eq (Nat.le_of_lt (Nat.lt_of_lt_of_le h1 hM)))]; try rfl
  have e3 : (Float64.cmp (FL a) (FL b) == some Ordering.eq) = false := by rw [(FL_lt hM h1)]; rfl
  have e4 := hsv_g e1 e2 e3 (by rw [(FL_lt hM h1)]; rfl) (by rw [(FL_eq hM)]; rfl)
  have hv : [voteI (FL a) (FL b), voteI (FL b) (FL a), voteI (FL a) (FL a)] = pvL 4 := by rw [vFL_lt hM h1, vFL_gt hM h1, vFL_eq (Nat.le_of_lt (Nat.lt_of_lt_of_le h1 hM))]; rfl
  rw [ratio_one hM h1] at e4
  exact ⟨color_corner (i := 2) hM h1 e1 e2 (by rw [e4]) (by rw [e4]; dsimp only; unfold CornerHue; decide +kernel) (by decide) hv, hv⟩
theorem color_5 {a b c : Nat} (h1 : a < c) (h2 : c < b) (hM : b ≤ 1024) : ColorAt a b c 5 := by
  have e1 : max3 (FL a) (FL b) (FL c) = FL b := by unfold max3 fgt; simp only [(FL_gt hM (Nat.lt_trans h1 h2)), (FL_lt hM h2), (FL_gt (Nat.le_of_lt (Nat.lt_of_lt_of_le h2 hM)) h1)]; try rfl
  have e2 : min3 (FL a) (FL b) (FL c) = FL a := by unfold min3 flt; simp only [(FL_gt hM (Nat.lt_trans h1 h2)), (FL_lt hM h2), (FL_gt (Nat.le_of_lt (Nat.lt_of_lt_of_le h2 hM)) h1)]; try rfl
  have e3 : (Float64.cmp (FL a) (FL b) == some Ordering.eq) = false := by rw [(FL_lt hM (Nat.lt_trans h1 h2))]; rfl
  have e4 := hsv_g e1 e2 e3 (by rw [(FL_lt hM (Nat.lt_trans h1 h2))]; rfl) (by rw [(FL_eq hM)]; rfl)
  have hv : [voteI (FL a) (FL b), voteI (FL b) (FL c), voteI (FL c) (FL a)] = pvL 5 := by rw [vFL_lt hM (Nat.lt_trans h1 h2), vFL_gt hM h2, vFL_gt (Nat.le_of_lt (Nat.lt_of_lt_of_le h2 hM)) h1]; rfl
  rw [ratio_one hM (Nat.lt_trans h1 h2)] at e4
  obtain ⟨n, hn, n1, n2⟩ := ratio hM h1 h2
  exact ⟨color_field (i := 2) hM (Nat.lt_trans h1 h2) e1 e2 (by rw [e4]) (by rw [e4]; exact hue_down (by decide) two_is hn n1 n2) (by decide) hv, hv⟩
theorem color_6 {a b : Nat} (h1 : a < b) (hM : b ≤ 1024) : ColorAt a b b 6 := by
  have e1 : max3 (FL a) (FL b) (FL b) = FL b := by unfold max3 fgt; simp only [(FL_gt hM h1), (FL_eq hM), (FL_gt hM h1)]; try rfl
  have e2 : min3 (FL a) (FL b) (FL b) = FL a := by unfold min3 flt; simp only [(FL_gt hM h1), (FL_eq hM), (FL_gt hM h1)]; try rfl
  have e3 : (Float64.cmp (FL a) (FL b) == some Ordering.eq) = false := by rw [(FL_lt hM h1)]; rfl
  have e4 := hsv_g e1 e2 e3 (by rw [(FL_lt hM h1)]; rfl) (by rw [(FL_eq hM)]; rfl)
  have hv : [voteI (FL a) (FL b), voteI (FL b) (FL b), voteI (FL b) (FL a)] = pvL 6 := by rw [vFL_lt hM h1, vFL_eq hM, vFL_gt hM h1]; rfl
  rw [ratio_one hM h1, ratio_zero hM h1] at e4
  exact ⟨color_corner (i := 3) hM h1 e1 e2 (by rw [e4]) (by rw [e4]; dsimp only; unfold CornerHue; decide +kernel) (by decide) hv, hv⟩
theorem color_7 {a b c : Nat} (h1 : a < b) (h2 : b < c) (hM : c ≤ 1024) : ColorAt a b c 7 := by
  have e1 : max3 (FL a) (FL b) (FL c) = FL c := by unfold max3 fgt; simp only [(FL_gt (Nat.le_of_lt (Nat.lt_of_lt_of_le h2 hM)) h1), (FL_gt hM h2), (FL_gt hM (Nat.lt_trans h1 h2))]; try rfl
  have e2 : min3 (FL a) (FL b) (FL c) = FL a := by unfold min3 flt; simp only [(FL_gt (Nat.le_of_lt (Nat.lt_of_lt_of_le h2 hM)) h1), (FL_gt hM h2), (FL_gt hM (Nat.lt_trans h1 h2))]; try rfl
  have e3 : (Float64.cmp (FL a) (FL c) == some Ordering.eq) = false := by rw [(FL_lt hM (Nat.lt_trans h1 h2))]; rfl
  have e4 := hsv_b e1 e2 e3 (by rw [(FL_lt hM (Nat.lt_trans h1 h2))]; rfl) (by rw [(FL_lt hM h2)]; rfl)
  have hv : [voteI (FL a) (FL b), voteI (FL b) (FL c), voteI (FL c) (FL a)] = pvL 7 := by rw [vFL_lt (Nat.le_of_lt (Nat.lt_of_lt_of_le h2 hM)) h1, vFL_lt hM h2, vFL_gt hM (Nat.lt_trans h1 h2)]; rfl
  rw [ratio_one hM (Nat.lt_trans h1 h2)] at e4
  obtain ⟨n, hn, n1, n2⟩ := ratio hM h1 h2
  exact ⟨color_field (i := 3) hM (Nat.lt_trans h1 h2) e1 e2 (by rw [e4]) (by rw [e4]; exact hue_up (by decide) four_is hn n1 n2) (by decide) hv, hv⟩
theorem color_8 {a c : Nat} (h1 : a < c) (hM : c ≤ 1024) : ColorAt a a c 8 := by
  have e1 : max3 (FL a) (FL a) (FL c) = FL c := by unfold max3 fgt; simp only [(FL_eq (Nat.le_of_lt (Nat.lt_of_lt_of_le h1 hM))), (FL_gt hM h1), (FL_gt hM h1)]; try rfl
  have e2 : min3 (FL a) (FL a) (FL c) = FL a := by unfold min3 flt; simp only [(FL_eq (Nat.le_of_lt (Nat.lt_of_lt_of_le h1 hM))), (FL_gt hM h1), (FL_gt hM h1)]; try rfl
  have e3 : (Float64.cmp (FL a) (FL c) == some Ordering.eq) = false := by rw [(FL_lt hM h1)]; rfl
  have e4 := hsv_b e1 e2 e3 (by rw [(FL_lt hM h1)]; rfl) (by rw [(FL_lt hM h1)]; rfl)
  have hv : [voteI (FL a) (FL a), voteI (FL a) (FL c), voteI (FL c) (FL a)] = pvL 8 := by rw [vFL_eq (Nat.le_of_lt (Nat.lt_of_lt_of_le h1 hM)), vFL_lt hM h1, vFL_gt hM h1]; rfl
  rw [ratio_one hM h1] at e4
  exact ⟨color_corner (i := 4) hM h1 e1 e2 (by rw [e4]) (by rw [e4]; dsimp only; unfold CornerHue; decide +kernel) (by decide) hv, hv⟩
theorem color_9 {a b c : Nat} (h1 : b < a) (h2 : a < c) (hM : c ≤ 1024) : ColorAt a b c 9 := by
  have e1 : max3 (FL a) (FL b) (FL c) = FL c := by unfold max3 fgt; simp only [(FL_lt (Nat.le_of_lt (Nat.lt_of_lt_of_le h2 hM)) h1), (FL_gt hM (Nat.lt_trans h1 h2)), (FL_gt hM h2)]; try rfl
  have e2 : min3 (FL a) (FL b) (FL c) = FL b := by unfold min3 flt; simp only [(FL_lt (Nat.le_of_lt (Nat.lt_of_lt_of_le h2 hM)) h1), (FL_gt hM (Nat.lt_trans h1 h2)), (FL_gt hM h2)]; try rfl
  have e3 : (Float64.cmp (FL b) (FL c) == some Ordering.eq) = false := by rw [(FL_lt hM (Nat.lt_trans h1 h2))]; rfl
  have e4 := hsv_b e1 e2 e3 (by rw [(FL_lt hM h2)]; rfl) (by rw [(FL_lt hM (Nat.lt_trans h1 h2))]; rfl)
  have hv : [voteI (FL a) (FL b), voteI (FL b) (FL c), voteI (FL c) (FL a)] = pvL 9 := by rw [vFL_gt (Nat.le_of_lt (Nat.lt_of_lt_of_le h2 hM)) h1, vFL_lt hM (Nat.lt_trans h1 h2), vFL_gt hM h2]; rfl
  rw [ratio_one hM (Nat.lt_trans h1 h2)] at e4
  obtain ⟨n, hn, n1, n2⟩ := ratio hM h1 h2
  exact ⟨color_field (i := 4) hM (Nat.lt_trans h1 h2) e1 e2 (by rw [e4]) (by rw [e4]; exact hue_down (by decide) four_is hn n1 n2) (by decide) hv, hv⟩
theorem color_10 {a b : Nat} (h1 : b < a) (hM : a ≤ 1024) : ColorAt a b a 10 := by
  have e1 : max3 (FL a) (FL b) (FL a) = FL a := by unfold max3 fgt; simp only [(FL_lt hM h1), (FL_gt hM h1), (FL_eq hM)]; try rfl
  have e2 : min3 (FL a) (FL b) (FL a) = FL b := by unfold min3 flt; simp only [(FL_lt hM h1), (FL_gt hM h1), (FL_eq hM)]; try rfl
  have e3 : (Float64.cmp (FL b) (FL a) == some Ordering.eq) = false := by rw [(FL_lt hM h1)]; rfl
  have e4 := hsv_r e1 e2 e3 (by rw [(FL_eq hM)]; rfl)
  have hv : [voteI (FL a) (FL b), voteI (FL b) (FL a), voteI (FL a) (FL a)] = pvL 10 := by rw [vFL_gt hM h1, vFL_lt hM h1, vFL_eq hM]; rfl
  rw [ratio_zero hM h1, ratio_one hM h1] at e4
  exact ⟨color_corner (i := 5) hM h1 e1 e2 (by rw [e4]) (by rw [e4]; dsimp only; unfold CornerHue; decide +kernel) (by decide) hv, hv⟩
theorem color_11 {a b c : Nat} (h1 : b < c) (h2 : c < a) (hM : a ≤ 1024) : ColorAt a b c 11 := by
  have e1 : max3 (FL a) (FL b) (FL c) = FL a := by unfold max3 fgt; simp only [(FL_lt hM (Nat.lt_trans h1 h2)), (FL_gt (Nat.le_of_lt (Nat.lt_of_lt_of_le h2 hM)) h1), (FL_lt hM h2)]; try rfl
  have e2 : min3 (FL a) (FL b) (FL c) = FL b := by unfold min3 flt; simp only [(FL_lt hM (Nat.lt_trans h1 h2)), (FL_gt (Nat.le_of_lt (Nat.lt_of_lt_of_le h2 hM)) h1), (FL_lt hM h2)]; try rfl
  have e3 : (Float64.cmp (FL b) (FL a) == some Ordering.eq) = false := by rw [(FL_lt hM (Nat.lt_trans h1 h2))]; rfl
  have e4 := hsv_r e1 e2 e3 (by rw [(FL_eq hM)]; rfl)
  have hv : [voteI (FL a) (FL b), voteI (FL b) (FL c), voteI (FL c) (FL a)] = pvL 11 := by rw [vFL_gt hM (Nat.lt_trans h1 h2), vFL_lt (Nat.le_of_lt (Nat.lt_of_lt_of_le h2 hM)) h1, vFL_lt hM h2]; rfl
  rw [ratio_one hM (Nat.lt_trans h1 h2)] at e4
  obtain ⟨n, hn, n1, n2⟩ := ratio hM h1 h2
  exact ⟨color_field (i := 5) hM (Nat.lt_trans h1 h2) e1 e2 (by rw [e4]) (by rw [e4]; exact hue_last hn n1 n2) (by decide) hv, hv⟩
theorem color_12 {a : Nat} (hM : a ≤ 1024) : ColorAt a a a 12 := by
  have e1 : max3 (FL a) (FL a) (FL a) = FL a := by unfold max3 fgt; simp only [FL_eq hM]; try rfl
  have e2 : min3 (FL a) (FL a) (FL a) = FL a := by unfold min3 flt; simp only [FL_eq hM]; try rfl
  have e4 : hsvOf (FL a) (FL a) (FL a) = (0, 0, FL a) := by unfold hsvOf; rw [e1, e2, FL_eq hM, if_pos (show (some Ordering.eq == some Ordering.eq) = true from rfl)]
  have c0 : (Float64.cmp 0 0 == some Ordering.eq) = true := by decide +kernel
  have c1 : (Float64.cmp (Float64.div 0 (Float64.ofInt 2)) 0 == some Ordering.eq) = true := by decide +kernel
  have hv : [voteI (FL a) (FL a), voteI (FL a) (FL a), voteI (FL a) (FL a)] = pvL 12 := by rw [vFL_eq hM]; rfl
  refine ⟨⟨fun z => ?_, fun z => ?_, fun z => ?_, fun z => ?_, ?_, fun z => ?_, fun z => ?_, fun z => ?_, ?_⟩, hv⟩
  · rw [e1, e2, FL_eq hM] at z; exact nomatch z
  · rw [e1, e2, FL_eq hM] at z; exact nomatch z
  · rw [e4] at z; exact nomatch c0.symm.trans z
  · rw [e4] at z; exact nomatch c0.symm.trans z
  · rw [e4]; unfold placeF; rw [c0]; rfl
  · rw [e4] at z; exact nomatch c1.symm.trans z
  · rw [e4] at z; exact nomatch c1.symm.trans z
  · rw [e4] at z; exact nomatch c1.symm.trans z
  · rw [e4, hv]
    have e5 : rgbOf 0 (Float64.div 0 (Float64.ofInt 2)) halfF = (halfF, halfF, halfF) := by unfold rgbOf; dsimp only; rw [c1, if_pos rfl]
    show votesL (rgbOf 0 (Float64.div 0 (Float64.ofInt 2)) halfF) = _
    rw [e5]
    show [voteI halfF halfF, voteI halfF halfF, voteI halfF halfF] = _
    rw [vote_eq half_is]; rfl
theorem color_all {a b c : Nat} (ha : a ≤ 1024) (hb : b ≤ 1024) (hc : c ≤ 1024) : ∃ k, k ≤ 12 ∧ ColorAt a b c k := by
  rcases Nat.lt_trichotomy a b with h1 | h1 | h1 <;> rcases Nat.lt_trichotomy b c with h2 | h2 | h2 <;> rcases Nat.lt_trichotomy a c with h3 | h3 | h3
  · exact ⟨7, by decide, color_7 h1 h2 hc⟩
  · omega
  · omega
  · exact ⟨6, by decide, by subst h2; exact color_6 (by omega) (by omega)⟩
  · omega
  · omega
  · exact ⟨5, by decide, color_5 h3 h2 hb⟩
  · exact ⟨4, by decide, by subst h3; exact color_4 (by omega) (by omega)⟩
  · exact ⟨3, by decide, color_3 h3 h1 hb⟩
  · exact ⟨8, by decide, by subst h1; exact color_8 (by omega) (by omega)⟩
  · omega
  · omega
  · omega
  · exact ⟨12, by decide, by subst h1; subst h2; exact color_12 ha⟩
  · omega
  · omega
  · omega
  · exact ⟨2, by decide, by subst h1; exact color_2 (by omega) (by omega)⟩
  · exact ⟨9, by decide, color_9 h1 h3 hc⟩
  · exact ⟨10, by decide, by subst h3; exact color_10 (by omega) (by omega)⟩
  · exact ⟨11, by decide, color_11 h2 h3 ha⟩
  · omega
  · omega
  · exact ⟨0, by decide, by subst h2; exact color_0 (by omega) (by omega)⟩
  · omega
  · omega
  · exact ⟨1, by decide, color_1 h2 h1 ha⟩
end floats6

end
section
/-- the letters of the votes' words (0: none there) -/
noncomputable def sevenL : List Nat := [0, 65, 97, 66, 98, 67, 99]
noncomputable def lowN (c : Nat) : Nat := if c = 65 then 97 else if c = 66 then 98 else if c = 67 then 99 else c
noncomputable def subN (a b : Nat) : Int := if a = b then 0 else if lowN a = lowN b then 1 else 2
theorem sub_seven : ∀ a ∈ sevenL, ∀ b ∈ sevenL, substI ⟨#[a]⟩ ⟨#[b]⟩ = subN a b := by decide +kernel
noncomputable def lettersB (x : Str) : Bool := x.cps.toList.all fun c => sevenL.contains c
theorem item_seven {x : Str} (h : lettersB x = true) (i : Int) : ∃ a ∈ sevenL, Txt.item x i = ⟨#[a]⟩ := by
  refine ⟨_, ?_, rfl⟩
  unfold Txt.charAt
  cases e : seqIndex? i x.length with
  | none => exact .head _
  | some j =>
    show (x.cps[j]?).getD 0 ∈ sevenL
    cases e2 : x.cps[j]? with
    | none => exact .head _
    | some c =>
      have := List.all_eq_true.mp h c (Array.mem_toList_iff.mpr (Array.mem_of_getElem? e2))
      exact List.contains_iff_mem.mp this
noncomputable def codeN (x : Str) : Nat := x.cps.toList.headD 0
noncomputable def inStepT (bc : Nat) (x : Str) (st : Int × Int × Int × List Int) (k : Int) : Int × Int × Int × List Int :=
  let d' := st.2.2.2.getD k.toNat 0
  let sub := st.1 + subN bc (codeN (Txt.item x k))
  let ins := (if d' < st.2.1 then d' else st.2.1) + 2
  let r' := if sub < ins then sub else ins
  (d', r', if r' < st.2.2.1 then r' else st.2.2.1, st.2.2.2.set k.toNat r')
noncomputable def inFoldT (bc : Nat) (x : Str) (st : Int × Int × Int × List Int) : Int × Int × Int × List Int := (rangeKs 0 x.length).foldl (inStepT bc x) st
theorem inFold_T {a : Nat} {x : Str} (ha : a ∈ sevenL) (h : lettersB x = true) (st : Int × Int × Int × List Int) : inFold ⟨#[a]⟩ x st = inFoldT a x st := by
  have e : inStep ⟨#[a]⟩ x = inStepT a x := by
    funext st k
    obtain ⟨b, hb, e⟩ := item_seven h k
    unfold inStep inStepT
    rw [e, sub_seven a ha b hb]
    rfl
  unfold inFold inFoldT
  rw [e]
/-- the row ahead of letter i, with the last distance -/
noncomputable def outT (x y : Str) : Nat → Int × List Int
  | 0 => (0, rangeInts 2 2 x.length)
  | i + 1 => let r := inFoldT (codeN (Txt.item y (i : Int))) x ((i : Int) * 2, (i : Int) * 2, 9223372036854775807, (outT x y i).2); (r.2.1, r.2.2.2)
theorem out_T {x y : Str} (hx : lettersB x = true) (hy : lettersB y = true) : ∀ i, outSt x y i = outT x y i
  | 0 => rfl
  | i + 1 => by
    obtain ⟨b, hb, e⟩ := item_seven hy (i : Int)
    unfold outSt outT
    rw [e, out_T hx hy i, inFold_T hb hx]
    rfl
/-- the rows in one pass: whether each row's least stays within the bound, the last distance, the row -/
noncomputable def outP (x y : Str) (mc : Int) : Nat → Bool × Int × List Int
  | 0 => (true, 0, rangeInts 2 2 x.length)
  | i + 1 => let o := outP x y mc i; let r := inFoldT (codeN (Txt.item y (i : Int))) x ((i : Int) * 2, (i : Int) * 2, 9223372036854775807, o.2.2); (o.1 && decide (r.2.2.1 ≤ mc), r.2.1, r.2.2.2)
theorem outP_T (x y : Str) (mc : Int) : ∀ i, (outP x y mc i).2 = outT x y i
  | 0 => rfl
  | i + 1 => by
    have ih := outP_T x y mc i
    show ((inFoldT _ x (_, _, _, (outP x y mc i).2.2)).2.1, (inFoldT _ x (_, _, _, (outP x y mc i).2.2)).2.2.2) = _
    rw [ih]; rfl
theorem outP_min {x y : Str} {mc : Int} : ∀ i, (outP x y mc i).1 = true → ∀ j, j < i → (inFoldT (codeN (Txt.item y (j : Int))) x ((j : Int) * 2, (j : Int) * 2, 9223372036854775807, (outT x y j).2)).2.2.1 ≤ mc
  | 0, _, j, hj => absurd hj (Nat.not_lt_zero j)
  | i + 1, h, j, hj => by
    have h' : ((outP x y mc i).1 && decide ((inFoldT (codeN (Txt.item y (i : Int))) x ((i : Int) * 2, (i : Int) * 2, 9223372036854775807, (outP x y mc i).2.2)).2.2.1 ≤ mc)) = true := h
    rw [Bool.and_eq_true] at h'
    rcases Nat.lt_or_ge j i with g | g
    · exact outP_min i h'.1 j g
    · have e : j = i := by omega
      subst e
      have := of_decide_eq_true h'.2
      rw [outP_T] at this
      exact this
/-! the same on lists of codes and small numbers: what the kernel reckons fast -/
noncomputable abbrev mk (xs : List Nat) : Str := ⟨xs.toArray⟩
theorem mk_len (xs : List Nat) : (mk xs).length = xs.length := by
  show xs.toArray.size = _
  exact List.size_toArray
theorem seq_nat (i n : Nat) : seqIndex? (i : Int) n = if i < n then some i else none := by
  have h0 : ¬ ((i : Int) < 0) := by omega
  by_cases h : i < n <;> simp [seqIndex?, h0, h]
theorem seq_back {j n : Nat} (h : j < n) : seqIndex? (-(j : Int) - 1) n = some (n - 1 - j) := by
  have h0 : -(j : Int) - 1 < 0 := by omega
  have e : -(j : Int) - 1 + (n : Int) = ((n - 1 - j : Nat) : Int) := by omega
  unfold seqIndex?
  simp only [h0, if_true, e]
  rw [if_pos (by rw [Bool.and_eq_true, decide_eq_true_eq, decide_eq_true_eq]; omega), Int.toNat_natCast]
theorem item_at_nat (xs : List Nat) (i : Nat) : Txt.item (mk xs) (i : Int) = ⟨#[xs.getD i 0]⟩ := by
  unfold Txt.item Txt.charAt
  rw [mk_len, seq_nat]
  rcases Nat.lt_or_ge i xs.length with h | h
  · rw [if_pos h]
    simp [List.getD_eq_getElem?_getD]
  · rw [if_neg (by omega)]
    simp [List.getD_eq_getElem?_getD, List.getElem?_eq_none h]
theorem item_back_nat (xs : List Nat) {j : Nat} (h : j < xs.length) : Txt.item (mk xs) (-(j : Int) - 1) = ⟨#[xs.reverse.getD j 0]⟩ := by
  unfold Txt.item Txt.charAt
  rw [mk_len, seq_back h, List.getD_eq_getElem?_getD, List.getElem?_reverse h]
  simp
theorem one_beq (a b : Nat) : ((⟨#[a]⟩ : Str) == ⟨#[b]⟩) = Nat.beq a b := by
  rw [Bool.eq_iff_iff, beq_iff_eq, Nat.beq_eq]
  constructor
  · intro h
    have h2 := congrArg (fun x : Str => x.cps.toList) h
    simpa using h2
  · rintro rfl; rfl
noncomputable def preL : List Nat → List Nat → Nat
  | a :: as, b :: bs => bif Nat.beq a b then preL as bs + 1 else 0
  | _, _ => 0
theorem drop_getD {xs : List Nat} {k : Nat} (h : k < xs.length) : xs.drop k = xs.getD k 0 :: xs.drop (k + 1) := by
  rw [List.drop_eq_getElem_cons h, List.getD_eq_getElem?_getD, List.getElem?_eq_getElem h]; rfl
theorem preK_L {xs ys : List Nat} (hx : xs.length = 6) (hy : ys.length = 6) : ∀ (n k : Nat), k ≤ 6 → 6 < n + k → preK (mk xs) (mk ys) n (k : Int) = ((k + preL (xs.drop k) (ys.drop k) : Nat) : Int)
  | 0, k, hk, h => by omega
  | n + 1, k, hk, h => by
    unfold preK
    rcases Nat.lt_or_ge k 6 with g | g
    · rw [if_pos (by omega), item_at_nat, item_at_nat, one_beq, drop_getD (xs := xs) (k := k) (by omega), drop_getD (xs := ys) (k := k) (by omega)]
      unfold preL
      cases e : Nat.beq (xs.getD k 0) (ys.getD k 0) with
      | true =>
        rw [if_pos rfl]
        have := preK_L hx hy n (k + 1) (by omega) (by omega)
        rw [show ((k : Int) + 1) = ((k + 1 : Nat) : Int) by omega, this]
        show _ = ((k + (preL _ _ + 1) : Nat) : Int)
        omega
      | false => rw [if_neg (by decide)]; rfl
    · rw [if_neg (by omega), List.drop_eq_nil_of_le (by omega)]
      (simp [preL]) <;> omega
theorem postK_L {xs ys : List Nat} (hxy : ys.length = xs.length) : ∀ (n j : Nat), j ≤ xs.length → xs.length < n + j → postK (mk xs) (mk ys) n (-(j : Int)) = -((j + preL (xs.reverse.drop j) (ys.reverse.drop j) : Nat) : Int)
  | 0, j, hj, h => by omega
  | n + 1, j, hj, h => by
    unfold postK
    rw [mk_len]
    rcases Nat.lt_or_ge j xs.length with g | g
    · rw [if_pos (by omega), item_back_nat xs g, item_back_nat ys (by omega), one_beq, drop_getD (xs := xs.reverse) (k := j) (by simpa using g), drop_getD (xs := ys.reverse) (k := j) (by simp; omega)]
      unfold preL
      cases e : Nat.beq (xs.reverse.getD j 0) (ys.reverse.getD j 0) with
      | true =>
        rw [if_pos rfl]
        have := postK_L hxy n (j + 1) (by omega) (by omega)
        rw [show (-(j : Int) - 1) = -((j + 1 : Nat) : Int) by omega, this]
        show _ = -((j + (preL _ _ + 1) : Nat) : Int)
        omega
      | false => rw [if_neg (by decide)]; rfl
    · rw [if_neg (by omega), List.drop_eq_nil_of_le (by simpa using g)]
      (simp [preL]) <;> omega
theorem slice_from_L (xs : List Nat) {k : Nat} (h : k ≤ xs.length) : Txt.slice (mk xs) (some (k : Int)) none = mk (xs.drop k) := by
  rw [slice_from_eq (b := xs.length) (by omega) (by rw [mk_len]; omega) (by rw [mk_len])]
  show mk ((xs.drop (k : Int).toNat).take ((xs.length : Int) - (k : Int)).toNat) = _
  rw [Int.toNat_natCast, List.take_of_length_le (by rw [List.length_drop]; omega)]
theorem slice_all_L (xs : List Nat) : Txt.slice (mk xs) none none = mk xs := by
  have e : Txt.slice (mk xs) none none = Txt.slice (mk xs) (some ((0 : Nat) : Int)) none := by
    unfold Txt.slice
    have : Builtin.Str.strSliceIndices none none 1 (mk xs).length = Builtin.Str.strSliceIndices (some ((0 : Nat) : Int)) none 1 (mk xs).length := by
      have h2 : (1 : Int) > 0 := by decide
      have h0 : ¬ (((0 : Nat) : Int) < 0) := by decide
      simp only [Builtin.Str.strSliceIndices, h2, h0, if_false, if_true]
      rw [show max 0 (min ((0 : Nat) : Int) (mk xs).length) = 0 from by omega]
    rw [this]
  rw [e, slice_from_L xs (Nat.zero_le _), List.drop_zero]
theorem cut_L (xs : List Nat) {j : Nat} (h : j ≤ xs.length) : cutS (mk xs) (-(j : Int)) = mk (xs.take (xs.length - j)) := by
  unfold cutS
  rcases Nat.eq_zero_or_pos j with e | e
  · subst e
    rw [if_pos (by omega), slice_all_L, Nat.sub_zero, List.take_length]
  · rw [if_neg (by omega), beq_iff_eq.mp (slice_closes_to_neg (x := mk xs) (j := -(j : Int)) (by omega) (by rw [mk_len]; omega) rfl)]
    show mk ((xs.drop (0 : Int).toNat).take (-(j : Int) + ((mk xs).length : Int) - 0).toNat) = _
    rw [mk_len, show (-(j : Int) + (xs.length : Int) - 0).toNat = xs.length - j by omega]
    rfl
theorem preL_le : ∀ xs ys : List Nat, preL xs ys ≤ xs.length
  | [], _ => by simp [preL]
  | _ :: _, [] => by simp [preL]
  | a :: as, b :: bs => by
    unfold preL
    cases Nat.beq a b with
    | true => have := preL_le as bs; show preL as bs + 1 ≤ as.length + 1; omega
    | false => exact Nat.zero_le _
noncomputable def lX (xs ys : List Nat) : List Nat := xs.drop (preL xs ys)
noncomputable def lY (xs ys : List Nat) : List Nat := ys.drop (preL xs ys)
noncomputable def lJ (xs ys : List Nat) : Nat := preL (lX xs ys).reverse (lY xs ys).reverse
noncomputable def lA (xs ys : List Nat) : List Nat := (lX xs ys).take ((lX xs ys).length - lJ xs ys)
noncomputable def lB (xs ys : List Nat) : List Nat := (lY xs ys).take ((lY xs ys).length - lJ xs ys)
theorem cuts_L {xs ys : List Nat} (hx : xs.length = 6) (hy : ys.length = 6) : lvX (mk xs) (mk ys) = mk (lX xs ys) ∧ lvY (mk xs) (mk ys) = mk (lY xs ys) ∧ lvA (mk xs) (mk ys) = mk (lA xs ys) ∧ lvB (mk xs) (mk ys) = mk (lB xs ys) ∧
    (lX xs ys).length ≤ 6 ∧ (lY xs ys).length = (lX xs ys).length ∧ (lB xs ys).length = (lA xs ys).length ∧ (lA xs ys).length ≤ 6 := by
  have p6 : preL xs ys ≤ 6 := by have := preL_le xs ys; omega
  have k1 : lvK (mk xs) (mk ys) = ((preL xs ys : Nat) : Int) := by
    unfold lvK
    have := preK_L hx hy 7 0 (by omega) (by omega)
    rw [show ((0 : Nat) : Int) = 0 from rfl] at this
    rw [this, List.drop_zero, List.drop_zero, Nat.zero_add]
  have x1 : lvX (mk xs) (mk ys) = mk (lX xs ys) := by unfold lvX; rw [k1, slice_from_L xs (by omega)]; rfl
  have y1 : lvY (mk xs) (mk ys) = mk (lY xs ys) := by unfold lvY; rw [k1, slice_from_L ys (by omega)]; rfl
  have l1 : (lX xs ys).length = 6 - preL xs ys := by unfold lX; rw [List.length_drop, hx]
  have l2 : (lY xs ys).length = 6 - preL xs ys := by unfold lY; rw [List.length_drop, hy]
  have j1 : lJ xs ys ≤ (lX xs ys).length := by have := preL_le (lX xs ys).reverse (lY xs ys).reverse; rw [List.length_reverse] at this; exact this
  have k2 : lvJ (mk xs) (mk ys) = -((lJ xs ys : Nat) : Int) := by
    unfold lvJ
    rw [x1, y1]
    have := postK_L (xs := lX xs ys) (ys := lY xs ys) (by omega) 7 0 (by omega) (by omega)
    rw [show -((0 : Nat) : Int) = 0 from rfl] at this
    rw [this, List.drop_zero, List.drop_zero, Nat.zero_add]; rfl
  refine ⟨x1, y1, ?_, ?_, by omega, by omega, ?_, ?_⟩
  · unfold lvA; rw [x1, k2, cut_L _ j1]; rfl
  · unfold lvB; rw [y1, k2, cut_L _ (by omega)]; rfl
  · have l12 : (lY xs ys).length = (lX xs ys).length := l2.trans l1.symm
    unfold lA lB; rw [List.length_take, List.length_take, l12]
  · unfold lA; rw [List.length_take]; exact Nat.le_trans (Nat.min_le_right _ _) (by rw [l1]; exact Nat.sub_le _ _)
/-! the rows, on small numbers -/
noncomputable def lowB (a b : Nat) : Nat := if a = b then 0 else if lowN a = lowN b then 1 else 2
theorem sub_low (a b : Nat) : subN a b = ((lowB a b : Nat) : Int) := by unfold subN lowB; split <;> (try split) <;> rfl
noncomputable def cellN (b : Nat) (A : List Nat) (st : Nat × Nat × Nat × List Nat) (k : Nat) : Nat × Nat × Nat × List Nat :=
  let d' := st.2.2.2.getD k 0
  let sub := st.1 + lowB b (A.getD k 0)
  let ins := (if d' < st.2.1 then d' else st.2.1) + 2
  let r' := if sub < ins then sub else ins
  (d', r', if r' < st.2.2.1 then r' else st.2.2.1, st.2.2.2.set k r')
noncomputable def upL (l : List Nat) : List Int := l.map fun (n : Nat) => (n : Int)
noncomputable def upS (st : Nat × Nat × Nat × List Nat) : Int × Int × Int × List Int := ((st.1 : Int), (st.2.1 : Int), (st.2.2.1 : Int), upL st.2.2.2)
theorem upL_get (l : List Nat) (k : Nat) : (upL l).getD k 0 = ((l.getD k 0 : Nat) : Int) := by
  unfold upL
  rw [List.getD_eq_getElem?_getD, List.getD_eq_getElem?_getD, List.getElem?_map]
  cases l[k]? <;> rfl
theorem up_if (a b : Nat) : (if (a : Int) < (b : Int) then (a : Int) else (b : Int)) = (((if a < b then a else b) : Nat) : Int) := by
  split <;> split <;> omega
theorem cell_N (b : Nat) (A : List Nat) (st : Nat × Nat × Nat × List Nat) (k : Nat) : inStepT b (mk A) (upS st) (0 + (k : Int)) = upS (cellN b A st k) := by
  unfold inStepT cellN upS
  rw [Int.zero_add, item_at_nat, Int.toNat_natCast]
  dsimp only
  rw [upL_get, show codeN ⟨#[A.getD k 0]⟩ = A.getD k 0 from rfl, sub_low, up_if]
  have e1 : ((st.1 : Int) + ((lowB b (A.getD k 0) : Nat) : Int)) = ((st.1 + lowB b (A.getD k 0) : Nat) : Int) := by omega
  have e2 : (((if st.2.2.2.getD k 0 < st.2.1 then st.2.2.2.getD k 0 else st.2.1 : Nat) : Int) + 2) = (((if st.2.2.2.getD k 0 < st.2.1 then st.2.2.2.getD k 0 else st.2.1) + 2 : Nat) : Int) := by omega
  rw [e1, e2, up_if, up_if]
  unfold upL
  rw [List.map_set]
theorem fold_N (b : Nat) (A : List Nat) (st : Nat × Nat × Nat × List Nat) : inFoldT b (mk A) (upS st) = upS ((List.range A.length).foldl (cellN b A) st) := by
  unfold inFoldT rangeKs
  rw [mk_len, List.foldl_map]
  exact List.foldl_hom upS fun x y => cell_N b A x y
theorem le_ble (a b : Nat) : decide ((a : Int) ≤ (b : Int)) = Nat.ble a b := by
  rw [Bool.eq_iff_iff, decide_eq_true_eq, Nat.ble_eq]
  omega
noncomputable def rowsN (A B : List Nat) (mc : Nat) : Nat → Bool × Nat × List Nat
  | 0 => (true, 0, (List.range A.length).map fun i => 2 + i * 2)
  | i + 1 => let o := rowsN A B mc i; let r := (List.range A.length).foldl (cellN (B.getD i 0) A) (i * 2, i * 2, 9223372036854775807, o.2.2); (o.1 && Nat.ble r.2.2.1 mc, r.2.1, r.2.2.2)
theorem rows_N (A B : List Nat) (mc : Nat) : ∀ i, outP (mk A) (mk B) (mc : Int) i = ((rowsN A B mc i).1, (((rowsN A B mc i).2.1 : Nat) : Int), upL (rowsN A B mc i).2.2)
  | 0 => by
    unfold outP rowsN rangeInts upL
    rw [mk_len, List.map_map]
    refine congrArg (fun l => (true, (0 : Int), l)) (List.map_congr_left fun i _ => ?_)
    show (2 : Int) + (i : Nat) * 2 = ((2 + i * 2 : Nat) : Int)
    omega
  | i + 1 => by
    have ih := rows_N A B mc i
    have e : inFoldT (codeN (Txt.item (mk B) (i : Int))) (mk A) ((i : Int) * 2, (i : Int) * 2, 9223372036854775807, upL (rowsN A B mc i).2.2) = upS ((List.range A.length).foldl (cellN (B.getD i 0) A) (i * 2, i * 2, 9223372036854775807, (rowsN A B mc i).2.2)) := by
      rw [item_at_nat, ← fold_N]
      rfl
    unfold outP rowsN
    dsimp only
    rw [ih]
    dsimp only
    rw [e]
    unfold upS
    dsimp only
    rw [le_ble]
noncomputable def sevenB (xs : List Nat) : Bool := xs.all fun c => sevenL.contains c
theorem letters_L {xs : List Nat} (h : sevenB xs = true) {ys : List Nat} (hs : ∀ c ∈ ys, c ∈ xs) : lettersB (mk ys) = true := by
  unfold lettersB
  rw [List.all_eq_true]
  intro c hc
  exact List.all_eq_true.mp h c (hs c (by simpa using hc))
noncomputable def certB (xs ys : List Nat) (v : Nat) : Bool :=
  Nat.beq xs.length 6 && Nat.beq ys.length 6 && sevenB xs && sevenB ys &&
  (bif xs == ys then Nat.beq v 0 else Nat.ble 1 (lA xs ys).length && (let o := rowsN (lA xs ys) (lB xs ys) v (lA xs ys).length; o.1 && Nat.beq o.2.1 v))
theorem cert_ok {xs ys : List Nat} {v : Nat} (h : certB xs ys v = true) : LevOk (mk xs) (mk ys) (v : Int) ∧ levS (mk xs) (mk ys) = (v : Int) := by
  unfold certB at h
  simp only [Bool.and_eq_true] at h
  obtain ⟨⟨⟨⟨a1, a2⟩, s1⟩, s2⟩, h⟩ := h
  replace a1 := Nat.eq_of_beq_eq_true a1
  replace a2 := Nat.eq_of_beq_eq_true a2
  cases e : (xs == ys) with
  | true =>
    rw [e] at h
    have e0 := Nat.eq_of_beq_eq_true h
    have e1 : xs = ys := eq_of_beq e
    subst e1 e0
    have e2 : (mk xs == mk xs) = true := beq_self_eq_true _
    exact ⟨⟨by rw [mk_len, a1], by rw [mk_len, a1], by decide, fun g => (nomatch e2.symm.trans g), fun g => (nomatch e2.symm.trans g), fun g => (nomatch e2.symm.trans g)⟩, by unfold levS; rw [e2, if_pos rfl]; rfl⟩
  | false =>
    rw [e] at h
    have h' : (Nat.ble 1 (lA xs ys).length && ((rowsN (lA xs ys) (lB xs ys) v (lA xs ys).length).1 && Nat.beq (rowsN (lA xs ys) (lB xs ys) v (lA xs ys).length).2.1 v)) = true := h
    rw [Bool.and_eq_true, Bool.and_eq_true] at h'
    obtain ⟨b1, b2, b3⟩ := h'
    replace b1 := Nat.ble_eq.mp b1
    replace b3 := Nat.eq_of_beq_eq_true b3
    obtain ⟨c1, c2, c3, c4, c5, c6, c7, c8⟩ := cuts_L a1 a2
    have lx : lettersB (mk (lA xs ys)) = true := letters_L s1 fun c hc => List.mem_of_mem_drop (List.mem_of_mem_take hc)
    have ly : lettersB (mk (lB xs ys)) = true := letters_L s2 fun c hc => List.mem_of_mem_drop (List.mem_of_mem_take hc)
    have hne : (mk xs == mk ys) = false := by
      rw [beq_eq_false_iff_ne]
      intro g
      have g2 := congrArg (fun x : Str => x.cps.toList) g
      have g3 : xs = ys := by simpa using g2
      rw [g3, beq_self_eq_true] at e
      exact nomatch e
    have r := rows_N (lA xs ys) (lB xs ys) v
    have hX : 1 ≤ (lX xs ys).length := by
      have : (lA xs ys).length ≤ (lX xs ys).length := by unfold lA; rw [List.length_take]; omega
      omega
    refine ⟨⟨by rw [mk_len, a1], by rw [mk_len, a2], by omega, fun _ => ?_, fun _ => ?_, fun _ i hi => ?_⟩, ?_⟩
    · rw [c1, c2, mk_len, mk_len]; omega
    · rw [c3, c4, mk_len, mk_len]; omega
    · rw [c3, mk_len] at hi
      rw [c3, c4]
      obtain ⟨b, hb, e2⟩ := item_seven ly (i : Int)
      have := outP_min (x := mk (lA xs ys)) (y := mk (lB xs ys)) (mc := (v : Int)) (lA xs ys).length (by rw [r]; exact b2) i hi
      unfold levMin
      rw [e2] at this ⊢
      rw [inFold_T hb lx, out_T lx ly]
      exact this
    · unfold levS
      rw [hne, if_neg (by decide), c3, c4, mk_len, out_T lx ly, ← outP_T _ _ (v : Int), r]
      show ((((rowsN (lA xs ys) (lB xs ys) v (lA xs ys).length).2.1 : Nat) : Int)) = _
      rw [b3]
noncomputable def pv3 : List (Int × Int × Int) := (List.range 13).map pv
noncomputable def all27 : List (Int × Int × Int) := [0, 1, 2].flatMap fun a => [0, 1, 2].flatMap fun b => [0, 1, 2].map fun c => ((a : Int), (b : Int), (c : Int))
noncomputable def gap (x y : Int) : Int := if x < y then y - x else x - y
noncomputable def far (u v : Int × Int × Int) : Int := gap u.1 v.1 + gap u.2.1 v.2.1 + gap u.2.2 v.2.2
noncomputable def wlit (v : Int × Int × Int) : List Nat := [if 1 ≤ v.1 then 65 else 97, if 2 ≤ v.1 then 65 else 97, if 1 ≤ v.2.1 then 66 else 98, if 2 ≤ v.2.1 then 66 else 98, if 1 ≤ v.2.2 then 67 else 99, if 2 ≤ v.2.2 then 67 else 99]
theorem words_all : (all27.all fun u => wordV u == mk (wlit u)) = true := by decide +kernel
theorem word_lit {u : Int × Int × Int} (h : u ∈ all27) : wordV u = mk (wlit u) := eq_of_beq (List.all_eq_true.mp words_all u h)
/-- the words, with what their votes are -/
noncomputable def wN (u : Nat × Nat × Nat) : List Nat := [bif Nat.ble 1 u.1 then 65 else 97, bif Nat.ble 2 u.1 then 65 else 97, bif Nat.ble 1 u.2.1 then 66 else 98, bif Nat.ble 2 u.2.1 then 66 else 98, bif Nat.ble 1 u.2.2 then 67 else 99, bif Nat.ble 2 u.2.2 then 67 else 99]
noncomputable def gapN (x y : Nat) : Nat := bif Nat.ble x y then y - x else x - y
noncomputable def farN (u v : Nat × Nat × Nat) : Nat := gapN u.1 v.1 + gapN u.2.1 v.2.1 + gapN u.2.2 v.2.2
noncomputable def pn (k : Nat) : Nat × Nat × Nat :=
  [(2, 1, 0), (2, 2, 0), (1, 2, 0), (0, 2, 0), (0, 2, 1), (0, 2, 2), (0, 1, 2), (0, 0, 2), (1, 0, 2), (2, 0, 2), (2, 0, 1), (2, 0, 0)].getD k (1, 1, 1)
noncomputable def upI (u : Nat × Nat × Nat) : Int × Int × Int := ((u.1 : Int), (u.2.1 : Int), (u.2.2 : Int))
theorem gap_up (x y : Nat) : gap (x : Int) (y : Int) = ((gapN x y : Nat) : Int) := by
  unfold gap gapN
  cases e : Nat.ble x y with
  | true => have := Nat.ble_eq.mp e; show _ = ((y - x : Nat) : Int); split <;> omega
  | false => have : ¬ x ≤ y := fun h => by rw [Nat.ble_eq.mpr h] at e; exact nomatch e
             show _ = ((x - y : Nat) : Int); split <;> omega
theorem far_up (u v : Nat × Nat × Nat) : far (upI u) (upI v) = ((farN u v : Nat) : Int) := by
  unfold far farN upI
  dsimp only
  rw [gap_up, gap_up, gap_up]
  omega
theorem ble_if (n x : Nat) (a b : Nat) : (if ((n : Nat) : Int) ≤ (x : Int) then a else b) = bif Nat.ble n x then a else b := by
  cases e : Nat.ble n x with
  | true => rw [if_pos (by have := Nat.ble_eq.mp e; omega)]; rfl
  | false => rw [if_neg (fun h => by rw [Nat.ble_eq.mpr (by omega : n ≤ x)] at e; exact nomatch e)]; rfl
theorem wlit_up (u : Nat × Nat × Nat) : wlit (upI u) = wN u := by
  unfold wlit wN upI
  dsimp only
  rw [← ble_if 1, ← ble_if 2, ← ble_if 1, ← ble_if 2, ← ble_if 1, ← ble_if 2]
  rfl
noncomputable def all27N : List (Nat × Nat × Nat) := [0, 1, 2].flatMap fun a => [0, 1, 2].flatMap fun b => [0, 1, 2].map fun c => (a, b, c)
theorem pairs_ok : (all27N.all fun u => (List.range 13).all fun k => certB (wN u) (wN (pn k)) (farN u (pn k))) = true := by decide +kernel

end
section
noncomputable def triB (x y z : Int) : Bool := (gap (mid3 x y z) x + gap (mid3 x y z) y == gap x y) && (gap (mid3 x y z) y + gap (mid3 x y z) z == gap y z) && (gap (mid3 x y z) z + gap (mid3 x y z) x == gap z x) &&
  decide (mid3 x y z = mid3 y z x) && (mid3 x y z == mid3 z x y) && decide (0 ≤ mid3 x y z) && decide (mid3 x y z ≤ 2)
theorem three_mem {x : Int} (h : 0 ≤ x ∧ x ≤ 2) : x ∈ [(0 : Int), 1, 2] := by
  have : x = 0 ∨ x = 1 ∨ x = 2 := by omega
  rcases this with rfl | rfl | rfl <;> decide
theorem tri_all : ([(0 : Int), 1, 2].all fun x => [(0 : Int), 1, 2].all fun y => [(0 : Int), 1, 2].all fun z => triB x y z) = true := by decide +kernel
theorem tri_ok {x y z : Int} (hx : 0 ≤ x ∧ x ≤ 2) (hy : 0 ≤ y ∧ y ≤ 2) (hz : 0 ≤ z ∧ z ≤ 2) :
    (gap (mid3 x y z) x + gap (mid3 x y z) y = gap x y ∧ gap (mid3 x y z) y + gap (mid3 x y z) z = gap y z ∧ gap (mid3 x y z) z + gap (mid3 x y z) x = gap z x) ∧ (mid3 x y z = mid3 y z x ∧ mid3 x y z = mid3 z x y) ∧ 0 ≤ mid3 x y z ∧ mid3 x y z ≤ 2 := by
  have h := List.all_eq_true.mp (List.all_eq_true.mp (List.all_eq_true.mp tri_all x (three_mem hx)) y (three_mem hy)) z (three_mem hz)
  unfold triB at h
  simp only [Bool.and_eq_true] at h
  obtain ⟨⟨⟨⟨⟨⟨a, b⟩, c⟩, d⟩, e⟩, f⟩, g⟩ := h
  exact ⟨⟨eq_of_beq a, eq_of_beq b, eq_of_beq c⟩, ⟨of_decide_eq_true d, eq_of_beq e⟩, of_decide_eq_true f, of_decide_eq_true g⟩
noncomputable def med3 (u v t : Int × Int × Int) : Int × Int × Int := (mid3 u.1 v.1 t.1, mid3 u.2.1 v.2.1 t.2.1, mid3 u.2.2 v.2.2 t.2.2)
theorem med_rot {u v t : Int × Int × Int} (hu : VoteOk u) (hv : VoteOk v) (ht : VoteOk t) : med3 u v t = med3 v t u ∧ med3 u v t = med3 t u v := by
  have a := (tri_ok hu.1 hv.1 ht.1).2.1
  have b := (tri_ok hu.2.1 hv.2.1 ht.2.1).2.1
  have c := (tri_ok hu.2.2 hv.2.2 ht.2.2).2.1
  exact ⟨Prod.ext a.1 (Prod.ext b.1 c.1), Prod.ext a.2 (Prod.ext b.2 c.2)⟩
theorem add3 {a b c d e f x y z : Int} (h1 : a + b = x) (h2 : c + d = y) (h3 : e + f = z) : a + c + e + (b + d + f) = x + y + z := by omega
theorem far_med {u v t : Int × Int × Int} (hu : VoteOk u) (hv : VoteOk v) (ht : VoteOk t) : far (med3 u v t) u + far (med3 u v t) v = far u v ∧ far (med3 u v t) v + far (med3 u v t) t = far v t ∧ far (med3 u v t) t + far (med3 u v t) u = far t u := by
  have a := (tri_ok hu.1 hv.1 ht.1).1
  have b := (tri_ok hu.2.1 hv.2.1 ht.2.1).1
  have c := (tri_ok hu.2.2 hv.2.2 ht.2.2).1
  exact ⟨add3 a.1 b.1 c.1, add3 a.2.1 b.2.1 c.2.1, add3 a.2.2 b.2.2 c.2.2⟩
theorem med_ok {u v t : Int × Int × Int} (hu : VoteOk u) (hv : VoteOk v) (ht : VoteOk t) : VoteOk (med3 u v t) :=
  ⟨(tri_ok hu.1 hv.1 ht.1).2.2, (tri_ok hu.2.1 hv.2.1 ht.2.1).2.2, (tri_ok hu.2.2 hv.2.2 ht.2.2).2.2⟩
theorem gap_all : ([(0 : Int), 1, 2].all fun x => [(0 : Int), 1, 2].all fun y => decide (gap x y ≤ 2)) = true := by decide +kernel
theorem gap_two {x y : Int} (hx : 0 ≤ x ∧ x ≤ 2) (hy : 0 ≤ y ∧ y ≤ 2) : gap x y ≤ 2 := of_decide_eq_true (List.all_eq_true.mp (List.all_eq_true.mp gap_all x (three_mem hx)) y (three_mem hy))
theorem six_of {a b c : Int} (h1 : a ≤ 2) (h2 : b ≤ 2) (h3 : c ≤ 2) : a + b + c ≤ 6 := by omega
theorem far_six {u v : Int × Int × Int} (hu : VoteOk u) (hv : VoteOk v) : far u v ≤ 6 := six_of (gap_two hu.1 hv.1) (gap_two hu.2.1 hv.2.1) (gap_two hu.2.2 hv.2.2)
theorem all27_mem {u : Int × Int × Int} (h : VoteOk u) : u ∈ all27 :=
  List.mem_flatMap.mpr ⟨u.1, three_mem h.1, List.mem_flatMap.mpr ⟨u.2.1, three_mem h.2.1, List.mem_map.mpr ⟨u.2.2, three_mem h.2.2, rfl⟩⟩⟩
theorem pv_mem {k : Nat} (h : k ≤ 12) : pv k ∈ pv3 := List.mem_map.mpr ⟨k, List.mem_range.mpr (by omega), rfl⟩
theorem pv_all : (pv3.all fun v => decide ((0 ≤ v.1 ∧ v.1 ≤ 2) ∧ (0 ≤ v.2.1 ∧ v.2.1 ≤ 2) ∧ (0 ≤ v.2.2 ∧ v.2.2 ≤ 2))) = true := by decide +kernel
theorem pv_ok {k : Nat} (h : k ≤ 12) : VoteOk (pv k) := by
  have h1 := List.all_eq_true.mp pv_all _ (pv_mem h)
  have h2 := of_decide_eq_true h1
  exact h2
theorem far_all : ((List.range 13).all fun a => (List.range 13).all fun b => far (pv a) (pv b) == wayI (a : Int) (b : Int)) = true := by decide +kernel
theorem far_way {a b : Nat} (ha : a ≤ 12) (hb : b ≤ 12) : far (pv a) (pv b) = wayI (a : Int) (b : Int) :=
  eq_of_beq (List.all_eq_true.mp (List.all_eq_true.mp far_all a (List.mem_range.mpr (by omega))) b (List.mem_range.mpr (by omega)))
theorem LevOk.up {x y : Str} {a b : Int} (h : LevOk x y a) (hab : a ≤ b) : LevOk x y b :=
  ⟨h.lx, h.ly, Int.le_trans h.m0 hab, h.x1, h.x2, fun e i hi => Int.le_trans (h.mn e i hi) hab⟩
/-! votes and places as small numbers -/
theorem pn_all : ((List.range 13).all fun a => pv a == upI (pn a)) = true := by decide +kernel
theorem pn_pv {a : Nat} (ha : a ≤ 12) : pv a = upI (pn a) := eq_of_beq (List.all_eq_true.mp pn_all a (List.mem_range.mpr (by omega)))
theorem three_nat {x : Int} (h : 0 ≤ x ∧ x ≤ 2) : x.toNat ∈ [0, 1, 2] ∧ x = ((x.toNat : Nat) : Int) := by
  have : x = 0 ∨ x = 1 ∨ x = 2 := by omega
  rcases this with rfl | rfl | rfl <;> decide
theorem vote_nat {u : Int × Int × Int} (h : VoteOk u) : ∃ n ∈ all27N, u = upI n :=
  ⟨(u.1.toNat, u.2.1.toNat, u.2.2.toNat), List.mem_flatMap.mpr ⟨_, (three_nat h.1).1, List.mem_flatMap.mpr ⟨_, (three_nat h.2.1).1, List.mem_map.mpr ⟨_, (three_nat h.2.2).1, rfl⟩⟩⟩,
    Prod.ext (three_nat h.1).2 (Prod.ext (three_nat h.2.1).2 (three_nat h.2.2).2)⟩
theorem lev_far {u : Int × Int × Int} {k : Nat} (hu : VoteOk u) (hk : k ≤ 12) : LevOk (wordV u) (wordV (pv k)) (far u (pv k)) ∧ levS (wordV u) (wordV (pv k)) = far u (pv k) := by
  rw [word_lit (all27_mem hu), word_lit (all27_mem (pv_ok hk)), pn_pv hk]
  obtain ⟨n, hn, rfl⟩ := vote_nat hu
  rw [wlit_up, wlit_up, far_up]
  exact cert_ok (List.all_eq_true.mp (List.all_eq_true.mp pairs_ok n hn) k (List.mem_range.mpr (by omega)))
noncomputable def midN (x y z : Nat) : Nat := if x ≤ y then (if y ≤ z then y else if x ≤ z then z else x) else (if x ≤ z then x else if y ≤ z then z else y)
theorem mid_all : ([0, 1, 2].all fun x => [0, 1, 2].all fun y => [0, 1, 2].all fun z => mid3 ((x : Nat) : Int) ((y : Nat) : Int) ((z : Nat) : Int) == ((midN x y z : Nat) : Int)) = true := by decide +kernel
theorem two_mem {x : Nat} (h : x ≤ 2) : x ∈ [0, 1, 2] := by
  have : x = 0 ∨ x = 1 ∨ x = 2 := by omega
  rcases this with rfl | rfl | rfl <;> decide
theorem mid_N {x y z : Nat} (hx : x ≤ 2) (hy : y ≤ 2) (hz : z ≤ 2) : mid3 (x : Int) (y : Int) (z : Int) = (midN x y z : Nat) :=
  eq_of_beq (List.all_eq_true.mp (List.all_eq_true.mp (List.all_eq_true.mp mid_all x (two_mem hx)) y (two_mem hy)) z (two_mem hz))
noncomputable def SmallN (u : Nat × Nat × Nat) : Prop := u.1 ≤ 2 ∧ u.2.1 ≤ 2 ∧ u.2.2 ≤ 2
theorem small_all : ((List.range 13).all fun a => Nat.ble (pn a).1 2 && (Nat.ble (pn a).2.1 2 && Nat.ble (pn a).2.2 2)) = true := by decide +kernel
theorem pn_small {a : Nat} (ha : a ≤ 12) : SmallN (pn a) := by
  have h := List.all_eq_true.mp small_all a (List.mem_range.mpr (by omega))
  rw [Bool.and_eq_true, Bool.and_eq_true] at h
  exact ⟨Nat.ble_eq.mp h.1, Nat.ble_eq.mp h.2.1, Nat.ble_eq.mp h.2.2⟩
noncomputable def medN (u v t : Nat × Nat × Nat) : Nat × Nat × Nat := (midN u.1 v.1 t.1, midN u.2.1 v.2.1 t.2.1, midN u.2.2 v.2.2 t.2.2)
theorem med_N {u v t : Nat × Nat × Nat} (hu : SmallN u) (hv : SmallN v) (ht : SmallN t) : med3 (upI u) (upI v) (upI t) = upI (medN u v t) :=
  Prod.ext (mid_N hu.1 hv.1 ht.1) (Prod.ext (mid_N hu.2.1 hv.2.1 ht.2.1) (mid_N hu.2.2 hv.2.2 ht.2.2))
noncomputable def nearB (x j p : Nat) : Bool := Nat.blt ((x + 12 - j) % 12 + (p + 12 - x) % 12) 6 || Nat.blt ((x + 12 - p) % 12 + (j + 12 - x) % 12) 6
noncomputable def sameB (u v : Nat × Nat × Nat) : Bool := Nat.beq u.1 v.1 && Nat.beq u.2.1 v.2.1 && Nat.beq u.2.2 v.2.2
theorem sameB_eq {u v : Nat × Nat × Nat} (h : sameB u v = true) : u = v := by
  unfold sameB at h
  rw [Bool.and_eq_true, Bool.and_eq_true] at h
  exact Prod.ext (Nat.eq_of_beq_eq_true h.1.1) (Prod.ext (Nat.eq_of_beq_eq_true h.1.2) (Nat.eq_of_beq_eq_true h.2))
theorem near_all : ((List.range 12).all fun a => (List.range 12).all fun b => (List.range 12).all fun c => bif nearB a b c then sameB (medN (pn a) (pn b) (pn c)) (pn a) else true) = true := by decide +kernel
theorem near_med {a b c : Nat} (ha : a < 12) (hb : b < 12) (hc : c < 12) (h : nearB a b c = true) : med3 (pv a) (pv b) (pv c) = pv a := by
  have := List.all_eq_true.mp (List.all_eq_true.mp (List.all_eq_true.mp near_all a (List.mem_range.mpr ha)) b (List.mem_range.mpr hb)) c (List.mem_range.mpr hc)
  rw [h] at this
  rw [pn_pv (by omega), pn_pv (by omega), pn_pv (by omega), med_N (pn_small (by omega)) (pn_small (by omega)) (pn_small (by omega)), sameB_eq this]
theorem fmod12 {x j : Nat} (hx : x < 12) (hj : j < 12) : ((x : Int) - (j : Int)).fmod 12 = (((x + 12 - j) % 12 : Nat) : Int) := by
  rw [Int.fmod_eq_emod_of_nonneg _ (by decide)]
  omega
theorem near_of {a b c : Nat} (ha : a < 12) (hb : b < 12) (hc : c < 12)
    (h : (if ((a : Int) - (b : Int)).fmod 12 + ((c : Int) - (a : Int)).fmod 12 < ((a : Int) - (c : Int)).fmod 12 + ((b : Int) - (a : Int)).fmod 12 then ((a : Int) - (b : Int)).fmod 12 + ((c : Int) - (a : Int)).fmod 12 else ((a : Int) - (c : Int)).fmod 12 + ((b : Int) - (a : Int)).fmod 12) < 6) : nearB a b c = true := by
  rw [fmod12 ha hb, fmod12 hc ha, fmod12 ha hc, fmod12 hb ha] at h
  unfold nearB
  rw [Bool.or_eq_true]
  split at h
  · exact .inl (Nat.ble_eq.mpr (by omega))
  · exact .inr (Nat.ble_eq.mpr (by omega))
noncomputable def ringN (u : Nat × Nat × Nat) : Bool := sameB u (2, 2, 2) || sameB u (0, 0, 0)
noncomputable def setB (a b c : Nat) : Bool := ([1, 5, 9] : List Nat).isPerm [a, b, c] || ([3, 7, 11] : List Nat).isPerm [a, b, c]
theorem ring_all : ((List.range 13).all fun a => (List.range 13).all fun b => (List.range 13).all fun c => ringN (medN (pn a) (pn b) (pn c)) == setB a b c) = true := by decide +kernel
theorem ring_at {a b c : Nat} (ha : a ≤ 12) (hb : b ≤ 12) (hc : c ≤ 12) : ringN (medN (pn a) (pn b) (pn c)) = setB a b c :=
  eq_of_beq (List.all_eq_true.mp (List.all_eq_true.mp (List.all_eq_true.mp ring_all a (List.mem_range.mpr (by omega))) b (List.mem_range.mpr (by omega))) c (List.mem_range.mpr (by omega)))

end
section
section
variable {pl : Nat → Nat} (hp : ∀ i, pl i ≤ 12)
noncomputable abbrev voteP (pl : Nat → Nat) (i : Nat) : Int × Int × Int := pv (pl i)
noncomputable abbrev placeP (pl : Nat → Nat) (i : Nat) : Int := ((pl i : Nat) : Int)
noncomputable abbrev mjP (pl : Nat → Nat) : Int × Int × Int := (majI (voteP pl) 0, majI (voteP pl) 1, majI (voteP pl) 2)
noncomputable abbrev wdP (pl : Nat → Nat) (i : Nat) : Str := wordV (voteP pl (i % 3))
theorem mjP_med (pl : Nat → Nat) : mjP pl = med3 (pv (pl 0)) (pv (pl 1)) (pv (pl 2)) := rfl
include hp
theorem mjP_ok : VoteOk (mjP pl) := by rw [mjP_med]; exact med_ok (pv_ok (hp 0)) (pv_ok (hp 1)) (pv_ok (hp 2))
theorem votes_ok : VotesOk (voteP pl) := fun i => pv_ok (hp i)
theorem ways_ok : WaysOk (wdP pl) (placeP pl) := fun i hi => by
  have h := lev_far (pv_ok (hp (i % 3))) (hp ((i + 1) % 3))
  rw [far_way (hp _) (hp _), Nat.mod_eq_of_lt hi] at h
  unfold wdP
  rw [Nat.mod_eq_of_lt hi]
  exact h
theorem reach_ok : ∀ j, j < 3 → LevOk (wordV (mjP pl)) (wordV (voteP pl j)) 6 := fun j _ =>
  (lev_far (mjP_ok hp) (hp j)).1.up (far_six (mjP_ok hp) (pv_ok (hp j)))
theorem reach_far (j : Nat) : reachI (voteP pl) (mjP pl) j = far (mjP pl) (pv (pl j)) := (lev_far (mjP_ok hp) (hp j)).2
theorem any_false {a b c : Nat} (h : ([(a : Int), (b : Int), (c : Int)].any fun x => x == 12) = false) (ha : a ≤ 12) (hb : b ≤ 12) (hc : c ≤ 12) : a < 12 ∧ b < 12 ∧ c < 12 := by
  simp only [List.any_cons, List.any_nil, Bool.or_false, Bool.or_eq_false_iff, beq_eq_false_iff_ne] at h
  omega
theorem last_ok : ∀ i, i < 3 → LastOk (voteP pl) (placeP pl) (reachI (voteP pl) (mjP pl)) (mjP pl) i ((i + 1) % 3) := fun i hi => by
  have hm := far_med (pv_ok (hp 0)) (pv_ok (hp 1)) (pv_ok (hp 2))
  rw [← mjP_med pl] at hm
  have hi3 : i = 0 ∨ i = 1 ∨ i = 2 := by omega
  have rot := med_rot (pv_ok (hp 0)) (pv_ok (hp 1)) (pv_ok (hp 2))
  rcases hi3 with rfl | rfl | rfl
  · refine ⟨?_, fun h12 h => ?_⟩
    · rw [reach_far hp, reach_far hp]
      exact hm.1.trans (far_way (hp 0) (hp 1))
    · have := any_false hp h12 (hp 0) (hp 1) (hp 2)
      exact near_med this.1 this.2.1 this.2.2 (near_of this.1 this.2.1 this.2.2 h)
  · refine ⟨?_, fun h12 h => ?_⟩
    · rw [reach_far hp, reach_far hp]
      exact hm.2.1.trans (far_way (hp 1) (hp 2))
    · have := any_false hp h12 (hp 0) (hp 1) (hp 2)
      exact rot.1.trans (near_med this.2.1 this.2.2 this.1 (near_of this.2.1 this.2.2 this.1 h))
  · refine ⟨?_, fun h12 h => ?_⟩
    · rw [reach_far hp, reach_far hp]
      exact hm.2.2.trans (far_way (hp 2) (hp 0))
    · have := any_false hp h12 (hp 0) (hp 1) (hp 2)
      exact rot.2.trans (near_med this.2.2 this.1 this.2.1 (near_of this.2.2 this.1 this.2.1 h))
theorem natsI_beq (u : Nat × Nat × Nat) (a b c : Nat) : ([((u.1 : Nat) : Int), ((u.2.1 : Nat) : Int), ((u.2.2 : Nat) : Int)] == [((a : Nat) : Int), ((b : Nat) : Int), ((c : Nat) : Int)]) = sameB u (a, b, c) := by
  rw [Bool.eq_iff_iff, beq_iff_eq]
  unfold sameB
  rw [Bool.and_eq_true, Bool.and_eq_true, Nat.beq_eq, Nat.beq_eq, Nat.beq_eq]
  simp only [List.cons.injEq, and_true]
  omega
theorem ring_ok : ∀ ns : List Int, ns.Perm [placeP pl 0, placeP pl 1, placeP pl 2] → ns.Pairwise (· ≤ ·) →
    (([(mjP pl).1, (mjP pl).2.1, (mjP pl).2.2] == [2, 2, 2]) || ([(mjP pl).1, (mjP pl).2.1, (mjP pl).2.2] == [0, 0, 0])) = ([[1, 5, 9], [3, 7, 11]].any fun y => y == ns) := fun ns hns hs => by
  have e1 : mjP pl = upI (medN (pn (pl 0)) (pn (pl 1)) (pn (pl 2))) := by
    rw [mjP_med, pn_pv (hp 0), pn_pv (hp 1), pn_pv (hp 2), med_N (pn_small (hp 0)) (pn_small (hp 1)) (pn_small (hp 2))]
  have e2 : (([(mjP pl).1, (mjP pl).2.1, (mjP pl).2.2] == [2, 2, 2]) || ([(mjP pl).1, (mjP pl).2.1, (mjP pl).2.2] == [0, 0, 0])) = ringN (medN (pn (pl 0)) (pn (pl 1)) (pn (pl 2))) := by
    rw [e1]
    unfold ringN
    rw [← natsI_beq hp, ← natsI_beq hp]
    rfl
  rw [e2, ring_at (hp 0) (hp 1) (hp 2)]
  have key : ∀ (l : List Nat), (l.map fun (n : Nat) => (n : Int)).Pairwise (· ≤ ·) → l.isPerm [pl 0, pl 1, pl 2] = ((l.map fun (n : Nat) => (n : Int)) == ns) := fun l hl => by
    rw [Bool.eq_iff_iff, List.isPerm_iff, beq_iff_eq]
    constructor
    · intro h
      have h2 : (l.map fun (n : Nat) => (n : Int)).Perm [placeP pl 0, placeP pl 1, placeP pl 2] := h.map _
      exact List.Perm.eq_of_pairwise (le := fun a b : Int => a ≤ b) (fun a b _ _ h1 h2 => Int.le_antisymm h1 h2) hl hs (h2.trans hns.symm)
    · intro h
      rw [← h] at hns
      have h2 : (l.map fun (n : Nat) => (n : Int)).Perm ([pl 0, pl 1, pl 2].map fun (n : Nat) => (n : Int)) := hns
      have h3 := h2.map Int.toNat
      simp only [List.map_map] at h3
      have e : (Int.toNat ∘ fun (n : Nat) => (n : Int)) = id := by funext n; rfl
      rw [e, List.map_id, List.map_id] at h3
      exact h3
  unfold setB
  rw [key [1, 5, 9] (by decide), key [3, 7, 11] (by decide)]
  simp only [List.any_cons, List.any_nil, Bool.or_false]
  rfl
end

end
section
noncomputable def lsOf (ns : List Int) : List Int := ((ns.take 9).map fun k => k.fmod 1025) ++ List.drop (((ns.take 9).map fun k => k.fmod 1025).length : Int).toNat [9, 5, 2, 4, 8, 4, 1, 7, 3]
theorem ls_len (ns : List Int) : (lsOf ns).length = 9 := by
  unfold lsOf
  rw [List.length_append, List.length_drop, Int.toNat_natCast, List.length_map, List.length_take]
  show min 9 ns.length + (9 - min 9 ns.length) = 9
  omega
theorem ls_mem (ns : List Int) : ∀ k ∈ lsOf ns, 0 ≤ k ∧ k ≤ 1024 := fun k hk => by
  unfold lsOf at hk
  rcases List.mem_append.mp hk with h | h
  · obtain ⟨x, _, rfl⟩ := List.mem_map.mp h
    have a1 := Int.fmod_nonneg_of_pos x (by decide : (0 : Int) < 1025)
    have a2 := Int.fmod_lt_of_pos x (by decide : (0 : Int) < 1025)
    omega
  · have h2 := List.mem_of_mem_drop h
    simp only [List.mem_cons, List.not_mem_nil, or_false] at h2
    omega
theorem ls_get {ls : List Int} (h : ∀ k ∈ ls, 0 ≤ k ∧ k ≤ 1024) (k : Nat) : 0 ≤ ls.getD k 0 ∧ ls.getD k 0 ≤ 1024 := by
  rw [List.getD_eq_getElem?_getD]
  cases e : ls[k]? with
  | none => exact ⟨Int.le_refl _, by decide⟩
  | some v => exact h v (List.mem_of_getElem? e)
theorem text_codes (ls : List Int) (wh : Int) : (lawT ls wh).cps.toList = (wordsL ls wh).flatten := by
  unfold lawT wordsL rangeKs
  rw [join_codes, List.map_map, List.map_map]
  congr 1
  refine List.map_congr_left fun k _ => ?_
  show (lawG ls wh (0 + (k : Int))).cps.toList = _
  unfold lawG
  rw [spell_codes, Int.zero_add, Int.toNat_natCast]
theorem sum_le {b : Nat} : ∀ {l : List Nat}, (∀ x ∈ l, x ≤ b) → l.sum ≤ b * l.length
  | [], _ => Nat.le_refl _
  | x :: r, h => by
    have h1 := h x (.head _)
    have h2 := sum_le (l := r) fun y hy => h y (.tail _ hy)
    rw [List.sum_cons, List.length_cons, Nat.mul_succ]
    omega
theorem spellL_len (w : List Nat) (y : Int) : (spellL w y).length ≤ w.length + 2 := by
  unfold spellL
  split
  · rw [List.length_append]; exact Nat.add_le_add_left (by decide) _
  · split
    · rw [List.length_cons, List.length_append]; exact Nat.le_refl _
    · rw [List.length_cons, List.length_append]; exact Nat.le_refl _
theorem text_len {ls : List Int} (h : ∀ k ∈ ls, 0 ≤ k ∧ k ≤ 1024) (wh : Int) : (lawT ls wh).length ≤ 100 := by
  have e : (lawT ls wh).length = (lawT ls wh).cps.toList.length := rfl
  rw [e, text_codes, List.length_flatten]
  have h1 := sum_le (b := 6) (l := (wordsL ls wh).map List.length) (fun x hx => by
    obtain ⟨w, hw, rfl⟩ := List.mem_map.mp hx
    unfold wordsL at hw
    obtain ⟨k, _, rfl⟩ := List.mem_map.mp hw
    obtain ⟨d, ds, e, _, _, l⟩ := level_parts (ls_get h k).1 (ls_get h k).2
    have := spellL_len (Str.ofString (toString (ls.getD k 0))).cps.toList (((k : Nat) + wh : Int).fmod 3)
    rw [e, List.length_cons] at this
    rw [e]
    omega)
  rw [List.length_map, wordsL_len] at h1
  omega
theorem pos_nine (ls : List Int) (wh : Int) : ((posAt ls wh 9 : Nat) : Int) = ((lawT ls wh).length : Int) := by
  have e : (lawT ls wh).length = (lawT ls wh).cps.toList.length := rfl
  rw [e, text_codes]
  unfold posAt
  rw [List.take_of_length_le (by rw [wordsL_len]; decide)]
theorem ln_nine (ls : List Int) (wh : Int) : lnAt ls wh 9 = 1 + Txt.count (lawT ls wh) (Str.ofString "\n") := by
  rw [show Str.ofString "\n" = ⟨#[10]⟩ by decide +kernel, count_cnt, text_codes]
  unfold lnAt
  rw [List.take_of_length_le (by rw [wordsL_len]; decide)]
theorem pos_zero (ls : List Int) (wh : Int) : ((posAt ls wh 0 : Nat) : Int) = 0 := rfl
theorem ln_zero (ls : List Int) (wh : Int) : lnAt ls wh 0 = 1 := rfl
theorem len_cons {α : Type} {n : Nat} : ∀ {ls : List α}, ls.length = n + 1 → ∃ a r, ls = a :: r ∧ r.length = n
  | a :: r, h => ⟨a, r, rfl, Nat.succ.inj h⟩
theorem nine {α : Type} {ls : List α} (h : ls.length = 9) : ∃ a b c d e f g i j, ls = [a, b, c, d, e, f, g, i, j] := by
  obtain ⟨a, r0, e0, h0⟩ := len_cons h
  obtain ⟨b, r1, e1, h1⟩ := len_cons h0
  obtain ⟨c, r2, e2, h2⟩ := len_cons h1
  obtain ⟨d, r3, e3, h3⟩ := len_cons h2
  obtain ⟨e, r4, e4, h4⟩ := len_cons h3
  obtain ⟨f, r5, e5, h5⟩ := len_cons h4
  obtain ⟨g, r6, e6, h6⟩ := len_cons h5
  obtain ⟨i, r7, e7, h7⟩ := len_cons h6
  obtain ⟨j, r8, e8, h8⟩ := len_cons h7
  have e9 := List.length_eq_zero_iff.mp h8
  subst e9 e8 e7 e6 e5 e4 e3 e2 e1 e0
  exact ⟨a, b, c, d, e, f, g, i, j, rfl⟩
theorem lev_map {ls : List Int} (h : ls.length = 9) : (List.range 9).map (strLev ls) = ls.map fun k => Str.ofString (toString k) := by
  obtain ⟨a, b, c, d, e, f, g, i, j, rfl⟩ := nine h
  rfl
theorem strs_ok {ls : List Int} (h : ∀ k ∈ ls, 0 ≤ k ∧ k ≤ 1024) : ∀ x ∈ ls.map (fun k => Str.ofString (toString k)), PyData.strOk x = true := fun x hx => by
  obtain ⟨k, hk, rfl⟩ := List.mem_map.mp hx
  obtain ⟨d, ds, e, hd, hds, _⟩ := level_parts (h k hk).1 (h k hk).2
  unfold PyData.strOk
  rw [← Array.all_toList, e, List.all_eq_true]
  intro c hc
  have : Dig c := by
    rcases List.mem_cons.mp hc with rfl | hc
    · exact hd
    · exact hds c hc
  exact decide_eq_true (Nat.lt_of_le_of_lt this.2 (by decide))
theorem strs_cons {vs : List Value} {x : Str} {xs : List Str} (h : StrsAre vs (x :: xs)) : ∃ t r, vs = .str x t :: r ∧ StrsAre r xs := by
  cases h with
  | cons _ t r => exact ⟨t, _, rfl, r⟩
theorem strs_nil {vs : List Value} (h : StrsAre vs []) : vs = [] := by cases h; rfl
theorem vote_of {a b c k : Nat} (h : ColorAt a b c k) : pv k = (voteI (FL a) (FL b), voteI (FL b) (FL c), voteI (FL c) (FL a)) := by
  have e := h.2
  unfold pvL at e
  simp only [List.cons.injEq, and_true] at e
  exact Prod.ext e.1.symm (Prod.ext e.2.1.symm e.2.2.symm)
theorem lev_one {x y z : Int} (hx : 0 ≤ x ∧ x ≤ 1024) (hy : 0 ≤ y ∧ y ≤ 1024) (hz : 0 ≤ z ∧ z ≤ 1024) : ∃ k, k ≤ 12 ∧ ColorOk (FL x) (FL y) (FL z) (k : Nat) ∧ pv k = (voteI (FL x) (FL y), voteI (FL y) (FL z), voteI (FL z) (FL x)) := by
  obtain ⟨a, rfl⟩ := Int.eq_ofNat_of_zero_le hx.1
  obtain ⟨b, rfl⟩ := Int.eq_ofNat_of_zero_le hy.1
  obtain ⟨c, rfl⟩ := Int.eq_ofNat_of_zero_le hz.1
  obtain ⟨k, hk, h⟩ := color_all (a := a) (b := b) (c := c) (by omega) (by omega) (by omega)
  exact ⟨k, hk, h.1, vote_of h⟩
theorem levels_ok {rs : List Value} {ls : List Int} (hr : StrsAre rs (ls.map fun k => Str.ofString (toString k))) (hl : ls.length = 9) (hb : ∀ k ∈ ls, 0 ≤ k ∧ k ≤ 1024) :
    ∃ pl : Nat → Nat, (∀ i, pl i ≤ 12) ∧ ∀ i, i < 3 → LevelsOk rs (voteP pl) (placeP pl) i := by
  obtain ⟨a, b, c, d, e, f, g, i, j, rfl⟩ := nine hl
  simp only [List.map_cons, List.map_nil] at hr
  obtain ⟨t0, r0, e0, q0⟩ := strs_cons hr
  obtain ⟨t1, r1, e1, q1⟩ := strs_cons q0
  obtain ⟨t2, r2, e2, q2⟩ := strs_cons q1
  obtain ⟨t3, r3, e3, q3⟩ := strs_cons q2
  obtain ⟨t4, r4, e4, q4⟩ := strs_cons q3
  obtain ⟨t5, r5, e5, q5⟩ := strs_cons q4
  obtain ⟨t6, r6, e6, q6⟩ := strs_cons q5
  obtain ⟨t7, r7, e7, q7⟩ := strs_cons q6
  obtain ⟨t8, r8, e8, q8⟩ := strs_cons q7
  have e9 := strs_nil q8
  subst e9 e8 e7 e6 e5 e4 e3 e2 e1 e0
  have m : ∀ k ∈ [a, b, c, d, e, f, g, i, j], 0 ≤ k ∧ k ≤ 1024 := hb
  simp only [List.forall_mem_cons] at m
  obtain ⟨ha, hb', hc, hd, he, hf, hg, hi, hj, _⟩ := m
  obtain ⟨k0, l0, o0, v0⟩ := lev_one ha hb' hc
  obtain ⟨k1, l1, o1, v1⟩ := lev_one hd he hf
  obtain ⟨k2, l2, o2, v2⟩ := lev_one hg hi hj
  refine ⟨fun n => if n = 0 then k0 else if n = 1 then k1 else k2, fun n => ?_, fun n hn => ?_⟩
  · dsimp only; split
    · exact l0
    · split
      · exact l1
      · exact l2
  · have h3 : n = 0 ∨ n = 1 ∨ n = 2 := by omega
    rcases h3 with rfl | rfl | rfl
    · exact ⟨⟨a, b, c, t0, t1, t2, rfl, ha, hb', hc, o0, v0⟩⟩
    · exact ⟨⟨d, e, f, t3, t4, t5, rfl, hd, he, hf, o1, v1⟩⟩
    · exact ⟨⟨g, i, j, t6, t7, t8, rfl, hg, hi, hj, o2, v2⟩⟩

end
section
section
variable {prog : Program} {w : World} {p : Program} {loose : List Str} {mean : ExcName → Option Value} {mg mb : Str → Option Value}
  {dp un : Nat} {gd : Option (List Code)} {a : Addr} {ccd : Value} {outer : List Env} {A₀ : Around} {base h₀ : Heap} {L : Addr} {m : Str → Option Value} {s : Shared} {E : Value → Shared → Prop} {tail : List Stmt} {Q : Flow → Shared → Prop}
theorem off1_each {D : Addr} {l : List (Addr × Obj)} (h : LCg.Off1 D l) : ∀ q ∈ l, q.1 ≠ D := off1_all h
theorem off1_mk {D : Addr} : ∀ {l : List (Addr × Obj)}, (∀ q ∈ l, q.1 ≠ D) → LCg.Off1 D l := off1_of
theorem sub_1 {p1 p2 p3 p4 p5 p6 p7 : Addr × Obj} {l l' a : List (Addr × Obj)} (e : l = a ++ [p4, p5, p6, p2, p3, p7]) (e' : l' = a ++ [p5, p6, p7]) : ∀ p ∈ p1 :: p2 :: p3 :: p4 :: l', p ∈ p1 :: l := by
  subst e e'
  intro p hp
  simp only [List.mem_append, List.mem_cons, List.not_mem_nil, or_false] at hp ⊢
  rcases hp with h | h | h | h | h | h | h | h <;> simp [h]
theorem sub_2 {p1 p2 p3 p4 p5 p6 p7 : Addr × Obj} {l l' a : List (Addr × Obj)} (e : l = a ++ [p5, p6, p7]) (e' : l' = a ++ [p1, p5, p6, p7]) : ∀ p ∈ p4 :: l', p ∈ p1 :: p2 :: p3 :: p4 :: l := by
  subst e e'
  intro p hp
  simp only [List.mem_append, List.mem_cons, List.not_mem_nil, or_false] at hp ⊢
  rcases hp with h | h | h | h | h | h <;> simp [h]
theorem sub_3 {p1 p4 p5 p6 p7 : Addr × Obj} {l l' a : List (Addr × Obj)} (e : l = a ++ [p1, p5, p6, p7]) (e' : l' = a ++ [p4, p1, p5, p6, p7]) : ∀ p ∈ l', p ∈ p4 :: l := by
  subst e e'
  intro p hp
  simp only [List.mem_append, List.mem_cons, List.not_mem_nil, or_false] at hp ⊢
  rcases hp with h | h | h | h | h | h <;> simp [h]
/-- what of the ledger stands behind the reading -/
noncomputable def Read (x dx f D f1 c1 ca ct la pb : Addr) (oc oA oT o3 : Obj) (q text : Str) (L Dr : Addr) (rs : List Value) (ns : List Int) : Prop :=
  LexOk x dx f D f1 c1 ca ct la pb oc oA oT q text ∧ o3.data = Data.cell (some (.ref x)) ∧ (@LT.lt Nat _ (L + 1 + 1 + 1 + 1 + 1) ct) ∧
  StrsAre rs ((lsOf ns).map fun k => Str.ofString (toString k)) ∧
  (@Ne Nat la Dr ∧ @Ne Nat dx Dr ∧ @Ne Nat pb Dr ∧ @Ne Nat (L + 1 + 1 + 1) Dr ∧ @Ne Nat (L + 1 + 1 + 1 + 1) Dr ∧ @Ne Nat (L + 1 + 1 + 1 + 1 + 1) Dr)
theorem law_head {lS : Addr} {vs : List Value} {ns : List Int} {o1 o2 o3 o4 o5 : Obj}
  (B : Below A₀ base outer h₀) (F : Fr h₀ L s.heap (fun z => if z = Str.ofString "script" then some (.ref lS) else none)) (X : (hd.heap_1 w.params).In h₀)
  (N : News h₀ L s.heap ((L + 1, o1) :: (L + 1 + 1, o2) :: (L + 1 + 1 + 1, o3) :: (L + 1 + 1 + 1 + 1, o4) :: (L + 1 + 1 + 1 + 1 + 1, o5) :: [(86, tabObj #[])])) (T : Top p loose mean mg mb h₀) (codeHd : CodeHd base 90 86) (l0 : @LT.lt Nat _ 86 L)
  (d1 : o1.data = Data.cell none) (d2 : o2.data = Data.cell none) (d3 : o3.data = Data.cell none)
  (hl : h₀.IsList lS vs.toArray) (hi : IntsAre vs ns) (hlay : (PyData.list (List.map PyData.int ns)).layable0 = true) (hlen : ¬ ((63 : Nat) : Int) < (ns.length : Int))
  (hd' : dp + 10 < recursionLimit) (hu : un + 100 < cLine)
  (hE : PassesOwn (model prog w) (lawA dp un gd L a ccd outer) (lawE L a ccd) E)
  (hnext : ∀ (x dx f D f1 c1 ca ct la pb : Addr) (os : Array (Option Value)) (fd : FuncData) (oc oA oT o3' : Obj) (q text : Str) (doc pm ctv : Value) (e1 e2 e3 e4 er : Int) (k1 k2 k3 k4 kr tw : Tok) (tp tl : Tok) (pos ln : Int) (pt : Array Value) (Dr : Addr) (rs : List Value) (M : Str → Option Value) (h' : Heap) (tk' : Nat),
    Read x dx f D f1 c1 ca ct la pb oc oA oT o3' q text L Dr rs ns → M (Str.ofString "read") = some (.ref Dr) → Fr h₀ L h' M →
    News h₀ L h' (LX x dx f D f1 c1 ca ct la pb os fd oc oA oT q doc pm ctv e1 e2 e3 e4 er k1 k2 k3 k4 kr tw pos tp ln tl #[] 0 [(L + 1 + 1 + 1, o3'), (Dr, LCg.lst rs), (L + 1 + 1 + 1 + 1, o4), (L + 1 + 1 + 1 + 1 + 1, o5), (86, tabObj pt)]) →
    wpAny (model prog w) (lawA dp un gd L a ccd outer) (execs tail (lawE L a ccd)) Q E {s with heap := h', toks := tk'}) :
  wpAny (model prog w) (lawA dp un gd L a ccd outer) (execs ((fnBody lawDef).getD 0 default :: (fnBody lawDef).getD 1 default :: (fnBody lawDef).getD 2 default :: (fnBody lawDef).getD 3 default :: (fnBody lawDef).getD 4 default :: (fnBody lawDef).getD 5 default :: (fnBody lawDef).getD 6 default :: (fnBody lawDef).getD 7 default :: tail) (lawE L a ccd)) Q E s := by
  have hu6 : un + 60 < cLine := by omega
  refine law_told B F X N T l0 hl hi hlay hlen hd' hu6 hE fun D0 ys h1 tk1 hys hne F1 N1 => ?_
  refine law_levels (s := {s with heap := h1, toks := tk1}) B F1 X N1 T l0 hne d1 hys (by rw [List.length_map, List.length_take]; omega) hl hi hlay hlen hd' hu6 hE fun Dl ws o1' h2 tk2 hws d1' l1 F2 N2 => ?_
  refine law_whole (ks := lsOf ns) (s := {s with heap := h2, toks := tk2}) B F2 X N2 T l0 l1 d2 hl hi hlay hlen hd' hu6 hE fun tW o2' h3 tk3 d2' F3 N3 => ?_
  have hws' : IntsAre ws (lsOf ns) := hws
  refine law_text (s := {s with heap := h3, toks := tk3}) B F3 X N3 T d1' d2' (by omega) hws' (ls_len ns) (ls_get (ls_mem ns)) hd' hu6 hE fun tt h4 tk4 F4 N4 => ?_
  have hDl := l1.1
  refine law_lexer (s := {s with heap := h4, toks := tk4}) (rest := [(L + 1 + 1 + 1 + 1, o4), (L + 1 + 1 + 1 + 1 + 1, o5), (Dl, W.listOf ws.toArray 0), (L + 1, o1')]) B F4 X (news_mono N4 (by
      intro p hp
      simp only [List.mem_cons, List.not_mem_nil, or_false] at hp ⊢
      rcases hp with h | h | h | h | h | h <;> simp [h])) T codeHd d3 l0 (by
      simp only [List.forall_mem_cons]
      refine ⟨?_, ?_, ?_, ?_, ?_, fun _ h => nomatch h⟩ <;> (show @Ne Nat _ _) <;> omega) (by
      simp only [List.forall_mem_cons]
      refine ⟨?_, ?_, ?_, ?_, fun _ h => nomatch h⟩ <;> (show @Ne Nat _ _) <;> omega) (text_len (ls_mem ns) _) hd' hu6 hE
    fun x dx f D f1 c1 ca ct la pb os fd oc oA oT q doc pm ctv e1 e2 e3 e4 er k1 k2 k3 k4 kr tw tp tl pt o3' h5 tk5 ok al d3' F5 N5 => ?_
  have q3 : @LT.lt Nat _ (L + 1 + 1 + 1) ct := al.1
  have q4 : @LT.lt Nat _ (L + 1 + 1 + 1 + 1) ct := al.2.1
  have q5 : @LT.lt Nat _ (L + 1 + 1 + 1 + 1 + 1) ct := al.2.2.1
  have ql : @LT.lt Nat _ Dl ct := al.2.2.2.1
  have q1 : @LT.lt Nat _ (L + 1) ct := al.2.2.2.2.1
  have qo : @LT.lt Nat _ ct ca ∧ @LT.lt Nat _ ca la ∧ @LT.lt Nat _ la c1 ∧ @LT.lt Nat _ c1 f1 ∧ @LT.lt Nat _ f1 f ∧ @LT.lt Nat _ f D ∧ @LT.lt Nat _ D dx ∧ @LT.lt Nat _ dx x ∧ @LT.lt Nat _ x pb := LexOk.o ok
  have qa : @LT.lt Nat _ ct la ∧ @LT.lt Nat _ ct dx ∧ @LT.lt Nat _ ct pb := by omega
  have off : ∀ z : Nat, @LT.lt Nat _ ct z → ∀ p ∈ [(L + 1 + 1 + 1, o3'), (L + 1 + 1 + 1 + 1, o4), (L + 1 + 1 + 1 + 1 + 1, o5), (Dl, W.listOf ws.toArray 0), (L + 1, o1'), (86, tabObj pt)], p.1 ≠ z := by
    intro z hz
    simp only [List.forall_mem_cons]
    exact ⟨(show @Ne Nat (L + 1 + 1 + 1) z by omega), (show @Ne Nat (L + 1 + 1 + 1 + 1) z by omega), (show @Ne Nat (L + 1 + 1 + 1 + 1 + 1) z by omega), (show @Ne Nat Dl z by omega), (show @Ne Nat (L + 1) z by omega), (show @Ne Nat 86 z by omega), fun _ h => nomatch h⟩
  refine law_read (s := {s with heap := h5, toks := tk5}) (ls := lsOf ns) (wh := ns.sum) B F5 X N5 T codeHd ok d3' hd' hu6 (off la qa.1) (off dx qa.2.1) (off pb qa.2.2) (ls_get (ls_mem ns)) (text_codes _ _) hE
    fun Dr rs tp2 tl2 h6 tk6 hrs hoff F6 N6 => ?_
  rw [lev_map (ls_len ns)] at hrs
  have hof := off1_each hoff
  have hDr : ∀ z : Nat, (∃ o, (z, o) ∈ LX x dx f D f1 c1 ca ct la pb os fd oc oA oT q doc pm ctv e1 e2 e3 e4 er k1 k2 k3 k4 kr tw (posAt (lsOf ns) ns.sum 9 : Nat) tp2 (lnAt (lsOf ns) ns.sum 9) tl2 #[] 0 [(L + 1 + 1 + 1, o3'), (L + 1 + 1 + 1 + 1, o4), (L + 1 + 1 + 1 + 1 + 1, o5), (Dl, W.listOf ws.toArray 0), (L + 1, o1'), (86, tabObj pt)]) → @Ne Nat z Dr :=
    fun z ⟨o, h⟩ => hof (z, o) h
  have n1 := hDr la ⟨_, .head _⟩
  have n2 := hDr dx ⟨_, .tail _ (.head _)⟩
  have n3 := hDr pb ⟨_, .tail _ (.tail _ (.head _))⟩
  have n4 := hDr (L + 1 + 1 + 1) ⟨o3', by rw [LX_pre]; exact List.mem_append_right _ (.head _)⟩
  have n5 := hDr (L + 1 + 1 + 1 + 1) ⟨o4, by rw [LX_pre]; exact List.mem_append_right _ (.tail _ (.head _))⟩
  have n6 := hDr (L + 1 + 1 + 1 + 1 + 1) ⟨o5, by rw [LX_pre]; exact List.mem_append_right _ (.tail _ (.tail _ (.head _)))⟩
  have off2 : ∀ z : Nat, @LT.lt Nat _ ct z → @Ne Nat z Dr → ∀ p ∈ [(Dr, LCg.lst rs), (Dl, W.listOf ws.toArray 0), (L + 1, o1'), (L + 1 + 1 + 1, o3'), (L + 1 + 1 + 1 + 1, o4), (L + 1 + 1 + 1 + 1 + 1, o5), (86, tabObj pt)], p.1 ≠ z := by
    intro z hz hz2
    simp only [List.forall_mem_cons]
    exact ⟨(show @Ne Nat Dr z by omega), (show @Ne Nat Dl z by omega), (show @Ne Nat (L + 1) z by omega), (show @Ne Nat (L + 1 + 1 + 1) z by omega), (show @Ne Nat (L + 1 + 1 + 1 + 1) z by omega), (show @Ne Nat (L + 1 + 1 + 1 + 1 + 1) z by omega), (show @Ne Nat 86 z by omega), fun _ h => nomatch h⟩
  rw [pos_nine] at N6
  refine law_check1 (s := {s with heap := h6, toks := tk6}) (rest := [(L + 1 + 1 + 1 + 1, o4), (L + 1 + 1 + 1 + 1 + 1, o5), (86, tabObj pt)]) B F6 X (news_mono N6 (sub_1 (LX_pre ..) (LX_pre ..))) T codeHd ok d1' d3' hws' (ls_len ns) (ls_mem ns) hrs (strs_ok (ls_mem ns)) hd' hu
    (off2 la qa.1 n1) (off2 dx qa.2.1 n2) (off2 pb qa.2.2 n3) hE fun tp3 tl3 h7 tk7 F7 N7 => ?_
  refine law_check2 (s := {s with heap := h7, toks := tk7}) (rest := [(Dr, LCg.lst rs), (L + 1 + 1 + 1 + 1, o4), (L + 1 + 1 + 1 + 1 + 1, o5), (86, tabObj pt)]) (m := fun z => if z = Str.ofString "told" then some (Value.ref D0) else if z = Str.ofString "script" then some (Value.ref lS) else none) B F7 X (news_mono N7 (sub_2 (LX_pre ..) (LX_pre ..))) T d3' (ln_nine _ _) hd' hu hE fun h8 tk8 F8 N8 => ?_
  refine hnext x dx f D f1 c1 ca ct la pb os fd oc oA oT o3' q (lawT (lsOf ns) ns.sum) doc pm ctv e1 e2 e3 e4 er k1 k2 k3 k4 kr tw _ _ _ _ pt Dr rs _ h8 tk8 ⟨ok, d3', q5, hrs, n1, n2, n3, n4, n5, n6⟩ ?_ F8 (news_mono N8 (sub_3 (LX_pre ..) (LX_pre ..)))
  exact if_pos rfl
end

end
section
section
variable {prog : Program} {w : World} {p : Program} {loose : List Str} {mean : ExcName → Option Value} {mg mb : Str → Option Value}
  {dp un : Nat} {gd : Option (List Code)} {a : Addr} {ccd : Value} {outer : List Env} {A₀ : Around} {base h₀ : Heap} {L : Addr} {m : Str → Option Value} {s : Shared} {E : Value → Shared → Prop} {tail : List Stmt} {Q : Flow → Shared → Prop}
theorem lx_ge {x dx f D f1 c1 ca ct la pb : Addr} {os : Array (Option Value)} {fd : FuncData} {oc oA oT : Obj} {q text : Str} {doc pm ctv : Value} {e1 e2 e3 e4 er : Int} {k1 k2 k3 k4 kr tw : Tok} {pos : Int} {tp : Tok} {ln : Int} {tl : Tok} {items : Array Value} {n : Nat}
    (ok : LexOk x dx f D f1 c1 ca ct la pb oc oA oT q text) : ∀ r ∈ LXp x dx f D f1 c1 ca ct la pb os fd oc oA oT q doc pm ctv e1 e2 e3 e4 er k1 k2 k3 k4 kr tw pos tp ln tl items n, @LE.le Nat _ ct r.1 := by
  have qo : @LT.lt Nat _ ct ca ∧ @LT.lt Nat _ ca la ∧ @LT.lt Nat _ la c1 ∧ @LT.lt Nat _ c1 f1 ∧ @LT.lt Nat _ f1 f ∧ @LT.lt Nat _ f D ∧ @LT.lt Nat _ D dx ∧ @LT.lt Nat _ dx x ∧ @LT.lt Nat _ x pb := LexOk.o ok
  simp only [List.forall_mem_cons]
  exact ⟨(show @LE.le Nat _ ct la by omega), (show @LE.le Nat _ ct dx by omega), (show @LE.le Nat _ ct pb by omega), (show @LE.le Nat _ ct x by omega), (show @LE.le Nat _ ct f by omega), (show @LE.le Nat _ ct D by omega), (show @LE.le Nat _ ct f1 by omega), (show @LE.le Nat _ ct c1 by omega), (show @LE.le Nat _ ct ca by omega), (show @LE.le Nat _ ct ct by omega), fun _ h => nomatch h⟩
theorem allLt_all {d : Addr} : ∀ {l : List (Addr × Obj)}, AllLt d l → ∀ r ∈ l, @LT.lt Nat _ r.1 d
  | [], _, _, h => nomatch h
  | _ :: _, h, r, hr => by
    rcases List.mem_cons.mp hr with e | hr
    · rw [e]; exact h.1
    · exact allLt_all h.2 r hr
theorem strs_len : ∀ {vs : List Value} {xs : List Str}, StrsAre vs xs → vs.length = xs.length
  | _, _, .nil => rfl
  | _, _, .cons _ _ r => by rw [List.length_cons, List.length_cons, strs_len r]
theorem VotesIn.mono {vote : Nat → Int × Int × Int} {vs : List Value} {l l' : List (Addr × Obj)} (h : VotesIn vote vs l) (hs : ∀ r ∈ l, r ∈ l') : VotesIn vote vs l' :=
  ⟨h.1, fun i v hv => let ⟨Dv, t0, t1, t2, e, hm⟩ := h.2 i v hv; ⟨Dv, t0, t1, t2, e, hs _ hm⟩⟩
theorem colors_three {vote : Nat → Int × Int × Int} {place : Nat → Int} {bar : List (Addr × Obj)} {ds : List (Addr × Obj)} {vi pi : Array Value} (h : ColorsTo vote place bar 3 ds vi pi) :
    ∃ vs ps, vi = vs.toArray ∧ pi = ps.toArray ∧ VotesIn vote vs ds ∧ IntsAre ps [place 0, place 1, place 2] := by
  cases h with
  | @succ _ ds2 vi2 pi2 D2 a0 a1 a2 tp2 h2 _ =>
    cases h2 with
    | @succ _ ds1 vi1 pi1 D1 b0 b1 b2 tp1 h1 _ =>
      cases h1 with
      | @succ _ ds0 vi0 pi0 D0 c0 c1 c2 tp0 h0 _ =>
        cases h0
        refine ⟨[.ref D0, .ref D1, .ref D2], [.int (place 0) tp0, .int (place 1) tp1, .int (place 2) tp2], rfl, rfl, ⟨rfl, fun i v hv => ?_⟩, .cons _ _ (.cons _ _ (.cons _ _ .nil))⟩
        have hi : i < 3 := by
          rcases Nat.lt_or_ge i 3 with g | g
          · exact g
          · rw [List.getElem?_eq_none (by simpa using g)] at hv; cases hv
        have h3 : i = 0 ∨ i = 1 ∨ i = 2 := by omega
        rcases h3 with rfl | rfl | rfl
        · exact ⟨D0, c0, c1, c2, (Option.some.inj hv).symm, .tail _ (.tail _ (.head _))⟩
        · exact ⟨D1, b0, b1, b2, (Option.some.inj hv).symm, .tail _ (.head _)⟩
        · exact ⟨D2, a0, a1, a2, (Option.some.inj hv).symm, .head _⟩
/-- what of the ledger stands ahead of the words' round -/
structure Mid (pl : Nat → Nat) (x dx f D f1 c1 ca ct la pb : Addr) (oc oA oT : Obj) (q text : Str) (L : Addr) (o3 o4 o5 : Obj) (Vl Pl Dm : Addr) (vs ps : List Value) (nv np : Nat) (t0 t1 t2 : Tok) (its : Array Value) (rest : List (Addr × Obj)) : Prop where
  ok : LexOk x dx f D f1 c1 ca ct la pb oc oA oT q text
  hp : ∀ i, pl i ≤ 12
  d3 : o3.data = Data.cell (some (.ref x))
  d4 : o4.data = Data.cell (some (.ref Vl))
  d5 : o5.data = Data.cell (some (.ref Dm))
  away : ∀ z : Nat, z = la ∨ z = dx ∨ z = pb → ∀ r ∈ (L + 1 + 1 + 1, o3) :: (L + 1 + 1 + 1 + 1, o4) :: (L + 1 + 1 + 1 + 1 + 1, o5) :: rest, r.1 ≠ z
  pushed : Pushed (voteP pl) 3 its
  hV : (Vl, W.listOf vs.toArray nv) ∈ rest
  hD : VotesIn (voteP pl) vs rest
  hP : (Pl, W.listOf ps.toArray np) ∈ rest
  ip : IntsAre ps [placeP pl 0, placeP pl 1, placeP pl 2]
  hj : (Dm, LCg.lst [.int (mjP pl).1 t0, .int (mjP pl).2.1 t1, .int (mjP pl).2.2 t2]) ∈ rest
  hT : ∃ pt, (86, tabObj pt) ∈ rest
theorem sub_4 {c3 c4 c5 dr c6 : Addr × Obj} {l l' b : List (Addr × Obj)} (e : l = b ++ [c3, dr, c4, c5, c6]) (e' : l' = b ++ [c3, dr, c5, c6]) : ∀ r ∈ c4 :: l', r ∈ l := by
  subst e e'
  intro p hp
  simp only [List.mem_append, List.mem_cons, List.not_mem_nil, or_false] at hp ⊢
  rcases hp with h | h | h | h | h | h <;> simp [h]
theorem sub_5 {p1 p2 p3 : Addr × Obj} {l : List (Addr × Obj)} : ∀ r ∈ p2 :: p1 :: p3 :: l, r ∈ p1 :: p2 :: p3 :: l := by
  intro p hp
  simp only [List.mem_cons] at hp ⊢
  rcases hp with h | h | h | h <;> simp [h]
theorem sub_6 {c3 c4 c5 c6 dr pv pp : Addr × Obj} {l l' b ds : List (Addr × Obj)} (e : l = b ++ [c3, dr, c5, c6]) (e' : l' = b ++ (c3 :: c4 :: (ds ++ [pv, pp, dr, c5, c6]))) : ∀ r ∈ l', r ∈ ds ++ pv :: pp :: c4 :: l := by
  subst e e'
  intro p hp
  simp only [List.mem_append, List.mem_cons, List.not_mem_nil, or_false] at hp ⊢
  rcases hp with h | h | h | h | h | h | h | h | h <;> simp [h]
theorem sub_7 {c3 c4 c5 c6 dr pv pp : Addr × Obj} {l l' b ds : List (Addr × Obj)} (e : l = b ++ (c3 :: c4 :: (ds ++ [pv, pp, dr, c5, c6]))) (e' : l' = b ++ (c3 :: c4 :: (ds ++ [pv, pp, dr, c6]))) : ∀ r ∈ c5 :: l', r ∈ l := by
  subst e e'
  intro p hp
  simp only [List.mem_append, List.mem_cons, List.not_mem_nil, or_false] at hp ⊢
  rcases hp with h | h | h | h | h | h | h | h | h <;> simp [h]
theorem sub_8 {c3 c4 c5 dm : Addr × Obj} {l l' b r : List (Addr × Obj)} (e : l = b ++ (c3 :: c4 :: r)) (e' : l' = b ++ (c3 :: c4 :: c5 :: dm :: r)) : ∀ p ∈ l', p ∈ dm :: c5 :: l := by
  subst e e'
  intro p hp
  simp only [List.mem_append, List.mem_cons] at hp ⊢
  rcases hp with h | h | h | h | h | h <;> simp [h]
theorem law_mid {x dx f D f1 c1 ca ct la pb : Addr} {os : Array (Option Value)} {fd : FuncData} {oc oA oT o3 o4 o5 : Obj} {q text : Str} {doc pm ctv : Value} {e1 e2 e3 e4 er : Int} {k1 k2 k3 k4 kr tw : Tok} {tp tl : Tok} {pos ln : Int} {Dr : Addr} {rs : List Value} {M : Str → Option Value} {ns : List Int} {pt : Array Value}
  (B : Below A₀ base outer h₀) (F : Fr h₀ L s.heap M) (X : (hd.heap_1 w.params).In h₀)
  (N : News h₀ L s.heap (LX x dx f D f1 c1 ca ct la pb os fd oc oA oT q doc pm ctv e1 e2 e3 e4 er k1 k2 k3 k4 kr tw pos tp ln tl #[] 0 [(L + 1 + 1 + 1, o3), (Dr, LCg.lst rs), (L + 1 + 1 + 1 + 1, o4), (L + 1 + 1 + 1 + 1 + 1, o5), (86, tabObj pt)]))
  (T : Top p loose mean mg mb h₀) (R : Read x dx f D f1 c1 ca ct la pb oc oA oT o3 q text L Dr rs ns) (hM : M (Str.ofString "read") = some (.ref Dr)) (d4 : o4.data = Data.cell none) (d5 : o5.data = Data.cell none)
  (l0 : @LT.lt Nat _ 86 L) (hd' : dp + 10 < recursionLimit) (hu : un + 100 < cLine)
  (hE : PassesOwn (model prog w) (lawA dp un gd L a ccd outer) (lawE L a ccd) E)
  (hnext : ∀ (pl : Nat → Nat) (o4' o5' : Obj) (Vl Pl Dm : Addr) (vs ps : List Value) (nv np : Nat) (t0 t1 t2 : Tok) (its : Array Value) (n' : Nat) (rest : List (Addr × Obj)) (M' : Str → Option Value) (h' : Heap) (tk' : Nat),
    Mid pl x dx f D f1 c1 ca ct la pb oc oA oT q text L o3 o4' o5' Vl Pl Dm vs ps nv np t0 t1 t2 its rest → M' (Str.ofString "places") = some (.ref Pl) → Fr h₀ L h' M' →
    News h₀ L h' (LX x dx f D f1 c1 ca ct la pb os fd oc oA oT q doc pm ctv e1 e2 e3 e4 er k1 k2 k3 k4 kr tw pos tp ln tl its n' ((L + 1 + 1 + 1, o3) :: (L + 1 + 1 + 1 + 1, o4') :: (L + 1 + 1 + 1 + 1 + 1, o5') :: rest)) →
    wpAny (model prog w) (lawA dp un gd L a ccd outer) (execs tail (lawE L a ccd)) Q E {s with heap := h', toks := tk'}) :
  wpAny (model prog w) (lawA dp un gd L a ccd outer) (execs ((fnBody lawDef).getD 8 default :: (fnBody lawDef).getD 9 default :: (fnBody lawDef).getD 10 default :: (fnBody lawDef).getD 11 default :: (fnBody lawDef).getD 12 default :: tail) (lawE L a ccd)) Q E s := by
  have hu6 : un + 60 < cLine := by omega
  obtain ⟨ok, d3, h5, hrs, n1, n2, n3, n4, n5, n6⟩ := R
  obtain ⟨pl, hp, lv⟩ := levels_ok hrs (ls_len ns) (ls_mem ns)
  have qo : @LT.lt Nat _ ct ca ∧ @LT.lt Nat _ ca la ∧ @LT.lt Nat _ la c1 ∧ @LT.lt Nat _ c1 f1 ∧ @LT.lt Nat _ f1 f ∧ @LT.lt Nat _ f D ∧ @LT.lt Nat _ D dx ∧ @LT.lt Nat _ dx x ∧ @LT.lt Nat _ x pb := LexOk.o ok
  have hsz : rs.toArray.size ≤ sizeLine := by
    rw [List.size_toArray, strs_len hrs, List.length_map, ls_len]; decide
  refine law_init (news := LX x dx f D f1 c1 ca ct la pb os fd oc oA oT q doc pm ctv e1 e2 e3 e4 er k1 k2 k3 k4 kr tw pos tp ln tl #[] 0 [(L + 1 + 1 + 1, o3), (Dr, LCg.lst rs), (L + 1 + 1 + 1 + 1 + 1, o5), (86, tabObj pt)]) B F X (news_mono N (sub_4 (LX_pre ..) (LX_pre ..))) T d4 (by
      rw [LX_pre]
      intro r hr
      rcases List.mem_append.mp hr with h | h
      · have := lx_ge ok r h
        show @Ne Nat _ _
        omega
      · rcases List.mem_cons.mp h with e | h
        · rw [e]; show @Ne Nat (L + 1 + 1 + 1) (L + 1 + 1 + 1 + 1); omega
        rcases List.mem_cons.mp h with e | h
        · rw [e]; exact fun z => n5 z.symm
        rcases List.mem_cons.mp h with e | h
        · rw [e]; show @Ne Nat (L + 1 + 1 + 1 + 1 + 1) (L + 1 + 1 + 1 + 1); omega
        rcases List.mem_cons.mp h with e | h
        · rw [e]; show @Ne Nat 86 (L + 1 + 1 + 1 + 1); omega
        · cases h) hd' hu hE fun Vl Pl o4' h1 tk1 d4' l1 l2 F1 N1 => ?_
  have a1 := allLt_all l1.2
  have a2 := allLt_all l2.2.2
  have lv1 : @LT.lt Nat _ (L + 1 + 1 + 1 + 1) Vl := l1.1
  have lv2 : @LT.lt Nat _ Vl Pl := l2.1
  have v1 : @LT.lt Nat _ la Vl := a1 _ (.head _)
  have v2 : @LT.lt Nat _ dx Vl := a1 _ (.tail _ (.head _))
  have v3 : @LT.lt Nat _ pb Vl := a1 _ (.tail _ (.tail _ (.head _)))
  have v5 : @LT.lt Nat _ (L + 1 + 1 + 1 + 1 + 1) Vl := a1 (L + 1 + 1 + 1 + 1 + 1, o5) (by rw [LX_pre]; exact List.mem_append_right _ (.tail _ (.tail _ (.head _))))
  refine law_colors (s := {s with heap := h1, toks := tk1}) (vote := voteP pl) (place := placeP pl) (rs := rs) (Dr := Dr) B F1 X (news_mono N1 sub_5) T (if_pos rfl) ((if_neg (by decide)).trans hM) (by rw [LX_pre]; exact List.mem_append_right _ (.tail _ (.head _))) hsz d4' lv
    (show @Ne Nat Vl Pl by omega) (show @Ne Nat (L + 1 + 1 + 1 + 1) Vl by omega) (show @Ne Nat (L + 1 + 1 + 1 + 1) Pl by omega) (fun r hr => Nat.ne_of_lt (a1 r hr)) (fun r hr => Nat.ne_of_lt (a2 r hr)) hd' hu hE
    fun ds vi pi nv np M2 h2 tk2 F2 hM2 hds ct' N2 => ?_
  obtain ⟨vs, ps, rfl, rfl, hD, ip⟩ := colors_three ct'
  have dsz : ∀ z : Nat, (∃ o, (z, o) ∈ LX x dx f D f1 c1 ca ct la pb os fd oc oA oT q doc pm ctv e1 e2 e3 e4 er k1 k2 k3 k4 kr tw pos tp ln tl #[] 0 [(L + 1 + 1 + 1, o3), (Dr, LCg.lst rs), (L + 1 + 1 + 1 + 1 + 1, o5), (86, tabObj pt)]) → ∀ r ∈ ds, @Ne Nat r.1 z :=
    fun z ⟨o, h⟩ r hr => (hds r hr (z, o) (.tail _ h)).symm
  have off : ∀ z : Nat, @LT.lt Nat _ ct z → @LT.lt Nat _ z Vl → @Ne Nat z Dr → (∀ r ∈ ds, @Ne Nat r.1 z) → ∀ r ∈ (L + 1 + 1 + 1, o3) :: (L + 1 + 1 + 1 + 1, o4') :: (ds ++ [(Vl, W.listOf vs.toArray nv), (Pl, W.listOf ps.toArray np), (Dr, LCg.lst rs), (L + 1 + 1 + 1 + 1 + 1, o5), (86, tabObj pt)]), r.1 ≠ z := by
    intro z z1 z2 z3 z4 r hr
    rcases List.mem_cons.mp hr with e | hr
    · rw [e]; show @Ne Nat (L + 1 + 1 + 1) z; omega
    rcases List.mem_cons.mp hr with e | hr
    · rw [e]; show @Ne Nat (L + 1 + 1 + 1 + 1) z; omega
    rcases List.mem_append.mp hr with hr | hr
    · exact z4 r hr
    rcases List.mem_cons.mp hr with e | hr
    · rw [e]; show @Ne Nat Vl z; omega
    rcases List.mem_cons.mp hr with e | hr
    · rw [e]; show @Ne Nat Pl z; omega
    rcases List.mem_cons.mp hr with e | hr
    · rw [e]; exact fun g => z3 g.symm
    rcases List.mem_cons.mp hr with e | hr
    · rw [e]; show @Ne Nat (L + 1 + 1 + 1 + 1 + 1) z; omega
    rcases List.mem_cons.mp hr with e | hr
    · rw [e]; show @Ne Nat 86 z; omega
    · cases hr
  have offa := off la (by omega) v1 n1 (dsz la ⟨_, .head _⟩)
  have offd := off dx (by omega) v2 n2 (dsz dx ⟨_, .tail _ (.head _)⟩)
  have offp := off pb (by omega) v3 n3 (dsz pb ⟨_, .tail _ (.tail _ (.head _))⟩)
  have hVr : (Vl, W.listOf vs.toArray nv) ∈ ds ++ [(Vl, W.listOf vs.toArray nv), (Pl, W.listOf ps.toArray np), (Dr, LCg.lst rs), (L + 1 + 1 + 1 + 1 + 1, o5), (86, tabObj pt)] := List.mem_append_right _ (.head _)
  refine law_push (s := {s with heap := h2, toks := tk2}) (vote := voteP pl) (vs := vs) (Vl := Vl) (Pl := Pl) (rest := ds ++ [(Vl, W.listOf vs.toArray nv), (Pl, W.listOf ps.toArray np), (Dr, LCg.lst rs), (L + 1 + 1 + 1 + 1 + 1, o5), (86, tabObj pt)]) B F2 X (news_mono N2 (sub_6 (LX_pre ..) (LX_pre ..))) T ok d3 d4' hVr
    (hD.mono fun r hr => List.mem_append_left _ hr) (votes_ok hp) hM2 hd' hu6 offa offd offp hE fun its n' M3 h3 tk3 hpu hM3 F3 N3 => ?_
  have hm3 : ∀ r ∈ ds ++ [(Vl, W.listOf vs.toArray nv), (Pl, W.listOf ps.toArray np), (Dr, LCg.lst rs), (86, tabObj pt)], r ∈ LX x dx f D f1 c1 ca ct la pb os fd oc oA oT q doc pm ctv e1 e2 e3 e4 er k1 k2 k3 k4 kr tw pos tp ln tl its n' ((L + 1 + 1 + 1, o3) :: (L + 1 + 1 + 1 + 1, o4') :: (ds ++ [(Vl, W.listOf vs.toArray nv), (Pl, W.listOf ps.toArray np), (Dr, LCg.lst rs), (86, tabObj pt)])) := fun r hr => by
    rw [LX_pre]; exact List.mem_append_right _ (.tail _ (.tail _ hr))
  refine law_majority (s := {s with heap := h3, toks := tk3}) (vote := voteP pl) (vs := vs) (Vl := Vl) (nv := nv) (o4 := o4') (o5 := o5) (news := LX x dx f D f1 c1 ca ct la pb os fd oc oA oT q doc pm ctv e1 e2 e3 e4 er k1 k2 k3 k4 kr tw pos tp ln tl its n' ((L + 1 + 1 + 1, o3) :: (L + 1 + 1 + 1 + 1, o4') :: (ds ++ [(Vl, W.listOf vs.toArray nv), (Pl, W.listOf ps.toArray np), (Dr, LCg.lst rs), (86, tabObj pt)])))
    B F3 X (news_mono N3 (sub_7 (LX_pre ..) (LX_pre ..))) T d5 ?c5 (by rw [LX_pre]; exact List.mem_append_right _ (.tail _ (.head _))) d4' (hm3 _ (List.mem_append_right _ (.head _))) (hD.mono fun r hr => hm3 _ (List.mem_append_left _ hr)) hd' hu6 hE fun Dm t0 t1 t2 o5' h4 tk4 d5' lt F4 N4 => ?_
  case c5 =>
    rw [LX_pre]
    intro r hr
    rcases List.mem_append.mp hr with h | hr
    · have := lx_ge ok r h
      show @Ne Nat _ _
      omega
    rcases List.mem_cons.mp hr with e | hr
    · rw [e]; show @Ne Nat (L + 1 + 1 + 1) (L + 1 + 1 + 1 + 1 + 1); omega
    rcases List.mem_cons.mp hr with e | hr
    · rw [e]; show @Ne Nat (L + 1 + 1 + 1 + 1) (L + 1 + 1 + 1 + 1 + 1); omega
    rcases List.mem_append.mp hr with hr | hr
    · exact dsz (L + 1 + 1 + 1 + 1 + 1) ⟨o5, by rw [LX_pre]; exact List.mem_append_right _ (.tail _ (.tail _ (.head _)))⟩ r hr
    rcases List.mem_cons.mp hr with e | hr
    · rw [e]; show @Ne Nat Vl (L + 1 + 1 + 1 + 1 + 1); omega
    rcases List.mem_cons.mp hr with e | hr
    · rw [e]; show @Ne Nat Pl (L + 1 + 1 + 1 + 1 + 1); omega
    rcases List.mem_cons.mp hr with e | hr
    · rw [e]; exact fun g => n6 g.symm
    rcases List.mem_cons.mp hr with e | hr
    · rw [e]; show @Ne Nat 86 (L + 1 + 1 + 1 + 1 + 1); omega
    · cases hr
  have g1 : @LT.lt Nat _ la Dm := lt _ (.tail _ (.head _))
  have g2 : @LT.lt Nat _ dx Dm := lt _ (.tail _ (.tail _ (.head _)))
  have g3 : @LT.lt Nat _ pb Dm := lt _ (.tail _ (.tail _ (.tail _ (.head _))))
  refine hnext pl o4' o5' Vl Pl Dm vs ps nv np t0 t1 t2 its n' ((Dm, LCg.lst [.int (majI (voteP pl) 0) t0, .int (majI (voteP pl) 1) t1, .int (majI (voteP pl) 2) t2]) :: (ds ++ [(Vl, W.listOf vs.toArray nv), (Pl, W.listOf ps.toArray np), (Dr, LCg.lst rs), (86, tabObj pt)])) M3 h4 tk4
    ⟨ok, hp, d3, d4', d5', ?aw, hpu, .tail _ (List.mem_append_right _ (.head _)), hD.mono fun r hr => .tail _ (List.mem_append_left _ hr), .tail _ (List.mem_append_right _ (.tail _ (.head _))), ip, .head _, ⟨pt, .tail _ (List.mem_append_right _ (.tail _ (.tail _ (.tail _ (.head _)))))⟩⟩ hM3 F4 (news_mono N4 (sub_8 (LX_pre ..) (LX_pre ..)))
  case aw =>
    intro z hz r hr
    have hz5 : @LT.lt Nat _ ct z := by rcases hz with e | e | e <;> rw [e] <;> omega
    have hzm : @LT.lt Nat _ z Dm := by rcases hz with e | e | e <;> rw [e] <;> assumption
    have hoff : ∀ r ∈ (L + 1 + 1 + 1, o3) :: (L + 1 + 1 + 1 + 1, o4') :: (ds ++ [(Vl, W.listOf vs.toArray nv), (Pl, W.listOf ps.toArray np), (Dr, LCg.lst rs), (L + 1 + 1 + 1 + 1 + 1, o5), (86, tabObj pt)]), r.1 ≠ z := by
      rcases hz with e | e | e <;> rw [e] <;> assumption
    rcases List.mem_cons.mp hr with e | hr
    · exact hoff r (e ▸ .head _)
    rcases List.mem_cons.mp hr with e | hr
    · exact hoff r (e ▸ .tail _ (.head _))
    rcases List.mem_cons.mp hr with e | hr
    · rw [e]; show @Ne Nat (L + 1 + 1 + 1 + 1 + 1) z; omega
    rcases List.mem_cons.mp hr with e | hr
    · rw [e]; show @Ne Nat Dm z; omega
    rcases List.mem_append.mp hr with hr | hr
    · exact hoff r (.tail _ (.tail _ (List.mem_append_left _ hr)))
    rcases List.mem_cons.mp hr with e | hr
    · exact hoff r (e ▸ .tail _ (.tail _ (List.mem_append_right _ (.head _))))
    rcases List.mem_cons.mp hr with e | hr
    · exact hoff r (e ▸ .tail _ (.tail _ (List.mem_append_right _ (.tail _ (.head _)))))
    rcases List.mem_cons.mp hr with e | hr
    · exact hoff r (e ▸ .tail _ (.tail _ (List.mem_append_right _ (.tail _ (.tail _ (.head _))))))
    rcases List.mem_cons.mp hr with e | hr
    · rw [e]; show @Ne Nat 86 z; omega
    · cases hr
end

end
section
section
variable {prog : Program} {w : World} {p : Program} {loose : List Str} {mean : ExcName → Option Value} {mg mb : Str → Option Value}
  {dp un : Nat} {gd : Option (List Code)} {a : Addr} {ccd : Value} {outer : List Env} {A₀ : Around} {base h₀ : Heap} {L : Addr} {m : Str → Option Value} {s : Shared} {E : Value → Shared → Prop} {tail : List Stmt} {Q : Flow → Shared → Prop}
theorem pushed_three {vote : Nat → Int × Int × Int} {its : Array Value} (h : Pushed vote 3 its) : ∃ t0 t1 t2, its = #[.str (wordV (vote 0)) t0, .str (wordV (vote 1)) t1, .str (wordV (vote 2)) t2] := by
  cases h with
  | @succ _ i2 t2 h2 =>
    cases h2 with
    | @succ _ i1 t1 h1 =>
      cases h1 with
      | @succ _ i0 t0 h0 =>
        cases h0
        exact ⟨t0, t1, t2, rfl⟩
theorem places_in {place : Nat → Int} {ps : List Value} (ip : IntsAre ps [place 0, place 1, place 2]) : PlacesIn place ps.toArray := by
  cases ip with
  | cons _ t0 r =>
    cases r with
    | cons _ t1 r =>
      cases r with
      | cons _ t2 r =>
        cases r
        refine ⟨rfl, fun i hi => ?_⟩
        have h3 : i = 0 ∨ i = 1 ∨ i = 2 := by omega
        rcases h3 with rfl | rfl | rfl <;> exact ⟨_, rfl⟩
theorem sub_9 {c3 c4 c5 : Addr × Obj} {l l' b r : List (Addr × Obj)} (e : l = b ++ (c3 :: c4 :: c5 :: r)) (e' : l' = b ++ (c3 :: r)) : ∀ p ∈ c4 :: c5 :: l', p ∈ l := by
  subst e e'
  intro p hp
  simp only [List.mem_append, List.mem_cons] at hp ⊢
  rcases hp with h | h | h | h | h <;> simp [h]
theorem sub_10 {p1 p2 p3 : Addr × Obj} {l : List (Addr × Obj)} : ∀ r ∈ p2 :: p3 :: p1 :: l, r ∈ p1 :: p2 :: p3 :: l := by
  intro p hp
  simp only [List.mem_cons] at hp ⊢
  rcases hp with h | h | h | h <;> simp [h]
theorem law_tail {x dx f D f1 c1 ca ct la pb : Addr} {os : Array (Option Value)} {fd : FuncData} {oc oA oT o3 o4 o5 : Obj} {q text : Str} {doc pm ctv : Value} {e1 e2 e3 e4 er : Int} {k1 k2 k3 k4 kr tw : Tok} {tp tl : Tok} {pos ln : Int} {M : Str → Option Value}
  {pl : Nat → Nat} {Vl Pl Dm : Addr} {vs ps : List Value} {nv np : Nat} {t0 t1 t2 : Tok} {its : Array Value} {n : Nat} {rest : List (Addr × Obj)}
  (B : Below A₀ base outer h₀) (F : Fr h₀ L s.heap M) (X : (hd.heap_1 w.params).In h₀)
  (N : News h₀ L s.heap (LX x dx f D f1 c1 ca ct la pb os fd oc oA oT q doc pm ctv e1 e2 e3 e4 er k1 k2 k3 k4 kr tw pos tp ln tl its n ((L + 1 + 1 + 1, o3) :: (L + 1 + 1 + 1 + 1, o4) :: (L + 1 + 1 + 1 + 1 + 1, o5) :: rest)))
  (T : Top p loose mean mg mb h₀) (R : Mid pl x dx f D f1 c1 ca ct la pb oc oA oT q text L o3 o4 o5 Vl Pl Dm vs ps nv np t0 t1 t2 its rest) (hM : M (Str.ofString "places") = some (.ref Pl))
  (hd' : dp + 10 < recursionLimit) (hu : un + 100 < cLine)
  (hE : PassesOwn (model prog w) (lawA dp un gd L a ccd outer) (lawE L a ccd) E)
  (hret : ∀ M' h' tk' news' pt', Fr h₀ L h' M' → News h₀ L h' news' → (86, tabObj pt') ∈ news' → Q (.ret (.bool true)) {s with heap := h', toks := tk'}) :
  wpAny (model prog w) (lawA dp un gd L a ccd outer) (execs [(fnBody lawDef).getD 13 default, (fnBody lawDef).getD 14 default, (fnBody lawDef).getD 15 default, (fnBody lawDef).getD 16 default, (fnBody lawDef).getD 17 default, (fnBody lawDef).getD 18 default] (lawE L a ccd)) Q E s := by
  have hu6 : un + 60 < cLine := by omega
  obtain ⟨ok, hp, d3, d4, d5, away, hpu, hV, hD, hP, ip, hj, pt, hT⟩ := R
  obtain ⟨u0, u1, u2, rfl⟩ := pushed_three hpu
  have offa := away la (.inl rfl)
  have offd := away dx (.inr (.inl rfl))
  have offp := away pb (.inr (.inr rfl))
  refine law_here B F X N T ok d3 hd' hu6 offa offd offp hE fun n1 h1 tk1 F1 N1 => ?_
  refine law_ways (s := {s with heap := h1, toks := tk1}) (wd := wdP pl) (place := placeP pl) (th := u0) B F1 X N1 T ok d3 (.tail _ (.tail _ hP)) (places_in ip) (ways_ok hp) (fun i => by unfold wdP; rw [Nat.add_mod_right]) (if_pos rfl) ((if_neg (by decide)).trans hM) hd' hu6 offa offd offp hE
    fun its2 n2 M2 h2 tk2 hM2 F2 N2 => ?_
  have hin : ∀ r ∈ rest, r ∈ LX x dx f D f1 c1 ca ct la pb os fd oc oA oT q doc pm ctv e1 e2 e3 e4 er k1 k2 k3 k4 kr tw pos tp ln tl its2 n2 ((L + 1 + 1 + 1, o3) :: rest) := fun r hr => by
    rw [LX_pre]; exact List.mem_append_right _ (.tail _ hr)
  refine law_reach (s := {s with heap := h2, toks := tk2}) (vote := voteP pl) (mj := mjP pl) (news := LX x dx f D f1 c1 ca ct la pb os fd oc oA oT q doc pm ctv e1 e2 e3 e4 er k1 k2 k3 k4 kr tw pos tp ln tl its2 n2 ((L + 1 + 1 + 1, o3) :: rest)) B F2 X (news_mono N2 (sub_9 (LX_pre ..) (LX_pre ..))) T d4 d5 (hin _ hV) (hD.mono hin) (hin _ hj)
    (fun j => pv_ok (hp j)) (mjP_ok hp) (reach_ok hp) hd' hu6 hE fun Dr ys h3 tk3 hys F3 N3 => ?_
  refine law_last (s := {s with heap := h3, toks := tk3}) (vote := voteP pl) (place := placeP pl) (reach := reachI (voteP pl) (mjP pl)) (mj := mjP pl) (news := (Dr, LCg.lst ys) :: LX x dx f D f1 c1 ca ct la pb os fd oc oA oT q doc pm ctv e1 e2 e3 e4 er k1 k2 k3 k4 kr tw pos tp ln tl its2 n2 ((L + 1 + 1 + 1, o3) :: rest)) B F3 X (news_mono N3 sub_10) T d4 d5
    (.tail _ (hin _ hP)) (.head _) (.tail _ (hin _ hV)) (hD.mono fun r hr => .tail _ (hin r hr)) (.tail _ (hin _ hj)) ip hys (last_ok hp) (if_pos rfl) ((if_neg (by decide)).trans hM2) hd' hu hE fun M4 h4 tk4 hM4 F4 N4 => ?_
  refine law_ring (s := {s with heap := h4, toks := tk4}) (mj := mjP pl) (M := M4) B (fr_have F4 hM4) X N4 T d5 (.tail _ (hin _ hj)) hd' hu hE fun h5 tk5 F5 N5 => ?_
  exact law_ret (s := {s with heap := h5, toks := tk5}) (place := placeP pl) (M := M4) B F5 X N5 T (.tail _ (hin _ hP)) ip (ring_ok hp) hd' hu hE fun M6 h6 tk6 F6 N6 => hret M6 h6 tk6 _ pt F6 N6 (.tail _ (.tail _ (.tail _ (hin _ hT))))
theorem body_parts : fnBody lawDef = [(fnBody lawDef).getD 0 default, (fnBody lawDef).getD 1 default, (fnBody lawDef).getD 2 default, (fnBody lawDef).getD 3 default, (fnBody lawDef).getD 4 default, (fnBody lawDef).getD 5 default, (fnBody lawDef).getD 6 default, (fnBody lawDef).getD 7 default, (fnBody lawDef).getD 8 default, (fnBody lawDef).getD 9 default, (fnBody lawDef).getD 10 default, (fnBody lawDef).getD 11 default, (fnBody lawDef).getD 12 default, (fnBody lawDef).getD 13 default, (fnBody lawDef).getD 14 default, (fnBody lawDef).getD 15 default, (fnBody lawDef).getD 16 default, (fnBody lawDef).getD 17 default, (fnBody lawDef).getD 18 default] := rfl
/-- the law's body, whole -/
theorem law_whole_body {lS : Addr} {vs : List Value} {ns : List Int} {o1 o2 o3 o4 o5 : Obj}
  (B : Below A₀ base outer h₀) (F : Fr h₀ L s.heap (fun z => if z = Str.ofString "script" then some (.ref lS) else none)) (X : (hd.heap_1 w.params).In h₀)
  (N : News h₀ L s.heap ((L + 1, o1) :: (L + 1 + 1, o2) :: (L + 1 + 1 + 1, o3) :: (L + 1 + 1 + 1 + 1, o4) :: (L + 1 + 1 + 1 + 1 + 1, o5) :: [(86, tabObj #[])])) (T : Top p loose mean mg mb h₀) (codeHd : CodeHd base 90 86) (l0 : @LT.lt Nat _ 86 L)
  (d1 : o1.data = Data.cell none) (d2 : o2.data = Data.cell none) (d3 : o3.data = Data.cell none) (d4 : o4.data = Data.cell none) (d5 : o5.data = Data.cell none)
  (hl : h₀.IsList lS vs.toArray) (hi : IntsAre vs ns) (hlay : (PyData.list (List.map PyData.int ns)).layable0 = true) (hlen : ¬ ((63 : Nat) : Int) < (ns.length : Int))
  (hd' : dp + 10 < recursionLimit) (hu : un + 100 < cLine)
  (hE : PassesOwn (model prog w) (lawA dp un gd L a ccd outer) (lawE L a ccd) E)
  (hret : ∀ M' h' tk' news' pt', Fr h₀ L h' M' → News h₀ L h' news' → (86, tabObj pt') ∈ news' → Q (.ret (.bool true)) {s with heap := h', toks := tk'}) :
  wpAny (model prog w) (lawA dp un gd L a ccd outer) (execs (fnBody lawDef) (lawE L a ccd)) Q E s := by
  rw [body_parts]
  refine law_head B F X N T codeHd l0 d1 d2 d3 hl hi hlay hlen hd' hu hE fun x dx f D f1 c1 ca ct la pb os fd oc oA oT o3' q text doc pm ctv e1 e2 e3 e4 er k1 k2 k3 k4 kr tw tp tl pos ln pt Dr rs M h1 tk1 R hM F1 N1 => ?_
  refine law_mid (s := {s with heap := h1, toks := tk1}) B F1 X N1 T R hM d4 d5 l0 hd' hu hE fun pl o4' o5' Vl Pl Dm vs' ps nv np t0 t1 t2 its n' rest M2 h2 tk2 R2 hM2 F2 N2 => ?_
  exact law_tail (s := {s with heap := h2, toks := tk2}) B F2 X N2 T R2 hM2 hd' hu hE fun M3 h3 tk3 nw pt' F3 N3 ht => hret M3 h3 tk3 nw pt' F3 N3 ht
end

end
end Mine
section
local macro_rules | `(tactic| k_qdec) => `(tactic| decide +kernel)
theorem Mine.rev_news {h₀ h : Heap} {L : Addr} {p1 p2 p3 p4 p5 p6 : Addr × Obj} (N : News h₀ L h [p5, p4, p3, p2, p1, p6]) : News h₀ L h [p1, p2, p3, p4, p5, p6] := Mine.news_mono N (by
  intro p hp
  simp only [List.mem_cons, List.not_mem_nil, or_false] at hp ⊢
  rcases hp with h | h | h | h | h | h <;> simp [h])
theorem PySem.Challenge.cw_pe0144_01_holds : PySem.Challenge.rw_pe0144_01.Holds :=
  Mine.hd (by
  k_go0
  rename News _ _ _ _ => N9
  rename Fr _ _ _ _ => F9
  (all_goals try k_fold)
  refine Mine.law_whole_body (by assumption) (Mine.fr_ext F9 ?F) (by assumption) (Mine.rev_news N9) (by assumption) (by assumption) (by assumption) ?d1 ?d2 ?d3 ?d4 ?d5 (by assumption) (by assumption) (by assumption) (by assumption) ?hd ?hu ?hE ?hret
  case d1 => refine Eq.trans (by assumption) ?_; with_unfolding_all rfl
  case d2 => refine Eq.trans (by assumption) ?_; with_unfolding_all rfl
  case d3 => refine Eq.trans (by assumption) ?_; with_unfolding_all rfl
  case d4 => refine Eq.trans (by assumption) ?_; with_unfolding_all rfl
  case d5 => refine Eq.trans (by assumption) ?_; with_unfolding_all rfl
  case F => intro z; with_unfolding_all rfl
  case hd => decide
  case hu => decide
  case hE => with_unfolding_all passes_own
  case hret =>
    intro M' h' tk' news' pt' F' N' hT
    clear N9 F9
    refine ⟨?_, GrownAt.of N' hT, trivial⟩
    refine goodW_bool F' (by assumption) (raisesW_false ?hn) ?hp
    case hn => wrow_none_raised
    case hp => wrow_post)

end
