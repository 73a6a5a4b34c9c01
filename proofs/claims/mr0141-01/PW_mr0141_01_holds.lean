import PyProof.Rows.All
import Wide.All
import OpenK.AllK
import Wide.FinOn
import KE.BitLaws
import Flt.RightMore
import PySem.Challenge.RW_mr0141_01
set_option Elab.async false
set_option maxRecDepth 100000
section
open PySem PySem.W PyProof.Rows
namespace Mine
set_option maxHeartbeats 8000000 in
open_top hd for PySem.Challenge.rw_mr0141_01
set_option pp.deepTerms false
end Mine
end
section
open PySem PySem.W PyProof.Rows
namespace Mine
def genCrc (c : Int) : Int := List.foldl
        (fun a' (_ : Int) =>
          if ¬Builtin.bitAnd a' 1 = 0 then Builtin.bitXor (a'.fdiv (2 ^ Int.toNat 1)) 3988292384
          else a'.fdiv (2 ^ Int.toNat 1))
        c (rangeKs 0 ((8 : Int) - 0).toNat)
set_option maxHeartbeats 8000000 in
theorem crc_call {w : World} {mean mg mb} {dp un : Nat} {gd : Option (List Code)} {cn : Str} {cs : Scope} {a : Addr} {ccd : Value} {cl : List (Str × Addr)} {outer : List Env} {A₀ : Around} {base h₀ : Heap} {L : Addr} {m : Str → Option Value} {news : List (Addr × Obj)} {s : Shared} {Q E : Value → Shared → Prop}
  {c : Int} {t : Tok} 
  (B : Below A₀ base outer h₀) (F : Fr h₀ L s.heap m) (X : (hd.heap_39 w.params).In h₀) (N : News h₀ L s.heap news) (T : Top hd.view_39 (looseW hd.view_39 [Str.ofString "ONE_THIRD", Str.ofString "ONE_SIXTH", Str.ofString "TWO_THIRD"]) mean mg mb h₀) (hk : cs.kind = .function) (hdp : dp + 1 < recursionLimit) (hun : un + 8 < cLine)
  (ret : ∀ t h' tk', Fr h₀ L h' m → News h₀ L h' news → Q (.int (genCrc c) t) { s with heap := h', toks := tk' }) :
  wpAny (model PySem.Challenge.rw_mr0141_01.row.prog w) (ktrTop dp un gd cn cs L a ccd cl outer) (call (.ref 21) [.int c t]) Q E s := by
  k_with_none
  revert X; k_fill; intro X
  k_with "exec For Name Call cons nil" => kpr_for
  k_with "pyIter ref" => kpr_short
  refine wpAny_call ?_
  k_dflt cell_enter
  k_steps
  exact ret _ _ _ (by k_asm) (by k_asm)
def lawSum (ns : List Int) : Int := Builtin.bitXor (ns.foldl (fun r o => genCrc (Builtin.bitXor r o)) 4294967295) 4294967295
theorem lawSum_step {pre : List Int} {a o : Int} (h : a = pre.foldl (fun r o => genCrc (Builtin.bitXor r o)) 4294967295) : genCrc (Builtin.bitXor a o) = (pre ++ [o]).foldl (fun r o => genCrc (Builtin.bitXor r o)) 4294967295 := by
  rw [List.foldl_append, ← h]; rfl
set_option maxHeartbeats 8000000 in
theorem sum_call {w : World} {mean mg mb} {dp un : Nat} {gd : Option (List Code)} {cn : Str} {cs : Scope} {a : Addr} {ccd : Value} {cl : List (Str × Addr)} {outer : List Env} {A₀ : Around} {base h₀ : Heap} {L : Addr} {m : Str → Option Value} {news : List (Addr × Obj)} {s : Shared} {Q E : Value → Shared → Prop}
  {l : Addr} {vs : List Value} {ns : List Int} {k : Nat}
  (B : Below A₀ base outer h₀) (F : Fr h₀ L s.heap m) (X : (hd.heap_39 w.params).In h₀) (N : News h₀ L s.heap news) (T : Top hd.view_39 (looseW hd.view_39 [Str.ofString "ONE_THIRD", Str.ofString "ONE_SIXTH", Str.ofString "TWO_THIRD"]) mean mg mb h₀) (hk : cs.kind = .function) (hdp : dp + 2 < recursionLimit) (hun : un + 16 < cLine)
  (hm : (l, listOf vs.toArray k) ∈ news) (hi : IntsAre vs ns) (hlen : ns.length < 100)
  (ret : ∀ t h' tk', Fr h₀ L h' m → News h₀ L h' news → Q (.int (lawSum ns) t) { s with heap := h', toks := tk' }) :
  wpAny (model PySem.Challenge.rw_mr0141_01.row.prog w) (ktrTop dp un gd cn cs L a ccd cl outer) (call (.ref 63) [.ref l]) Q E s := by
  k_with_none
  revert X; k_fill; intro X
  have N1 : News h₀ L s.heap ((l, listOf vs.toArray k) :: news) := fun p hp => (List.mem_cons.mp hp).elim (fun e => e ▸ N _ hm) (N p)
  clear hm
  k_with "pyIter ref" => k_state (fun pre r => r = pre.foldl (fun r o => genCrc (Builtin.bitXor r o)) 4294967295) "register"
  k_with "state" => first | rfl | exact lawSum_step (by assumption)
  refine wpAny_call ?_
  k_dflt cell_enter
  repeat' (first | (k_unfold; (try dsimp only)) | (k_end; wrow_close) | (with_reducible (first | (k_here; (with_reducible show wpAny _ _ (call (Value.ref 21) [Value.int _ _]) _ _ _); k_dflt (refine crc_call (by k_asm) (by k_asm) (by k_asm) (by k_asm) (by k_asm) (by first | exact rfl | assumption) (by ktr_room) (by ktr_units) ?_; intro _ _ _ _ _; (try dsimp only); (try k_fold))))) | walk1 | (dsimp only; walk1) | (leave1; (try dsimp only)) | fail "no step")
  (rename _ = List.foldl _ _ _ => hr; subst hr)
  exact ret _ _ _ (by k_asm) (cb_drop (by k_asm) fun p hp => List.Mem.tail _ hp)
end Mine
end
section
open PySem PySem.W PyProof.Rows
namespace Mine
section
local macro_rules | `(tactic| walk_at "binaryOp Pow int int") => `(tactic| (refine pow_int_small (by omega) (by omega) (by decide) ?_))
def mirr (n : Int) : Int := (List.map (fun k' : Int => (n.fdiv (2 ^ k'.toNat)).fmod 2 * 2 ^ (31 - k').toNat) (rangeKs 0 ((32 : Int) - 0).toNat)).sum
set_option maxHeartbeats 8000000 in
theorem mirr_call {w : World} {mean mg mb} {dp un : Nat} {gd : Option (List Code)} {cn : Str} {cs : Scope} {a : Addr} {ccd : Value} {cl : List (Str × Addr)} {outer : List Env} {A₀ : Around} {base h₀ : Heap} {L : Addr} {m : Str → Option Value} {news : List (Addr × Obj)} {s : Shared} {Q E : Value → Shared → Prop}
  {n : Int} {t : Tok}
  (B : Below A₀ base outer h₀) (F : Fr h₀ L s.heap m) (X : (hd.heap_39 w.params).In h₀) (N : News h₀ L s.heap news) (T : Top hd.view_39 (looseW hd.view_39 [Str.ofString "ONE_THIRD", Str.ofString "ONE_SIXTH", Str.ofString "TWO_THIRD"]) mean mg mb h₀) (hk : cs.kind = .function) (hdp : dp + 1 < recursionLimit) (hun : un + 8 < cLine)
  
  (ret : ∀ t h' tk', Fr h₀ L h' m → News h₀ L h' news → Q (.int (mirr n) t) { s with heap := h', toks := tk' }) :
  wpAny (model PySem.Challenge.rw_mr0141_01.row.prog w) (ktrTop dp un gd cn cs L a ccd cl outer) (call (.ref 68) [.int n t]) Q E s := by
  k_with_none
  revert X; k_fill; intro X
  refine wpAny_call ?_
  k_dflt (refine' code_defC ?k1 ?k2 ?k3 ?k4 ?k5 ?kA ?kF ?kK ?k6 ?k7 ?k8 ?k9 ?kB ?kD ?_ ?c2 ?c3 ?c4; (case kA => exact rfl); (case kF => exact rfl); (case kK => assumption); (case k1 => k_asm); (case k2 => k_asm); (case k3 => k_asm); (case k4 => k_asm); (case k5 => k_asm); (case k6 => k_is); (case k7 => k_is); (case k8 => ktr_room); (case k9 => exact BindsTo.of_eq rfl); (case kB => exact rfl); (case kD => decide +kernel); (case c2 => exact rfl); (case c3 => exact rfl); (case c4 => exact rfl); k_whole; intro g' L' h' tk' cells' FG' F' N' Y' B' X' T' l1; (try k_lt l1); k_cells Y'; (try simp only [List.cons_append, List.nil_append] at N'); (try dsimp only); (try k_lift B'); (try k_fold))
  k_steps
  exact ret _ _ _ (by k_asm) (cb_drop (by k_asm) (by kcf_all))
theorem pows_le : ∀ k ∈ ([32, 26, 23, 22, 16, 12, 11, 10, 8, 7, 5, 4, 2, 1, 0] : List Int), 0 ≤ k ∧ k ≤ 32 := by decide
def divI : Int := (List.map (fun k' : Int => (2:Int) ^ k'.toNat) [32, 26, 23, 22, 16, 12, 11, 10, 8, 7, 5, 4, 2, 1, 0]).sum
def restStep (r k : Int) : Int := if r ≥ 2 ^ (k + 32).toNat then Builtin.bitXor r (divI * 2 ^ k.toNat) else r
def lawRest (n top : Int) : Int := List.foldl restStep n (downKs top (top - -1).toNat)
theorem restStep_pos {pre : List Int} {r n k : Int} (h : r = pre.foldl restStep n) (hc : r ≥ 2 ^ (k + 32).toNat) : Builtin.bitXor r (divI * 2 ^ k.toNat) = (pre ++ [k]).foldl restStep n := by
  rw [List.foldl_append, ← h]; simp [restStep, hc]
theorem restStep_neg {pre : List Int} {r n k : Int} (h : r = pre.foldl restStep n) (hc : ¬ r ≥ 2 ^ (k + 32).toNat) : r = (pre ++ [k]).foldl restStep n := by
  rw [List.foldl_append, ← h]; simp only [List.foldl_cons, List.foldl_nil, restStep, if_neg hc]
set_option maxHeartbeats 8000000 in
theorem rest_call {w : World} {mean mg mb} {dp un : Nat} {gd : Option (List Code)} {cn : Str} {cs : Scope} {a : Addr} {ccd : Value} {cl : List (Str × Addr)} {outer : List Env} {A₀ : Around} {base h₀ : Heap} {L : Addr} {m : Str → Option Value} {news : List (Addr × Obj)} {s : Shared} {Q E : Value → Shared → Prop}
  {n top : Int} {t u : Tok}
  (B : Below A₀ base outer h₀) (F : Fr h₀ L s.heap m) (X : (hd.heap_39 w.params).In h₀) (N : News h₀ L s.heap news) (T : Top hd.view_39 (looseW hd.view_39 [Str.ofString "ONE_THIRD", Str.ofString "ONE_SIXTH", Str.ofString "TWO_THIRD"]) mean mg mb h₀) (hk : cs.kind = .function) (hdp : dp + 1 < recursionLimit) (hun : un + 8 < cLine)
  (h1 : 0 ≤ top) (h2 : top ≤ 80)
  (ret : ∀ t h' tk', Fr h₀ L h' m → News h₀ L h' news → Q (.int (lawRest n top) t) { s with heap := h', toks := tk' }) :
  wpAny (model PySem.Challenge.rw_mr0141_01.row.prog w) (ktrTop dp un gd cn cs L a ccd cl outer) (call (.ref 73) [.int n t, .int top u]) Q E s := by
  k_with_none
  revert X; k_fill; intro X
  k_with "pyIter ref" => k_state_given ["number!"] (fun n₀ pre r => r = pre.foldl restStep n₀) "number"
  k_with "state" => first | rfl | exact restStep_pos (by assumption) (by assumption) | exact restStep_neg (by assumption) (by assumption)
  refine wpAny_call ?_
  k_dflt cell_enter
  repeat' ((fail_if_success (with_reducible show wpAny _ _ (eval (Expr.ListComp _ _ _ _) _) _ _ _)); (first | (k_unfold; (try dsimp only)) | (k_end; wrow_close) | walk1 | (dsimp only; walk1) | (leave1; (try dsimp only)) | fail "no step"))
  (k_here; k_dflt (refine LCg.ListComp_U (cl := []) (F₀ := by k_asm) ?ka ?kb ?kc ?kd ?ke ?kf ?kg; (case ka => with_unfolding_all rfl); (case kb => decide); (case kc => rfl); (case kd => decide); (case ke => rfl); (case kg => intro _; rfl)))
  repeat' ((fail_if_success (with_reducible show LCg.CompSrc _ _ _ _ _ _ _ _ _ _ _ _ _ _)); (first | (k_unfold; (try dsimp only)) | (k_end; wrow_close) | walk1 | (dsimp only; walk1) | (leave1; (try dsimp only)) | fail "no step"))
  (k_here; k_dflt (refine LCg.CompSrc.ledger (by rfl) (by k_asm) (by k_asm) (by k_mem) (by first | size_fits | exact Nat.le_of_ble_eq_true rfl) ?_; intro g'; (refine' kcf_list (ns := [32, 26, 23, 22, 16, 12, 11, 10, 8, 7, 5, 4, 2, 1, 0]) _ (by l_ints) (fun k' t' I' oI' C' oC' D' m' ys' h' tk' E' hk' hC' hx' F' N' off' ne' hMark' => ?_) ?_); (all_goals (try (simp only [LCg.Off3, and_true] at off'))); (all_goals (try (have hb' := pows_le _ hk'))); kcf_last))
  all_goals k_steps
  (rename _ = List.foldl restStep _ _ => hr; subst hr)
  exact ret _ _ _ (by k_asm) (cb_drop (by k_asm) (by kcf_all))
end
end Mine
end
section
open PySem PySem.W PyProof.Rows PySem.Calls
namespace Mine
open PySem.Flt
theorem max3_num {prog : Program} {w : World} {A : Around} {E : Value → Shared → Prop} {s : Shared} {Q : Value → Shared → Prop} {a b c : Value} (hh : A.handled = none) (ha : NumV a) (hb : NumV b) (hc : NumV c)
    (h : ∀ h' tk, (∀ d o, s.heap.get? d = some o → h'.get? d = some o) → Q (if ltV (if ltV a b then b else a) c then c else (if ltV a b then b else a)) { s with heap := h', toks := tk }) :
    wpAny (model prog w) A (call (.builtin "max") [a, b, c]) Q E s := by
  have hT : (s.heap.push { cls := .type "tuple", data := .seq #[a, b, c] }).IsTuple s.heap.objs.size #[a, b, c] := ⟨_, Heap.get?_push_size _ rfl, rfl, 0, rfl⟩
  refine call_max_three (wpAny_pyIter_tuple hT ?_)
  have hsz : (s.heap.push { cls := .type "tuple", data := .seq #[a, b, c] }).objs.size = s.heap.objs.size + 1 := Heap.size_push ..
  refine ⟨_, [_, s.heap.objs.size], [_], _, _, _, _, rfl, Walks.tuple (A := A.in1) hh _ s.heap.objs.size (by rw [hsz]; exact Nat.ne_of_lt (Nat.lt_succ_self _)) #[a, b, c],
    ⟨⟨_, Heap.get?_push_size _ rfl, rfl, rfl⟩, hT.push _⟩, fun d hd => ?_, by simp, cmpOf_gt #[a, b, c] (by simp [ha, hb, hc]), fun v h' tk hP hk => ?_⟩
  · show d < ((s.heap.push _).push _).objs.size
    rw [Heap.size_push, hsz]
    simp only [List.mem_cons, List.not_mem_nil, or_false] at hd
    rcases hd with rfl | rfl
    · rw [hsz]; exact Nat.lt_succ_self _
    · exact Nat.lt_succ_of_lt (Nat.lt_succ_self _)
  · have hold : ∀ d o, s.heap.get? d = some o → h'.get? d = some o := fun d o e => by
      refine hk d o (fun hm => ?_) (Heap.get?_push_of_some _ (Heap.get?_push_of_some _ e))
      have e1 := List.mem_singleton.mp hm
      have := Heap.lt_size e; rw [e1, hsz] at this; exact Nat.lt_irrefl _ (Nat.lt_of_succ_lt this)
    have := h h' tk hold
    have hv : v = if ltV (if ltV a b then b else a) c then c else (if ltV a b then b else a) := by
      cases hc : ltV a b
      · cases hd : ltV a c <;> simp [argBest, hc, hd] at hP <;> (subst hP; simp [hd])
      · cases hd : ltV b c <;> simp [argBest, hc, hd] at hP <;> (subst hP; simp [hd])
    rw [hv]; exact this
theorem min3_num {prog : Program} {w : World} {A : Around} {E : Value → Shared → Prop} {s : Shared} {Q : Value → Shared → Prop} {a b c : Value} (hh : A.handled = none) (ha : NumV a) (hb : NumV b) (hc : NumV c)
    (h : ∀ h' tk, (∀ d o, s.heap.get? d = some o → h'.get? d = some o) → Q (if ltV c (if ltV b a then b else a) then c else (if ltV b a then b else a)) { s with heap := h', toks := tk }) :
    wpAny (model prog w) A (call (.builtin "min") [a, b, c]) Q E s := by
  have hT : (s.heap.push { cls := .type "tuple", data := .seq #[a, b, c] }).IsTuple s.heap.objs.size #[a, b, c] := ⟨_, Heap.get?_push_size _ rfl, rfl, 0, rfl⟩
  refine call_min_three (wpAny_pyIter_tuple hT ?_)
  have hsz : (s.heap.push { cls := .type "tuple", data := .seq #[a, b, c] }).objs.size = s.heap.objs.size + 1 := Heap.size_push ..
  refine ⟨_, [_, s.heap.objs.size], [_], _, _, _, _, rfl, Walks.tuple (A := A.in1) hh _ s.heap.objs.size (by rw [hsz]; exact Nat.ne_of_lt (Nat.lt_succ_self _)) #[a, b, c],
    ⟨⟨_, Heap.get?_push_size _ rfl, rfl, rfl⟩, hT.push _⟩, fun d hd => ?_, by simp, cmpOf_lt #[a, b, c] (by simp [ha, hb, hc]), fun v h' tk hP hk => ?_⟩
  · show d < ((s.heap.push _).push _).objs.size
    rw [Heap.size_push, hsz]
    simp only [List.mem_cons, List.not_mem_nil, or_false] at hd
    rcases hd with rfl | rfl
    · rw [hsz]; exact Nat.lt_succ_self _
    · exact Nat.lt_succ_of_lt (Nat.lt_succ_self _)
  · have hold : ∀ d o, s.heap.get? d = some o → h'.get? d = some o := fun d o e => by
      refine hk d o (fun hm => ?_) (Heap.get?_push_of_some _ (Heap.get?_push_of_some _ e))
      have e1 := List.mem_singleton.mp hm
      have := Heap.lt_size e; rw [e1, hsz] at this; exact Nat.lt_irrefl _ (Nat.lt_of_succ_lt this)
    have := h h' tk hold
    have hv : v = if ltV c (if ltV b a then b else a) then c else (if ltV b a then b else a) := by
      cases hc : ltV b a
      · cases hd : ltV c a <;> simp [argBest, hc, hd] at hP <;> (subst hP; simp [hd])
      · cases hd : ltV c b <;> simp [argBest, hc, hd] at hP <;> (subst hP; simp [hd])
    rw [hv]; exact this
def ltF (a b : UInt64) : Bool := Float64.cmp a b == some .lt
def eqF (a b : UInt64) : Bool := Float64.cmp a b == some .eq
def mx2 (a b : UInt64) : UInt64 := if ltF a b then b else a
def mn2 (a b : UInt64) : UInt64 := if ltF b a then b else a
theorem max3_f {prog : Program} {w : World} {A : Around} {E : Value → Shared → Prop} {s : Shared} {Q : Value → Shared → Prop} {x y z : UInt64} {t u v : Tok} {h₀ : Heap} {L : Addr} {m : Str → Option Value} {news : List (Addr × Obj)}
    (hh : A.handled = none) (F : Fr h₀ L s.heap m) (N : News h₀ L s.heap news)
    (h : ∀ h' tk v, Fr h₀ L h' m → News h₀ L h' news → Q (.float (mx2 (mx2 x y) z) v) { s with heap := h', toks := tk }) :
    wpAny (model prog w) A (call (.builtin "max") [.float x t, .float y u, .float z v]) Q E s :=
  max3_num hh (.float x t) (.float y u) (.float z v) fun h' tk kp => by
    have := fun v => h h' tk v (F.grownK kp) (N.grown kp)
    unfold mx2 ltF at this
    cases e1 : (Float64.cmp x y == some .lt)
    · simp only [e1, Bool.false_eq_true, if_false] at this
      cases e2 : (Float64.cmp x z == some .lt) <;> simp only [e2, Bool.false_eq_true, if_false, if_true] at this <;> simp only [ltV, e1, e2, Bool.false_eq_true, if_false, if_true] <;> exact this _
    · simp only [e1, if_true] at this
      cases e2 : (Float64.cmp y z == some .lt) <;> simp only [e2, Bool.false_eq_true, if_false, if_true] at this <;> simp only [ltV, e1, e2, Bool.false_eq_true, if_false, if_true] <;> exact this _
theorem min3_f {prog : Program} {w : World} {A : Around} {E : Value → Shared → Prop} {s : Shared} {Q : Value → Shared → Prop} {x y z : UInt64} {t u v : Tok} {h₀ : Heap} {L : Addr} {m : Str → Option Value} {news : List (Addr × Obj)}
    (hh : A.handled = none) (F : Fr h₀ L s.heap m) (N : News h₀ L s.heap news)
    (h : ∀ h' tk v, Fr h₀ L h' m → News h₀ L h' news → Q (.float (mn2 (mn2 x y) z) v) { s with heap := h', toks := tk }) :
    wpAny (model prog w) A (call (.builtin "min") [.float x t, .float y u, .float z v]) Q E s :=
  min3_num hh (.float x t) (.float y u) (.float z v) fun h' tk kp => by
    have := fun v => h h' tk v (F.grownK kp) (N.grown kp)
    unfold mn2 ltF at this
    cases e1 : (Float64.cmp y x == some .lt)
    · simp only [e1, Bool.false_eq_true, if_false] at this
      cases e2 : (Float64.cmp z x == some .lt) <;> simp only [e2, Bool.false_eq_true, if_false, if_true] at this <;> simp only [ltV, e1, e2, Bool.false_eq_true, if_false, if_true] <;> exact this _
    · simp only [e1, if_true] at this
      cases e2 : (Float64.cmp z y == some .lt) <;> simp only [e2, Bool.false_eq_true, if_false, if_true] at this <;> simp only [ltV, e1, e2, Bool.false_eq_true, if_false, if_true] <;> exact this _
end Mine
namespace Mine
theorem div_ff {prog : Program} {w : World} {A : Around} {E : Value → Shared → Prop} {s : Shared} {Q : Value → Shared → Prop} {a b : UInt64} {t u : Tok} (hz : Float64.isZero b = false)
    (h : Q (.float (Float64.div a b) s.toks) { s with toks := s.toks + 1 }) : wpAny (model prog w) A (binaryOp .Div (.float a t) (.float b u)) Q E s :=
  AutoFloatOps.truediv_1 (by simp [hz]) h
theorem mod_f1 {prog : Program} {w : World} {A : Around} {E : Value → Shared → Prop} {s : Shared} {Q : Value → Shared → Prop} {a b : UInt64} {t u : Tok} (hz : Float64.isZero b = false)
    (h : Q (.float (Float64.divmod a b).2 s.toks) { s with toks := s.toks + 1 }) : wpAny (model prog w) A (binaryOp .Mod (.float a t) (.float b u)) Q E s :=
  AutoFloatOps.mod_1 (by simp [hz]) h
end Mine
namespace Mine
open PySem.Flt
def iF (x : UInt64) : Int := toInt Float64.truncOf x
theorem not_over {n : Int} (h : n.natAbs < 2 ^ 62) : ¬ Over n := by
  intro ho; unfold Over at ho; have : (2:Nat) ^ 62 ≤ 2 ^ 1000 := Nat.pow_le_pow_right (by decide) (by decide); omega
theorem int_f {prog : Program} {w : World} {A : Around} {E : Value → Shared → Prop} {s : Shared} {Q : Value → Shared → Prop} {x : UInt64} {t : Tok} (hA : A.handled = none) (hf : Float64.isFinite x = true)
    (h : Q (.int (iF x) s.toks) { s with toks := s.toks + 1 }) : wpAny (model prog w) A (call (.type "int") [.float x t]) Q E s :=
  call_int_float3 hA (fun e => by unfold Float64.isFinite at hf; unfold Float64.isNaN at e; revert hf e; cases Float64.decode x <;> simp) (fun e => by unfold Float64.isFinite at hf; unfold Float64.isInf at e; revert hf e; cases Float64.decode x <;> simp) (fun _ => h)
theorem sub_f_i {prog : Program} {w : World} {A : Around} {E : Value → Shared → Prop} {s : Shared} {Q : Value → Shared → Prop} {a : UInt64} {n : Int} {t u : Tok} (hn : n.natAbs < 2 ^ 62)
    (h : Q (.float (Float64.sub a (Float64.ofInt n)) s.toks) { s with toks := s.toks + 1 }) : wpAny (model prog w) A (binaryOp .Sub (.float a t) (.int n u)) Q E s :=
  AutoFloatOps.sub_fi_1 (fin_of_fits (not_over hn)) h
end Mine
end
section
open PySem PySem.W PyProof.Rows
namespace Mine
section
theorem nz6 : Float64.isZero 4618441417868443648 = false := by decide +kernel
theorem nz1 : Float64.isZero 4607182418800017408 = false := by decide +kernel
theorem nz2 : Float64.isZero 4611686018427387904 = false := by decide +kernel
local macro_rules | `(tactic| walk_at "binaryOp Div float float") => `(tactic| (refine' div_ff ?k1 ?_; (case k1 => first | exact nz6 | exact nz2 | assumption | exact And.left (by assumption) | exact And.right (by assumption))))
local macro_rules | `(tactic| walk_at "binaryOp Mod float float") => `(tactic| (refine' mod_f1 ?k1 ?_; (case k1 => exact nz1)))
def hueF (r g b mx rng : UInt64) : UInt64 :=
  (Float64.divmod (Float64.div (if eqF r mx then Float64.sub (Float64.div (Float64.sub mx b) rng) (Float64.div (Float64.sub mx g) rng)
    else if eqF g mx then Float64.sub (Float64.add 0x4000000000000000 (Float64.div (Float64.sub mx r) rng)) (Float64.div (Float64.sub mx b) rng)
    else Float64.sub (Float64.add 0x4010000000000000 (Float64.div (Float64.sub mx g) rng)) (Float64.div (Float64.sub mx r) rng)) 0x4018000000000000) 0x3ff0000000000000).2
def mx3 (r g b : UInt64) : UInt64 := mx2 (mx2 r g) b
def mn3 (r g b : UInt64) : UInt64 := mn2 (mn2 r g) b
def rn3 (r g b : UInt64) : UInt64 := Float64.sub (mx3 r g b) (mn3 r g b)
def hsvT (r g b : UInt64) : UInt64 × UInt64 × UInt64 :=
  if eqF (mn3 r g b) (mx3 r g b) then (0, 0, mx3 r g b) else (hueF r g b (mx3 r g b) (rn3 r g b), Float64.div (rn3 r g b) (mx3 r g b), mx3 r g b)
def leF (a b : UInt64) : Bool := Float64.cmp a b == some Ordering.lt || Float64.cmp a b == some Ordering.eq
def hlsT (r g b : UInt64) : UInt64 × UInt64 × UInt64 :=
  if eqF (mn3 r g b) (mx3 r g b) then (0, Float64.div (Float64.add (mx3 r g b) (mn3 r g b)) 0x4000000000000000, 0) else
  if leF (Float64.div (Float64.add (mx3 r g b) (mn3 r g b)) 0x4000000000000000) 0x3fe0000000000000
  then (hueF r g b (mx3 r g b) (rn3 r g b), Float64.div (Float64.add (mx3 r g b) (mn3 r g b)) 0x4000000000000000, Float64.div (rn3 r g b) (Float64.add (mx3 r g b) (mn3 r g b)))
  else (hueF r g b (mx3 r g b) (rn3 r g b), Float64.div (Float64.add (mx3 r g b) (mn3 r g b)) 0x4000000000000000, Float64.div (rn3 r g b) (Float64.sub (Float64.sub 0x4000000000000000 (mx3 r g b)) (mn3 r g b)))
def vF (m1 m2 hue : UInt64) : UInt64 :=
  if ltF (Float64.divmod hue 0x3ff0000000000000).2 4595172819793696085 then Float64.add m1 (Float64.mul (Float64.mul (Float64.sub m2 m1) (Float64.divmod hue 0x3ff0000000000000).2) 0x4018000000000000)
  else if ltF (Float64.divmod hue 0x3ff0000000000000).2 0x3fe0000000000000 then m2
  else if ltF (Float64.divmod hue 0x3ff0000000000000).2 4604180019048437077 then Float64.add m1 (Float64.mul (Float64.mul (Float64.sub m2 m1) (Float64.sub 4604180019048437077 (Float64.divmod hue 0x3ff0000000000000).2)) 0x4018000000000000)
  else m1
def m2F (l s : UInt64) : UInt64 := if leF l 0x3fe0000000000000 then Float64.mul l (Float64.add 0x3ff0000000000000 s) else Float64.sub (Float64.add l s) (Float64.mul l s)
def m1F (l s : UInt64) : UInt64 := Float64.sub (Float64.mul 0x4000000000000000 l) (m2F l s)
def ofHls (h l s : UInt64) : UInt64 × UInt64 × UInt64 :=
  if eqF s 0 then (l, l, l) else (vF (m1F l s) (m2F l s) (Float64.add h 4599676419421066581), vF (m1F l s) (m2F l s) h, vF (m1F l s) (m2F l s) (Float64.sub h 4599676419421066581))
def h6 (h : UInt64) : UInt64 := Float64.mul h 0x4018000000000000
def fF (h : UInt64) : UInt64 := Float64.sub (h6 h) (Float64.ofInt (iF (h6 h)))
def pF (s v : UInt64) : UInt64 := Float64.mul v (Float64.sub 0x3ff0000000000000 s)
def qF (h s v : UInt64) : UInt64 := Float64.mul v (Float64.sub 0x3ff0000000000000 (Float64.mul s (fF h)))
def tF (h s v : UInt64) : UInt64 := Float64.mul v (Float64.sub 0x3ff0000000000000 (Float64.mul s (Float64.sub 0x3ff0000000000000 (fF h))))
def ofHsv (h s v : UInt64) : UInt64 × UInt64 × UInt64 :=
  if eqF s 0 then (v, v, v) else
  if (iF (h6 h)).fmod 6 = 0 then (v, tF h s v, pF s v) else
  if (iF (h6 h)).fmod 6 = 1 then (qF h s v, v, pF s v) else
  if (iF (h6 h)).fmod 6 = 2 then (pF s v, v, tF h s v) else
  if (iF (h6 h)).fmod 6 = 3 then (pF s v, qF h s v, v) else
  if (iF (h6 h)).fmod 6 = 4 then (tF h s v, pF s v, v) else (v, pF s v, qF h s v)
set_option maxHeartbeats 8000000 in
theorem hsv_call {w : World} {mean mg mb} {dp un : Nat} {gd : Option (List Code)} {cn : Str} {cs : Scope} {a : Addr} {ccd : Value} {cl : List (Str × Addr)} {outer : List Env} {A₀ : Around} {base h₀ : Heap} {L : Addr} {m : Str → Option Value} {news : List (Addr × Obj)} {s : Shared} {Q E : Value → Shared → Prop}
  {r g b : UInt64} {t1 t2 t3 : Tok}
  (B : Below A₀ base outer h₀) (F : Fr h₀ L s.heap m) (X : (hd.heap_39 w.params).In h₀) (N : News h₀ L s.heap news) (T : Top hd.view_39 (looseW hd.view_39 [Str.ofString "ONE_THIRD", Str.ofString "ONE_SIXTH", Str.ofString "TWO_THIRD"]) mean mg mb h₀) (hk : cs.kind = .function) (hdp : dp + 1 < recursionLimit) (hun : un + 8 < cLine)
  (hz : (Float64.cmp (mn2 (mn2 r g) b) (mx2 (mx2 r g) b) == some .eq) = false → Float64.isZero (Float64.sub (mx2 (mx2 r g) b) (mn2 (mn2 r g) b)) = false ∧ Float64.isZero (mx2 (mx2 r g) b) = false)
  (ret : ∀ x y1 y2 y3 u1 u2 u3 h' tk', (y1, y2, y3) = hsvT r g b → Fr h₀ L h' m → News h₀ L h' ((x, { cls := .type "tuple", data := .seq #[.float y1 u1, .float y2 u2, .float y3 u3] }) :: news) → (∀ p ∈ news, p.1 < x) → Q (.ref x) { s with heap := h', toks := tk' }) :
  wpAny (model PySem.Challenge.rw_mr0141_01.row.prog w) (ktrTop dp un gd cn cs L a ccd cl outer) (call (.ref 49) [.float r t1, .float g t2, .float b t3]) Q E s := by
  k_with_none
  revert X; k_fill; intro X
  refine wpAny_call ?_
  k_dflt cell_enter
  repeat' (first | (k_unfold; (try dsimp only)) | (k_end; wrow_close) | (with_reducible (first | (k_here; (with_reducible show wpAny _ _ (call _ [Value.float _ _, Value.float _ _, Value.float _ _]) _ _ _); k_dflt (refine max3_f (by rfl) (by k_asm) (by k_asm) ?_; intro _ _ _ _ _)) | (k_here; (with_reducible show wpAny _ _ (call _ [Value.float _ _, Value.float _ _, Value.float _ _]) _ _ _); k_dflt (refine min3_f (by rfl) (by k_asm) (by k_asm) ?_; intro _ _ _ _ _)))) | walk1 | (dsimp only; walk1) | (leave1; (try dsimp only)) | fail "no step")
  all_goals refine ret _ _ _ _ _ _ _ _ _ ?_ (by k_asm) (by k_asm) (by assumption)
  all_goals (unfold hsvT hueF eqF rn3 mx3 mn3; repeat' (first | rfl | contradiction | (exact absurd ‹(_ : Bool) = true› (ne_true_of_eq_false (by assumption))) | split))
set_option maxHeartbeats 8000000 in
theorem hls_call {w : World} {mean mg mb} {dp un : Nat} {gd : Option (List Code)} {cn : Str} {cs : Scope} {a : Addr} {ccd : Value} {cl : List (Str × Addr)} {outer : List Env} {A₀ : Around} {base h₀ : Heap} {L : Addr} {m : Str → Option Value} {news : List (Addr × Obj)} {s : Shared} {Q E : Value → Shared → Prop}
  {r g b : UInt64} {t1 t2 t3 : Tok}
  (B : Below A₀ base outer h₀) (F : Fr h₀ L s.heap m) (X : (hd.heap_39 w.params).In h₀) (N : News h₀ L s.heap news) (T : Top hd.view_39 (looseW hd.view_39 [Str.ofString "ONE_THIRD", Str.ofString "ONE_SIXTH", Str.ofString "TWO_THIRD"]) mean mg mb h₀) (hk : cs.kind = .function) (hdp : dp + 1 < recursionLimit) (hun : un + 8 < cLine)
  (hz : (Float64.cmp (mn2 (mn2 r g) b) (mx2 (mx2 r g) b) == some .eq) = false → Float64.isZero (Float64.sub (mx2 (mx2 r g) b) (mn2 (mn2 r g) b)) = false ∧ Float64.isZero (Float64.add (mx2 (mx2 r g) b) (mn2 (mn2 r g) b)) = false ∧ Float64.isZero (Float64.sub (Float64.sub 4611686018427387904 (mx2 (mx2 r g) b)) (mn2 (mn2 r g) b)) = false)
  (ret : ∀ x y1 y2 y3 u1 u2 u3 h' tk', (y1, y2, y3) = hlsT r g b → Fr h₀ L h' m → News h₀ L h' ((x, { cls := .type "tuple", data := .seq #[.float y1 u1, .float y2 u2, .float y3 u3] }) :: news) → (∀ p ∈ news, p.1 < x) → Q (.ref x) { s with heap := h', toks := tk' }) :
  wpAny (model PySem.Challenge.rw_mr0141_01.row.prog w) (ktrTop dp un gd cn cs L a ccd cl outer) (call (.ref 28) [.float r t1, .float g t2, .float b t3]) Q E s := by
  k_with_none
  revert X; k_fill; intro X
  refine wpAny_call ?_
  k_dflt cell_enter
  repeat' (first | (k_unfold; (try dsimp only)) | (k_end; wrow_close) | (with_reducible (first | (k_here; (with_reducible show wpAny _ _ (call _ [Value.float _ _, Value.float _ _, Value.float _ _]) _ _ _); k_dflt (refine max3_f (by rfl) (by k_asm) (by k_asm) ?_; intro _ _ _ _ _)) | (k_here; (with_reducible show wpAny _ _ (call _ [Value.float _ _, Value.float _ _, Value.float _ _]) _ _ _); k_dflt (refine min3_f (by rfl) (by k_asm) (by k_asm) ?_; intro _ _ _ _ _)))) | walk1 | (dsimp only; walk1) | (leave1; (try dsimp only)) | fail "no step")
  all_goals refine ret _ _ _ _ _ _ _ _ _ ?_ (by k_asm) (by k_asm) (by assumption)
  all_goals (unfold hlsT hueF eqF leF rn3 mx3 mn3; repeat' (first | rfl | contradiction | (exact absurd ‹(_ : Bool) = true› (ne_true_of_eq_false (by assumption))) | split))
set_option maxHeartbeats 8000000 in
theorem v_call {w : World} {mean mg mb} {dp un : Nat} {gd : Option (List Code)} {cn : Str} {cs : Scope} {a : Addr} {ccd : Value} {cl : List (Str × Addr)} {outer : List Env} {A₀ : Around} {base h₀ : Heap} {L : Addr} {m : Str → Option Value} {news : List (Addr × Obj)} {s : Shared} {Q E : Value → Shared → Prop}
  {m1 m2 hue : UInt64} {t1 t2 t3 : Tok}
  (B : Below A₀ base outer h₀) (F : Fr h₀ L s.heap m) (X : (hd.heap_39 w.params).In h₀) (N : News h₀ L s.heap news) (T : Top hd.view_39 (looseW hd.view_39 [Str.ofString "ONE_THIRD", Str.ofString "ONE_SIXTH", Str.ofString "TWO_THIRD"]) mean mg mb h₀) (hk : cs.kind = .function) (hdp : dp + 1 < recursionLimit) (hun : un + 8 < cLine)
  
  (ret : ∀ y u h' tk', y = vF m1 m2 hue → Fr h₀ L h' m → News h₀ L h' news → Q (.float y u) { s with heap := h', toks := tk' }) :
  wpAny (model PySem.Challenge.rw_mr0141_01.row.prog w) (ktrTop dp un gd cn cs L a ccd cl outer) (call (.ref 42) [.float m1 t1, .float m2 t2, .float hue t3]) Q E s := by
  k_with_none
  revert X; k_fill; intro X
  refine wpAny_call ?_
  k_dflt cell_enter
  repeat' (first | (k_unfold; (try dsimp only)) | (k_end; wrow_close) | (with_reducible (first | (k_here; (with_reducible show wpAny _ _ (call _ [Value.float _ _, Value.float _ _, Value.float _ _]) _ _ _); k_dflt (refine max3_f (by rfl) (by k_asm) (by k_asm) ?_; intro _ _ _ _ _)) | (k_here; (with_reducible show wpAny _ _ (call _ [Value.float _ _, Value.float _ _, Value.float _ _]) _ _ _); k_dflt (refine min3_f (by rfl) (by k_asm) (by k_asm) ?_; intro _ _ _ _ _)))) | walk1 | (dsimp only; walk1) | (leave1; (try dsimp only)) | fail "no step")
  all_goals refine ret _ _ _ _ ?_ (by k_asm) (by k_asm)
  all_goals (unfold vF ltF; repeat' (first | rfl | contradiction | (exact absurd ‹(_ : Bool) = true› (ne_true_of_eq_false (by assumption))) | split))
end
end Mine
end
section
open PySem PySem.W PyProof.Rows
namespace Mine
section
local macro_rules | `(tactic| walk_at "call type:int") => `(tactic| ((with_reducible show wpAny _ _ (call _ [Value.float _ _]) _ _ _); refine' int_f ?k1 ?k2 ?_; (case k1 => with_unfolding_all rfl); (case k2 => assumption)))
local macro_rules | `(tactic| walk_at "mine a third line, so that the walk reads its lines anew") => `(tactic| skip)
local macro_rules | `(tactic| walk_at "binaryOp Sub float int") => `(tactic| (refine' sub_f_i ?k1 ?_; (case k1 => assumption)))
theorem fmod_six (x : Int) : 0 ≤ x.fmod 6 ∧ x.fmod 6 < 6 := by rw [Int.fmod_eq_emod_of_nonneg x (by decide)]; omega
set_option maxHeartbeats 8000000 in
theorem ofhls_call {w : World} {mean mg mb} {dp un : Nat} {gd : Option (List Code)} {cn : Str} {cs : Scope} {a : Addr} {ccd : Value} {cl : List (Str × Addr)} {outer : List Env} {A₀ : Around} {base h₀ : Heap} {L : Addr} {m : Str → Option Value} {news : List (Addr × Obj)} {s : Shared} {Q E : Value → Shared → Prop}
  {h l s1 : UInt64} {t1 t2 t3 : Tok}
  (B : Below A₀ base outer h₀) (F : Fr h₀ L s.heap m) (X : (hd.heap_39 w.params).In h₀) (N : News h₀ L s.heap news) (T : Top hd.view_39 (looseW hd.view_39 [Str.ofString "ONE_THIRD", Str.ofString "ONE_SIXTH", Str.ofString "TWO_THIRD"]) mean mg mb h₀) (hk : cs.kind = .function) (hdp : dp + 2 < recursionLimit) (hun : un + 16 < cLine)
  
  (ret : ∀ x y1 y2 y3 u1 u2 u3 h' tk', (y1, y2, y3) = ofHls h l s1 → Fr h₀ L h' m → News h₀ L h' ((x, { cls := .type "tuple", data := .seq #[.float y1 u1, .float y2 u2, .float y3 u3] }) :: news) → (∀ p ∈ news, p.1 < x) → Q (.ref x) { s with heap := h', toks := tk' }) :
  wpAny (model PySem.Challenge.rw_mr0141_01.row.prog w) (ktrTop dp un gd cn cs L a ccd cl outer) (call (.ref 35) [.float h t1, .float l t2, .float s1 t3]) Q E s := by
  k_with_none
  revert X; k_fill; intro X
  refine wpAny_call ?_
  k_dflt cell_enter
  repeat' (first | (k_unfold; (try dsimp only)) | (k_end; wrow_close) | (with_reducible (first | (k_here; (with_reducible show wpAny _ _ (call (Value.ref 42) [Value.float _ _, Value.float _ _, Value.float _ _]) _ _ _); k_dflt (refine v_call (by k_asm) (by k_asm) (by k_asm) (by k_asm) (by k_asm) (by first | exact rfl | assumption) (by ktr_room) (by ktr_units) ?_; intro _ _ _ _ _ _ _; (try dsimp only); (try k_fold))))) | walk1 | (dsimp only; walk1) | (leave1; (try dsimp only)) | fail "no step")
  all_goals refine ret _ _ _ _ _ _ _ _ _ ?_ (by k_asm) (by k_asm) (by assumption)
  all_goals (try subst_vars)
  all_goals (unfold ofHls eqF m1F m2F leF; repeat' (first | rfl | contradiction | (exact absurd ‹(_ : Bool) = true› (ne_true_of_eq_false (by assumption))) | split))
set_option maxHeartbeats 8000000 in
theorem ofhsv_call {w : World} {mean mg mb} {dp un : Nat} {gd : Option (List Code)} {cn : Str} {cs : Scope} {a : Addr} {ccd : Value} {cl : List (Str × Addr)} {outer : List Env} {A₀ : Around} {base h₀ : Heap} {L : Addr} {m : Str → Option Value} {news : List (Addr × Obj)} {s : Shared} {Q E : Value → Shared → Prop}
  {h s1 v : UInt64} {t1 t2 t3 : Tok}
  (B : Below A₀ base outer h₀) (F : Fr h₀ L s.heap m) (X : (hd.heap_39 w.params).In h₀) (N : News h₀ L s.heap news) (T : Top hd.view_39 (looseW hd.view_39 [Str.ofString "ONE_THIRD", Str.ofString "ONE_SIXTH", Str.ofString "TWO_THIRD"]) mean mg mb h₀) (hk : cs.kind = .function) (hdp : dp + 1 < recursionLimit) (hun : un + 8 < cLine)
  (hf : Float64.isFinite (Float64.mul h 4618441417868443648) = true) (hi : (iF (Float64.mul h 4618441417868443648)).natAbs < 2 ^ 62)
  (ret : ∀ x y1 y2 y3 u1 u2 u3 h' tk', (y1, y2, y3) = ofHsv h s1 v → Fr h₀ L h' m → News h₀ L h' ((x, { cls := .type "tuple", data := .seq #[.float y1 u1, .float y2 u2, .float y3 u3] }) :: news) → (∀ p ∈ news, p.1 < x) → Q (.ref x) { s with heap := h', toks := tk' }) :
  wpAny (model PySem.Challenge.rw_mr0141_01.row.prog w) (ktrTop dp un gd cn cs L a ccd cl outer) (call (.ref 56) [.float h t1, .float s1 t2, .float v t3]) Q E s := by
  k_with_none
  revert X; k_fill; intro X
  refine wpAny_call ?_
  k_dflt cell_enter
  repeat' (first | (k_unfold; (try dsimp only)) | (k_end; wrow_close) | (with_reducible (first | (k_here; (with_reducible show wpAny _ _ (call (Value.ref 42) [Value.float _ _, Value.float _ _, Value.float _ _]) _ _ _); k_dflt (refine v_call (by k_asm) (by k_asm) (by k_asm) (by k_asm) (by k_asm) (by first | exact rfl | assumption) (by ktr_room) (by ktr_units) ?_; intro _ _ _ _ _ _ _; (try dsimp only); (try k_fold))))) | walk1 | (dsimp only; walk1) | (leave1; (try dsimp only)) | fail "no step")
  all_goals (try (exfalso; have hm := fmod_six (iF (Float64.mul h 4618441417868443648)); omega))
  all_goals refine ret _ _ _ _ _ _ _ _ _ ?_ (by k_asm) (by k_asm) (by assumption)
  all_goals (unfold ofHsv eqF qF pF tF fF h6; repeat' (first | rfl | contradiction | (exact absurd ‹(_ : Bool) = true› (ne_true_of_eq_false (by assumption))) | split))
end
end Mine
end
section
open PySem PySem.W PyProof.Rows PySem.Calls
namespace Mine
section
variable {prog : Program} {w : World} {A : Around} {E : Value → Shared → Prop} {s : Shared} {h₀ : Heap} {L : Addr} {m : Str → Option Value} {env : Env}

abbrev dictO : Obj := { cls := .type "dict", data := .dict #[] }
abbrev itO (n i : Nat) : Obj := { cls := .type "range_iterator", data := .fields #[rawInt ((0 : Int) + (i : Nat) * 1), rawInt ((n : Int) - (i : Nat)), rawInt 1] }
abbrev cellO (v : Option Value) : Obj := { cls := .type "cell", data := .cell v }

def RangeHere (s : Shared) (h₀ : Heap) (L : Addr) (m : Str → Option Value) (n : Nat) (J0 : List (Addr × Obj) → Prop) (xv : Value) (s₁ : Shared) : Prop :=
  ∃ h tk r t u v news, xv = .ref r ∧ s₁ = { s with heap := h, toks := tk } ∧ IsRange h r 0 (n : Int) 1 t u v ∧ Fr h₀ L h m ∧ News h₀ L h news ∧ J0 news
def CellEnd (s : Shared) (h₀ : Heap) (L : Addr) (m : Str → Option Value) (I : Addr) (oI : Obj) (C c : Addr) (oc : Obj) (D : Addr) (ys : List Value) (J1 : Value → List (Addr × Obj) → Prop) (yv : Value) (s₂ : Shared) : Prop :=
  ∃ h' tk' nw', s₂ = { s with heap := h', toks := tk' } ∧ Fr h₀ L h' m ∧ News h₀ L h' ((I, oI) :: (C, dictO) :: (c, oc) :: (D, LCg.lst ys) :: nw') ∧ (∀ p ∈ nw', p.1 ≠ I ∧ p.1 ≠ C ∧ p.1 ≠ c ∧ p.1 ≠ D) ∧ J1 yv nw'
theorem env_cell {M : Model} {x y z : Str} {scope : Scope} {globals : Addr} {cl : List (Str × Addr)} {qual : Str} {Q : Env → Shared → Prop} (hsc : scope.names = [(z, .local), (x, .cell), (y, .free)])
    (h : Q (newEnv scope s.heap.objs.size globals ((x, s.heap.objs.size + 1) :: cl) qual none .none (some env) builtinsNs) { s with heap := (s.heap.push dictO).push (cellO none) }) :
    wpAny M A (newFunctionEnv scope globals cl [] qual none .none (some env)) Q E s := by
  simp only [newFunctionEnv, hsc, Option.isSome_some, if_true]
  refine wpAny_bind (wpAny_alloc ?_)
  simp only [List.forIn_cons, List.forIn_nil, show ((NameKind.local == NameKind.cell) = false) from rfl, show ((NameKind.cell == NameKind.cell) = true) from rfl, show ((NameKind.free == NameKind.cell) = false) from rfl, Bool.false_eq_true, if_false, if_true]
  refine wpAny_bind (wpAny_bind (wpAny_pure (wpAny_bind (wpAny_bind (wpAny_alloc (wpAny_pure (wpAny_bind (wpAny_pure (wpAny_pure ?_)))))))))
  refine wpAny_bind (wpAny_pure (wpAny_pure ?_))
  have e : ({ s with heap := s.heap.push dictO } : Shared).heap.objs.size = s.heap.objs.size + 1 := Heap.size_push ..
  have e' : (s.heap.push dictO).objs.size = s.heap.objs.size + 1 := Heap.size_push ..
  simpa only [newEnv, e'] using h

theorem get_ne {h h' : Heap} {a : Addr} {news : List (Addr × Obj)} (N : News h₀ L h news) (hs : Heap.SameBut a h h') (off : ∀ p ∈ news, p.1 ≠ a) : News h₀ L h' news :=
  fun p hp => ⟨(hs.2 _ (off p hp)).trans (N p hp).1, (N p hp).2⟩

theorem ListComp_cell {elt iter : Expr} {x y z : Str} {px : Pos} {scope : Scope} {cl : List (Str × Addr)} {pos : Pos} {Q : Value → Shared → Prop} {n : Nat}
    (J : Nat → List Value → List (Addr × Obj) → Prop)
    (_F₀ : Fr h₀ L s.heap m) (hh : A.handled = none) (hsc : scope.names = [(z, .local), (x, .cell), (y, .free)]) (hclos : closureFor scope env = pure cl) (hkind : scope.kind = .function) (hn : n ≤ 1000)
    (hxz : (x == z) = false)
    (hiter : wpAny (model prog w) A (eval iter env) (RangeHere s h₀ L m n (J 0 [])) E s)
    (turn : ∀ i ys nw I oI C c oc D h tk E' t, i < n → ys.length = i → J i ys nw → oc.data = .cell (some (.int (i : Int) t)) → Fr h₀ L h m → News h₀ L h ((I, oI) :: (C, dictO) :: (c, oc) :: (D, LCg.lst ys) :: nw) →
      (∀ p ∈ nw, p.1 ≠ I ∧ p.1 ≠ C ∧ p.1 ≠ c ∧ p.1 ≠ D) →
      wpAny (model prog w) A (eval elt (compEnvC scope ((x, c) :: cl) C env)) (CellEnd s h₀ L m I oI C c oc D ys (fun yv nw' => J (i + 1) (ys ++ [yv]) nw')) E' { s with heap := h, toks := tk })
    (fin : ∀ D h tk ys nw, ys.length = n → J n ys nw → Fr h₀ L h m → News h₀ L h ((D, LCg.lst ys) :: nw) → (∀ p ∈ nw, p.1 ≠ D) → Q (.ref D) { s with heap := h, toks := tk })
    (hs : ∀ x, foldedSetIterable iter env x = pure x := by intro _; rfl) :
    wpAny (model prog w) A (eval (.ListComp elt [⟨.Name x px, iter, [], 0⟩] scope pos) env) Q E s := by
  rw [eval_ListComp]
  refine wpAny_comprehension_free (use := none) rfl hs hclos hkind (by rw [hsc]; intro q hq hl; simp only [List.mem_cons, List.not_mem_nil, or_false] at hq; rcases hq with rfl | rfl | rfl <;> simp_all) (wpAny_mono hiter (fun xv s₁ h₁ => ?_) fun _ _ e => e)
  obtain ⟨h1, tk1, r, t, u, v, news, rfl, rfl, hr, F, N, hJ0⟩ := h₁
  have hsm : Builtin.Range.small 0 (n : Int) 1 = true := small_one (by omega) (by omega) (by omega) (by omega)
  have hsize : Builtin.Range.rangeSize 0 (n : Int) 1 = ((n : Nat) : Int) := by rw [rangeSize_nat]; simp
  refine wpAny_pyIter_range hr hsm ?_
  dsimp only
  rw [hsize]
  refine wpAny_newObj_type (env_cell hsc ?_)
  dsimp only
  have hLlt := ltN F.ns.lt
  have s1 : (h1.push { cls := .type "range_iterator", data := .fields #[rawInt 0, rawInt (n : Int), rawInt 1] }).objs.size = h1.objs.size + 1 := Heap.size_push ..
  generalize hHI : h1.push { cls := .type "range_iterator", data := .fields #[rawInt 0, rawInt (n : Int), rawInt 1] } = HI at *
  have s2 : (HI.push { cls := .type "list", data := .seq ([] : List Value).toArray }).objs.size = h1.objs.size + 2 := by rw [Heap.size_push, s1]
  generalize hHD : HI.push { cls := .type "list", data := .seq ([] : List Value).toArray } = HD at *
  have s3 : (HD.push dictO).objs.size = h1.objs.size + 3 := by rw [Heap.size_push, s2]
  generalize hHC : HD.push dictO = HC at *
  generalize hH : HC.push (cellO none) = H at *
  have getI : H.get? h1.objs.size = some { cls := .type "range_iterator", data := .fields #[rawInt 0, rawInt (n : Int), rawInt 1] } := by
    rw [← hH, ← hHC, ← hHD, ← hHI]; exact Heap.get?_push_of_some _ (Heap.get?_push_of_some _ (Heap.get?_push_of_some _ (Heap.get?_push_size _ rfl)))
  have getD : H.get? (h1.objs.size + 1) = some (LCg.lst []) := by
    rw [← s1, ← hH, ← hHC, ← hHD]; exact Heap.get?_push_of_some _ (Heap.get?_push_of_some _ (Heap.get?_push_size _ rfl))
  have getC : H.get? (h1.objs.size + 2) = some dictO := by
    rw [← s2, ← hH, ← hHC]; exact Heap.get?_push_of_some _ (Heap.get?_push_size _ rfl)
  have getc : H.get? (h1.objs.size + 3) = some (cellO none) := by
    rw [← s3, ← hH]; exact Heap.get?_push_size _ rfl
  have old : ∀ b o, h1.get? b = some o → H.get? b = some o := fun b o e => by
    rw [← hH, ← hHC, ← hHD, ← hHI]; exact Heap.get?_push_of_some _ (Heap.get?_push_of_some _ (Heap.get?_push_of_some _ (Heap.get?_push_of_some _ e)))
  have fresh₀ : ∀ a, h1.objs.size ≤ a → h₀.get? a = none := fun a ha => Heap.get?_none_of_le (Nat.le_trans (Nat.le_trans F.above (Nat.le_of_lt hLlt)) ha)
  have loop : ∀ tk, codeAny (model prog w) A (.compLoop (.ListComp elt [⟨.Name x px, iter, [], 0⟩] scope pos) 0 (.ref h1.objs.size) (.ref (h1.objs.size + 1)) (compEnvC scope ((x, h1.objs.size + 3) :: cl) (h1.objs.size + 2) env))
      (compPost (model prog w) A E none Q (.ref (h1.objs.size + 1)) (h1.objs.size + 2)) { s with heap := H, toks := tk } := by
    intro tk
    refine codeAny_compLoop_tests
      (fun k s' => ∃ h' tk i ys nw oc v0, s' = { s with heap := h', toks := tk } ∧ i ≤ n ∧ k = n + 1 - i ∧ ys.length = i ∧ IsRangeIter h' h1.objs.size ((0 : Int) + (i : Nat) * 1) ((n : Int) - (i : Nat)) 1 ∧ Fr h₀ L h' m ∧
        News h₀ L h' ((h1.objs.size + 2, dictO) :: (h1.objs.size + 3, oc) :: (h1.objs.size + 1, LCg.lst ys) :: nw) ∧ oc.data = .cell v0 ∧
        (∀ p ∈ nw, p.1 ≠ h1.objs.size ∧ p.1 ≠ h1.objs.size + 2 ∧ p.1 ≠ h1.objs.size + 3 ∧ p.1 ≠ h1.objs.size + 1) ∧ J i ys nw) ?_ (n + 1)
      ⟨H, tk, 0, [], news, cellO none, none, rfl, Nat.zero_le _, rfl, rfl, by simpa using getI, F.keeps old, ?_, rfl, ?_, hJ0⟩
    · rintro k s' ⟨h', tk, i, ys, nw, oc, v0, rfl, hi, rfl, hyl, hst, F', N', hoc, off, hJ⟩
      by_cases hlt : i < n
      · refine (LCg.range_walks (prog := prog) (w := w) hh 0 n).item i _ _ _ hlt hst fun v h₂ tk₂ hPv hst₂ hk₂ => ?_
        obtain ⟨t', rfl⟩ := hPv
        rw [Int.zero_add]
        have hk₂' : ∀ b o, b ≠ h1.objs.size → h'.get? b = some o → h₂.get? b = some o := fun b o hb e => hk₂ b o (by simpa using hb) e
        have F₂ : Fr h₀ L h₂ m := LCg.fr_but F' hk₂ (neN (by omega)) (fresh₀ _ (Nat.le_refl _))
        have N₂ : News h₀ L h₂ ((h1.objs.size + 2, dictO) :: (h1.objs.size + 3, oc) :: (h1.objs.size + 1, LCg.lst ys) :: nw) := LCg.news_but N' hk₂ (by
          intro p hp
          simp only [List.mem_cons] at hp
          rcases hp with rfl | rfl | rfl | hp
          · exact (by simp : h1.objs.size + 2 ≠ h1.objs.size)
          · exact (by simp : h1.objs.size + 3 ≠ h1.objs.size)
          · exact (by simp : h1.objs.size + 1 ≠ h1.objs.size)
          · exact (off p hp).1)
        refine wpAny_assign_Name (wpAny_storeName_cell (c := h1.objs.size + 3) (v₀ := v0) (by simp [compEnvC, relabel, hkind]) (by simp [compEnvC, relabel, Env.kindOf, hsc, hxz, List.lookup_cons]) (by simp [compEnvC, List.lookup_cons]) ⟨oc, (N₂ (h1.objs.size + 3, oc) (by simp)).1, hoc⟩ (fun h₃ hc₃ hs₃ => ?_))
        refine wpAny_tests_nil ?_
        simp only [if_true]
        obtain ⟨oc', hgc', hoc'⟩ := hc₃
        have F₃ : Fr h₀ L h₃ m := F₂.change hs₃ (neN (by omega)) (fresh₀ _ (by omega))
        have hstI : h₃.get? h1.objs.size = some (itO n (i + 1)) := (hs₃.2 _ (by simp)).trans hst₂
        have N₃ : News h₀ L h₃ ((h1.objs.size, itO n (i + 1)) :: (h1.objs.size + 2, dictO) :: (h1.objs.size + 3, oc') :: (h1.objs.size + 1, LCg.lst ys) :: nw) := by
          intro p hp
          simp only [List.mem_cons] at hp
          rcases hp with rfl | rfl | rfl | rfl | hp
          · exact ⟨hstI, neN (by simp only; omega), fresh₀ _ (Nat.le_refl _)⟩
          · exact ⟨(hs₃.2 _ (by simp)).trans (N₂ (h1.objs.size + 2, dictO) (by simp)).1, (N₂ (h1.objs.size + 2, dictO) (by simp)).2⟩
          · exact ⟨hgc', (N₂ (h1.objs.size + 3, oc) (by simp)).2⟩
          · exact ⟨(hs₃.2 _ (by simp)).trans (N₂ (h1.objs.size + 1, LCg.lst ys) (by simp)).1, (N₂ (h1.objs.size + 1, LCg.lst ys) (by simp)).2⟩
          · exact ⟨(hs₃.2 _ (off p hp).2.2.1).trans (N₂ p (by simp [hp])).1, (N₂ p (by simp [hp])).2⟩
        refine wpAny_mono (turn i ys nw h1.objs.size (itO n (i + 1)) (h1.objs.size + 2) (h1.objs.size + 3) oc' (h1.objs.size + 1) h₃ tk₂ _ t' hlt hyl hJ hoc' F₃ N₃ off) (fun yv s₄ h₄ => ?_) fun _ _ e => e
        obtain ⟨h₄, tk₄, nw₄, rfl, F₄, N₄, off₄, hJ₄⟩ := h₄
        refine append_at (its := ys.toArray) (n := ys.length) (hsz := by rw [List.size_toArray, hyl, sizeLine_eq]; omega) (N₄ (h1.objs.size + 1, LCg.lst ys) (by simp)).1 fun h₅ hs₅ hD₅ => ?_
        refine ⟨n + 1 - (i + 1), by omega, h₅, tk₄, i + 1, ys ++ [yv], nw₄, oc', _, rfl, hlt, rfl, by rw [List.length_append, List.length_singleton, hyl], ?_, F₄.change hs₅ (neN (by omega)) (fresh₀ _ (by omega)), ?_, hoc', off₄, hJ₄⟩
        · exact (hs₅.2 _ (by simp)).trans (N₄ (h1.objs.size, itO n (i + 1)) (by simp)).1
        · intro p hp
          simp only [List.mem_cons] at hp
          rcases hp with rfl | rfl | rfl | hp
          · exact ⟨(hs₅.2 _ (by simp)).trans (N₄ (h1.objs.size + 2, dictO) (by simp)).1, (N₄ (h1.objs.size + 2, dictO) (by simp)).2⟩
          · exact ⟨(hs₅.2 _ (by simp)).trans (N₄ (h1.objs.size + 3, oc') (by simp)).1, (N₄ (h1.objs.size + 3, oc') (by simp)).2⟩
          · exact ⟨hD₅.trans (congrArg some (LCg.lst_snoc ys yv)), (N₄ (h1.objs.size + 1, LCg.lst ys) (by simp)).2⟩
          · exact ⟨(hs₅.2 _ (off₄ p hp).2.2.2).trans (N₄ p (by simp [hp])).1, (N₄ p (by simp [hp])).2⟩
      · obtain rfl : i = n := Nat.le_antisymm hi (Nat.not_lt.mp hlt)
        refine (LCg.range_walks (prog := prog) (w := w) hh 0 i).done _ _ _ hst fun h₂ tk₂ hk₂ => ?_
        have F₂ : Fr h₀ L h₂ m := LCg.fr_but F' hk₂ (neN (by omega)) (fresh₀ _ (Nat.le_refl _))
        have N₂ : News h₀ L h₂ ((h1.objs.size + 2, dictO) :: (h1.objs.size + 3, oc) :: (h1.objs.size + 1, LCg.lst ys) :: nw) := LCg.news_but N' hk₂ (by
          intro p hp
          simp only [List.mem_cons] at hp
          rcases hp with rfl | rfl | rfl | hp
          · exact (by simp : h1.objs.size + 2 ≠ h1.objs.size)
          · exact (by simp : h1.objs.size + 3 ≠ h1.objs.size)
          · exact (by simp : h1.objs.size + 1 ≠ h1.objs.size)
          · exact (off p hp).1)
        refine ⟨fun _ => none, ⟨dictO, #[], 0, (N₂ (h1.objs.size + 2, dictO) (by simp)).1, rfl, fun _ he => by simp at he, fun _ => rfl⟩, fun h₃ hs₃ => ?_⟩
        refine fin _ h₃ tk₂ ys nw hyl hJ (F₂.change hs₃ (neN (by omega)) (fresh₀ _ (by omega))) ?_ (fun p hp => (off p hp).2.2.2)
        intro p hp
        simp only [List.mem_cons] at hp
        rcases hp with rfl | hp
        · exact ⟨(hs₃.2 _ (by simp)).trans (N₂ (h1.objs.size + 1, LCg.lst ys) (by simp)).1, (N₂ (h1.objs.size + 1, LCg.lst ys) (by simp)).2⟩
        · exact ⟨(hs₃.2 _ (off p hp).2.1).trans (N₂ p (by simp [hp])).1, (N₂ p (by simp [hp])).2⟩
    · intro p hp
      simp only [List.mem_cons] at hp
      rcases hp with rfl | rfl | rfl | hp
      · exact ⟨getC, neN (by simp only; omega), fresh₀ _ (by simp)⟩
      · exact ⟨getc, neN (by simp only; omega), fresh₀ _ (by simp)⟩
      · exact ⟨getD, neN (by simp only; omega), fresh₀ _ (by simp)⟩
      · exact ⟨old _ _ (N p hp).1, (N p hp).2⟩
    · intro p hp
      have this := ltN (Heap.lt_size (N p hp).1)
      exact ⟨neN (by omega), neN (by omega), neN (by omega), neN (by omega)⟩
  have e0 : ({ newEnv scope HD.objs.size env.globals ((x, HD.objs.size + 1) :: cl) env.qual none .none (some env) builtinsNs with scope := relabel scope env } : Env) = compEnvC scope ((x, h1.objs.size + 3) :: cl) (h1.objs.size + 2) env := by
    simp only [newEnv, compEnvC, s2]
  simp only [newEnv] at e0 ⊢
  rw [e0, s1, s2]
  exact codeAny_compStart_list (loop _) ((LCg.range_walks (prog := prog) (w := w) hh 0 n).self 0 _ _ _ (by simpa using getI) (loop _))
end
end Mine
end
section
open PySem PySem.W PyProof.Rows PySem.Calls
namespace Mine
abbrev Col := Int × Int × Int
def ColAt (news : List (Addr × Obj)) (v : Value) (c : Col) : Prop := ∃ a t1 t2 t3 k, v = .ref a ∧ (a, listOf #[.int c.1 t1, .int c.2.1 t2, .int c.2.2 t3] k) ∈ news
inductive Cols (news : List (Addr × Obj)) : List Value → List Col → Prop
  | nil : Cols news [] []
  | cons {v : Value} {c : Col} {vs : List Value} {cs : List Col} (h : ColAt news v c) (r : Cols news vs cs) : Cols news (v :: vs) (c :: cs)
theorem ColAt.mono {n1 n2 : List (Addr × Obj)} {v : Value} {c : Col} (h : ColAt n1 v c) (hs : ∀ p ∈ n1, p ∈ n2) : ColAt n2 v c :=
  let ⟨a, t1, t2, t3, k, e, hm⟩ := h; ⟨a, t1, t2, t3, k, e, hs _ hm⟩
theorem Cols.mono {n1 n2 : List (Addr × Obj)} (hs : ∀ p ∈ n1, p ∈ n2) : ∀ {vs : List Value} {cs : List Col}, Cols n1 vs cs → Cols n2 vs cs
  | _, _, .nil => .nil
  | _, _, .cons h r => .cons (h.mono hs) (Cols.mono hs r)
theorem Cols.length {news : List (Addr × Obj)} : ∀ {vs : List Value} {cs : List Col}, Cols news vs cs → vs.length = cs.length
  | _, _, .nil => rfl
  | _, _, .cons _ r => by simp [Cols.length r]
theorem Cols.at {news : List (Addr × Obj)} : ∀ {vs : List Value} {cs : List Col}, Cols news vs cs → ∀ (i : Nat) (v : Value), vs[i]? = some v → ∃ c, cs[i]? = some c ∧ ColAt news v c
  | _, _, .nil, i, v, h => by simp at h
  | _, _, .cons (c := c) h r, 0, v, e => by simp at e; subst e; exact ⟨c, rfl, h⟩
  | _, _, .cons h r, i + 1, v, e => by simpa using Cols.at r i v (by simpa using e)
theorem Cols.snoc {news : List (Addr × Obj)} {v : Value} {c : Col} (h : ColAt news v c) : ∀ {vs : List Value} {cs : List Col}, Cols news vs cs → Cols news (vs ++ [v]) (cs ++ [c])
  | _, _, .nil => .cons h .nil
  | _, _, .cons h' r => .cons h' (Cols.snoc h r)
section
variable {prog : Program} {w : World} {A : Around} {h₀ : Heap} {L : Addr} {m : Str → Option Value} {env : Env} {elt : Expr} {x : Str} {scope : Scope} {cl : List (Str × Addr)} {s : Shared} {S : List (Addr × Obj) → Prop} {P : Nat → Value → Prop} {Fin : List Value → List (Addr × Obj) → Prop} {news : List (Addr × Obj)}
theorem rest_ints {n : Nat} {gs : List Int} (hgs : gs.length = n)
    (turn : ∀ i v r I oI C oC D m₂ ys h tk (E' : Value → Shared → Prop), P i v → gs[i]? = some r → LCg.NsObj oC m₂ → m₂ x = some v → Fr h₀ L h m → News h₀ L h ((I, oI) :: (C, oC) :: (D, LCg.lst ys) :: news) → LCg.Off3 I C D news → ((@Ne Nat I C) ∧ (@Ne Nat I D) ∧ (@Ne Nat C D)) →
      wpAny (model prog w) A (eval elt (compEnvC scope cl C env)) (LCg.CompEnd h₀ L m { s with heap := h, toks := tk } I oI C oC D (LCg.lst ys) S (fun y news' => KCfEl news r y news')) E' { s with heap := h, toks := tk })
    (fin : ∀ ys, IntsAre ys gs → Fin ys news) : LCg.CompRest prog w A h₀ L m env elt x scope cl s S P Fin n 0 [] news := by
  have key : ∀ (j i : Nat) (ys : List Value), i + j = n → IntsAre ys (gs.take i) → LCg.CompRest prog w A h₀ L m env elt x scope cl s S P Fin j i ys news := by
    intro j
    induction j with
    | zero =>
      intro i ys hi hy
      have e : i = gs.length := by omega
      subst e
      rw [List.take_length] at hy
      exact LCg.CompRest.zero (fin ys hy)
    | succ j ih =>
      intro i ys hi hy
      refine LCg.CompRest.succ ?_
      intro v I oI C oC D m₂ h tk E' hv hC hx F N off ne
      have hlt : i < gs.length := by omega
      have hr : gs[i]? = some gs[i] := by simp [hlt]
      refine wpAny_mono (turn i v gs[i] I oI C oC D m₂ ys h tk E' hv hr hC hx F N off ne) (fun y s₂ hq => ?_) fun _ _ e => e
      obtain ⟨h', tk', nw, e, F', N', off', hS, hn, t', hy'⟩ := hq
      rw [hn] at N' off' hS
      refine ⟨h', tk', news, e, F', N', off', hS, ?_⟩
      rw [hy']
      refine ih (i + 1) _ (by omega) ?_
      rw [show gs.take (i + 1) = gs.take i ++ [gs[i]] by rw [List.take_add_one, hr]; rfl]
      exact IntsAre.append hy (.cons gs[i] t' .nil)
  exact key n 0 [] (by omega) (by simp only [List.take_zero]; exact .nil)
end
theorem item_at {prog : Program} {w : World} {A : Around} {E : Value → Shared → Prop} {s : Shared} {h₀ : Heap} {L : Addr} {news : List (Addr × Obj)} {value slice : PySem.Expr} {l : Addr} {its : Array Value} {n : Nat} {k : Int} {u : Tok} {v : Value} {Q : Value → Shared → Prop}
    (N : News h₀ L s.heap news) (hm : (l, listOf its n) ∈ news) (h0 : 0 ≤ k) (hhi : k < 2 ^ 63) (hx : its[k.toNat]? = some v) (h : Q v s)
    (hs : subscripted slice false (.ref l) (.int k u) = operate [.ref l, .int k u] (getItem (.ref l) (.int k u)) := by with_unfolding_all rfl) :
    wpAny (model prog w) A (subscriptTail value slice (.ref l) (.int k u)) Q E s :=
  have hl : s.heap.IsList l its := ⟨_, (N _ hm).1, rfl, n, rfl⟩
  tail_any hl.typeIs slot_list_getitem.lookup (wpAny_getItem_list hl h0 hhi hx h) hs
def part (k : Nat) (c : Col) : Int := if k = 0 then c.1 else if k = 1 then c.2.1 else c.2.2
def plane (k : Nat) (cols : List Col) : List Int := cols.map fun c => 17 * part k c
end Mine
end
section
open PySem PySem.W PyProof.Rows
namespace Mine
section
def PlJ (base : List (Addr × Obj)) (cols : List Col) (i : Nat) (ys : List Value) (nw : List (Addr × Obj)) : Prop :=
  ∃ ls : List (Addr × List Value), ls.length = i ∧ ys = ls.map (fun q => .ref q.1) ∧ nw = (ls.map fun q => (q.1, LCg.lst q.2)).reverse ++ base ∧ ∀ (j : Nat) q, ls[j]? = some q → IntsAre q.2 (plane j cols)
set_option maxHeartbeats 8000000 in
theorem planes_call {w : World} {mean mg mb} {dp un : Nat} {gd : Option (List Code)} {cn : Str} {cs : Scope} {a : Addr} {ccd : Value} {cl : List (Str × Addr)} {outer : List Env} {A₀ : Around} {base h₀ : Heap} {L : Addr} {m : Str → Option Value} {news : List (Addr × Obj)} {s : Shared} {Q E : Value → Shared → Prop}
  {l : Addr} {vs : List Value} {k : Nat} {cols : List Col}
  (B : Below A₀ base outer h₀) (F : Fr h₀ L s.heap m) (X : (hd.heap_39 w.params).In h₀) (N : News h₀ L s.heap news) (T : Top hd.view_39 (looseW hd.view_39 [Str.ofString "ONE_THIRD", Str.ofString "ONE_SIXTH", Str.ofString "TWO_THIRD"]) mean mg mb h₀) (hk : cs.kind = .function) (hdp : dp + 1 < recursionLimit) (hun : un + 8 < cLine)
  (hm : (l, listOf vs.toArray k) ∈ news) (hc : Cols news vs cols) (hlen : cols.length < 100)
  (ret : ∀ x p0 p1 p2 ys0 ys1 ys2 h' tk', IntsAre ys0 (plane 0 cols) → IntsAre ys1 (plane 1 cols) → IntsAre ys2 (plane 2 cols) → Fr h₀ L h' m → News h₀ L h' ((x, LCg.lst [.ref p0, .ref p1, .ref p2]) :: (p2, LCg.lst ys2) :: (p1, LCg.lst ys1) :: (p0, LCg.lst ys0) :: news) → Q (.ref x) { s with heap := h', toks := tk' }) :
  wpAny (model PySem.Challenge.rw_mr0141_01.row.prog w) (ktrTop dp un gd cn cs L a ccd cl outer) (call (.ref 83) [.ref l]) Q E s := by
  k_with_none
  revert X; k_fill; intro X
  refine wpAny_call ?_
  k_dflt (refine' code_defC ?k1 ?k2 ?k3 ?k4 ?k5 ?kA ?kF ?kK ?k6 ?k7 ?k8 ?k9 ?kB ?kD ?_ ?c2 ?c3 ?c4; (case kA => exact rfl); (case kF => exact rfl); (case kK => assumption); (case k1 => k_asm); (case k2 => k_asm); (case k3 => k_asm); (case k4 => k_asm); (case k5 => k_asm); (case k6 => k_is); (case k7 => k_is); (case k8 => ktr_room); (case k9 => exact BindsTo.of_eq rfl); (case kB => exact rfl); (case kD => decide +kernel); (case c2 => exact rfl); (case c3 => exact rfl); (case c4 => exact rfl); k_whole; intro g' L' h' tk' cells' FG' F' N' Y' B' X' T' l1; (try k_lt l1); k_cells Y'; (try simp only [List.cons_append, List.nil_append] at N'); (try dsimp only); (try k_lift B'); (try k_fold))
  walk1
  walk1
  rename_i o1 d1
  have d1' : o1.data = .cell (some (.ref l)) := d1
  clear d1
  have hlen' := hc.length
  refine ListComp_cell (h₀ := g') (L := L') (n := 3) (y := Str.ofString "picture") (z := Str.ofString ".0") (cl := [(Str.ofString "picture", L' + 1)]) (PlJ ((L' + 1, o1) :: news) cols) F' ?hh ?hsc ?hclos ?hkind ?hn ?hxz ?hiter ?turn ?fin
  case hh => rfl
  case hsc => rfl
  case hclos => with_unfolding_all rfl
  case hkind => rfl
  case hn => decide
  case hxz => decide
  case hiter =>
    k_steps
    exact ⟨_, _, _, _, _, _, _, rfl, rfl, by assumption, by k_asm, by k_asm, [], rfl, rfl, rfl, fun j q h => by simp at h⟩
  case turn =>
    intro i ys nw I oI C c oc D h tk E9 t hi hyl hJ hoc F2 N2 off
    have hsub : ∀ p ∈ (L' + 1, o1) :: news, p ∈ nw := by
      obtain ⟨ls, _, _, rfl, _⟩ := hJ
      exact fun p hp => List.mem_append.mpr (.inr hp)
    have hp1 : (L' + 1, o1) ∈ nw := hsub _ (.head _)
    have hl1 : (l, listOf vs.toArray k) ∈ nw := hsub _ (.tail _ hm)
    have hc1 : Cols nw vs cols := hc.mono fun p hp => hsub p (.tail _ hp)
    refine LCg.ListComp_U (cl := [(Str.ofString "k", c)]) F2 ?ka ?kb ?kc ?kd ?ke ?kf ?kg
    case ka => with_unfolding_all rfl
    case kb => decide
    case kc => rfl
    case kd => decide
    case ke => rfl
    case kg => intro _; rfl
    case kf =>
      k_dflt (refine kcf_cell N2 (by rfl) (by kcf_m) d1' ?_)
      refine LCg.CompSrc.ledger (k := k) rfl F2 N2 (by kcf_m) (by rw [List.size_toArray, sizeLine_eq]; omega) fun gg => ?_
      refine rest_ints (gs := plane i cols) (by rw [List.size_toArray, plane, List.length_map, hlen']) ?_ ?_
      · intro i2 v r I2 oI2 C2 oC2 D2 m2 ys2 h2 tk2 E2 hv hr hC2 hx2 F3 N3 off3 ne3
        obtain ⟨col, hcol, a1, t1, t2, t3, k1, rfl, ha1⟩ := hc1.at i2 v (by simpa using hv)
        have hr' : r = 17 * part i col := by
          rw [plane, List.getElem?_map, hcol] at hr; simpa using hr.symm
        subst hr'
        clear hJ
        rcases (by omega : i = 0 ∨ i = 1 ∨ i = 2) with rfl | rfl | rfl
        · have hoc' : oc.data = .cell (some (.int 0 t)) := hoc
          k_steps
          refine item_at N3 (by kcf_m) (by decide) (by decide) rfl ?_
          refine mul_int ?_ (IntMulOk.of_left (by decide))
          exact ⟨_, _, _, rfl, F3, N3, off3, .inr ⟨_, by kcf_m, rfl, _, rfl⟩, rfl, _, rfl⟩
        · have hoc' : oc.data = .cell (some (.int 1 t)) := hoc
          k_steps
          refine item_at N3 (by kcf_m) (by decide) (by decide) rfl ?_
          refine mul_int ?_ (IntMulOk.of_left (by decide))
          exact ⟨_, _, _, rfl, F3, N3, off3, .inr ⟨_, by kcf_m, rfl, _, rfl⟩, rfl, _, rfl⟩
        · have hoc' : oc.data = .cell (some (.int 2 t)) := hoc
          k_steps
          refine item_at N3 (by kcf_m) (by decide) (by decide) rfl ?_
          refine mul_int ?_ (IntMulOk.of_left (by decide))
          exact ⟨_, _, _, rfl, F3, N3, off3, .inr ⟨_, by kcf_m, rfl, _, rfl⟩, rfl, _, rfl⟩
      · intro ys2 hints D2 h2 tk2 F4 N4 off4
        refine ⟨_, _, (D2, LCg.lst ys2) :: nw, rfl, F4, ?_, ?_, ?_⟩
        · intro p hp
          refine N4 p ?_
          simp only [List.mem_cons] at hp ⊢
          rcases hp with h | h | h | h | h | h
          · exact .inr (.inl h)
          · exact .inr (.inr (.inl h))
          · exact .inr (.inr (.inr (.inl h)))
          · exact .inr (.inr (.inr (.inr (.inl h))))
          · exact .inl h
          · exact .inr (.inr (.inr (.inr (.inr h))))
        · intro p hp
          rcases List.mem_cons.mp hp with rfl | hp
          · have o := off4
            simp only [LCg.Off1] at o
            exact ⟨Ne.symm o.1, Ne.symm o.2.1, Ne.symm o.2.2.1, Ne.symm o.2.2.2.1⟩
          · exact off p hp
        · obtain ⟨ls, e1, rfl, rfl, hq⟩ := hJ
          refine ⟨ls ++ [(D2, ys2)], by simp [e1], by simp, by simp, fun j q hj => ?_⟩
          by_cases hjl : j < ls.length
          · rw [List.getElem?_append_left hjl] at hj; exact hq j q hj
          · have : j = ls.length := by
              have h3 := (List.getElem?_eq_some_iff.mp hj).1
              simp at h3; omega
            subst this
            simp at hj
            subst hj
            rw [e1]; exact hints
  case fin =>
    intro D h tk ys nw hyl hJ F2 N2 off
    obtain ⟨ls, e1, rfl, rfl, hq⟩ := hJ
    match ls, e1 with
    | [(p0, y0), (p1, y1), (p2, y2)], _ =>
      k_steps
      refine ret D p0 p1 p2 y0 y1 y2 _ _ (hq 0 _ rfl) (hq 1 _ rfl) (hq 2 _ rfl) (by k_asm) (cb_drop (by k_asm) ?_)
      intro p hp
      simp only [List.map_cons, List.map_nil, List.reverse_cons, List.reverse_nil, List.nil_append, List.cons_append, List.mem_cons] at hp ⊢
      rcases hp with h | h | h | h | h <;> simp only [h, true_or, or_true]
end
end Mine
end
section
open PySem PySem.W PyProof.Rows PySem.Calls
namespace Mine
section
variable {prog : Program} {w : World} {A : Around} {E : Value → Shared → Prop} {s : Shared} {env : Env} {h₀ : Heap} {x : Str} {body : List Stmt} {Q : Flow → Shared → Prop}
def TurnNext (h₀ : Heap) (L : Addr) (I : Addr) (oI : Obj) (J : (Str → Option Value) → List (Addr × Obj) → Prop) (s : Shared) (s₂ : Shared) : Prop :=
  ∃ h' tk' m' nx, s₂ = { s with heap := h', toks := tk' } ∧ Fr h₀ L h' m' ∧ News h₀ L h' ((I, oI) :: nx) ∧ (∀ p ∈ nx, p.1 ≠ I) ∧ J m' nx
def TurnEnd (h₀ : Heap) (L : Addr) (I : Addr) (oI : Obj) (J : (Str → Option Value) → List (Addr × Obj) → Prop) (s : Shared) (Q : Flow → Shared → Prop) (f : Flow) (s₂ : Shared) : Prop :=
  match f with
  | .ret v => Q (.ret v) s₂
  | .brk => Q .next s₂
  | _ => TurnNext h₀ L I oI J s s₂
theorem iterJ {l : Addr} {vs : List Value} {nn : Nat} {m₀ : Str → Option Value} {news : List (Addr × Obj)} (J : Nat → (Str → Option Value) → List (Addr × Obj) → Prop)
    (hh : A.handled = none) (hl : (l, listOf vs.toArray nn) ∈ news) (F : Fr h₀ env.locals s.heap m₀) (N : News h₀ env.locals s.heap news) (hj : J 0 m₀ news)
    (hJl : ∀ i m nx, J i m nx → (l, listOf vs.toArray nn) ∈ nx)
    (turn : ∀ i v m₁ news₁ h tk I oI, oI.cls = .type "list_iterator" → vs[i]? = some v → J i m₁ news₁ → (∀ p ∈ news₁, p.1 ≠ I) → Fr h₀ env.locals h (fun y => if y = x then some v else m₁ y) → News h₀ env.locals h ((I, oI) :: news₁) →
      wpAny (model prog w) A (execs body env) (TurnEnd h₀ env.locals I oI (J (i + 1)) s Q) E { s with heap := h, toks := tk })
    (done : ∀ m₁ news₁ h tk, J vs.length m₁ news₁ → Fr h₀ env.locals h m₁ → News h₀ env.locals h news₁ → Q .next { s with heap := h, toks := tk }) :
    wpAny (model prog w) A (pyIter (.ref l)) (fun it s₂ => LoopAtV prog w A h₀ env x body Q E it s₂) E s := by
  have hol : s.heap.get? l = some (listOf vs.toArray nn) := (N _ hl).1
  have hls : s.heap.IsList l vs.toArray := ⟨_, hol, rfl, nn, rfl⟩
  have hne : l ≠ s.heap.objs.size := Nat.ne_of_lt (Heap.lt_size hol)
  refine wpAny_pyIter_list hls ?_
  have W := Walks.list (prog := prog) (w := w) hh s.heap.objs.size l hne vs.toArray
  have hlen : vs.toArray.size = vs.length := by simp
  rw [hlen] at W
  refine ⟨_, _, _, vs.length, _, _, m₀, news, J, rfl, W, ?_, ?_, ?_, ⟨⟨_, Heap.get?_push_size _ rfl, rfl, rfl⟩, hls.at fun o e => Heap.get?_push_of_some _ e⟩, F.push _, (fun p hp => ⟨Heap.get?_push_of_some _ (N p hp).1, (N p hp).2⟩), hj, ?_, ?_⟩
  · intro hm
    rcases List.mem_cons.mp hm with e | hm
    · exact absurd F.ns.lt (e ▸ Nat.lt_irrefl _)
    · exact (N _ hl).2.1 ((List.mem_singleton.mp hm).symm)
  · intro b hb
    rw [List.mem_singleton.mp hb]
    exact next_is_new F
  · intro p hp hI
    exact absurd (Heap.lt_size (N p hp).1) ((List.mem_singleton.mp hI) ▸ Nat.lt_irrefl _)
  · rintro i v m₁ news₁ s₁ own ⟨hh', tk', rfl⟩ hin hP hJ hoff hown hget hfp hst F₁ N₁
    obtain ⟨oI, hoI, hcI⟩ : ∃ oI, hh'.get? s.heap.objs.size = some oI ∧ oI.cls = .type "list_iterator" := by obtain ⟨o, e, ec, _⟩ := hst.1; exact ⟨o, e, ec⟩
    have hIo : (s.heap.objs.size, oI) ∈ own := hfp _ (by simp) (next_is_new F) _ hoI
    have hlo := hJl i m₁ news₁ hJ
    have hlg : hh'.get? l = some (listOf vs.toArray nn) := (N₁ _ (List.mem_append.mpr (.inr hlo))).1
    have offI : ∀ p ∈ news₁, p.1 ≠ s.heap.objs.size := fun p hp e => hoff p hp (by simp [e])
    have N₂ : News h₀ env.locals hh' ((s.heap.objs.size, oI) :: news₁) := fun p hp => by
      rcases List.mem_cons.mp hp with rfl | hp
      · exact N₁ _ (List.mem_append.mpr (.inl hIo))
      · exact N₁ _ (List.mem_append.mpr (.inr hp))
    refine wpAny_mono (turn i v m₁ news₁ hh' tk' s.heap.objs.size oI hcI (by simpa using hP) hJ offI F₁ N₂) (fun f s₂ p => ?_) fun _ _ e => e
    have fin : TurnNext h₀ env.locals s.heap.objs.size oI (J (i + 1)) s s₂ → LoopStepU h₀ env.locals [s.heap.objs.size] own (J (i + 1)) { s with heap := hh', toks := tk' } .next s₂ := by
      rintro ⟨h', tk, m', nx, e, F', N', off', hJ'⟩
      refine ⟨rfl, h', tk, m', nx, e, F', fun p hp => ?_, fun p hp hI => off' p hp (List.mem_singleton.mp hI), hJ'⟩
      rcases List.mem_append.mp hp with h | h
      · rcases List.mem_cons.mp (hown p h) with h2 | h2
        · have h3 : hh'.get? p.1 = some p.2 := hget p h
          rw [h2, hoI] at h3
          have h4 : p = (s.heap.objs.size, oI) := Prod.ext h2 (Option.some.inj h3).symm
          rw [h4]; exact N' _ (.head _)
        · have h2' := List.mem_singleton.mp h2
          have h3 : hh'.get? p.1 = some p.2 := hget p h
          rw [h2', hlg] at h3
          have h4 : p = (l, listOf vs.toArray nn) := Prod.ext h2' (Option.some.inj h3).symm
          rw [h4]; exact N' _ (.tail _ (hJl _ _ _ hJ'))
      · exact N' p (.tail _ h)
    cases f with
    | ret v => exact .ret p
    | brk => exact .brk p
    | next => exact .next (fin p)
    | cont => exact .cont (fin p)
  · rintro h' tk m' news' F' N' _ hJ
    exact done m' news' h' tk hJ F' N'
end
section
variable {prog : Program} {w : World} {A : Around} {E : Value → Shared → Prop} {s : Shared} {h₀ : Heap} {L : Addr} {m : Str → Option Value} {env : Env}
def TupAt (ax : Addr) (its : Array Value) (nw : List (Addr × Obj)) : Prop := ∃ o, (ax, o) ∈ nw ∧ o.cls = .type "tuple" ∧ ∃ n, o.data = .seq its n
theorem TupAt.tup {ax : Addr} {its : Array Value} {nw : List (Addr × Obj)} {h : Heap} (x : TupAt ax its nw) (N : News h₀ L h nw) : h.IsTuple ax its :=
  let ⟨o, hm, r⟩ := x; ⟨o, (N _ hm).1, r⟩
def TupSrc (prog : Program) (w : World) (A : Around) (h₀ : Heap) (L : Addr) (m : Str → Option Value) (env : Env) (elt : Expr) (x : Str) (scope : Scope) (cl : List (Str × Addr)) (Q : Value → Shared → Prop) (xv : Value) (s₁ : Shared) : Prop :=
  ∃ ax its news, xv = .ref ax ∧ Fr h₀ L s₁.heap m ∧ News h₀ L s₁.heap news ∧ TupAt ax its news ∧ its.size ≤ sizeLine ∧
    ∀ s₂ : Shared, (∃ h, s₂ = { s₁ with heap := h }) → LCg.CompRest prog w A h₀ L m env elt x scope cl s₂ (TupAt ax its) (fun i v => its[i]? = some v) (LCg.FinE h₀ L m s₂ Q) its.size 0 [] news
theorem ListComp_tup {elt iter : Expr} {x : Str} {px : Pos} {scope : Scope} {cl : List (Str × Addr)} {pos : Pos} {Q : Value → Shared → Prop} (_F₀ : Fr h₀ L s.heap m) (hh : A.handled = none)
    (hclos : closureFor scope env = pure cl) (hcell : ∀ y ∈ scope.names, y.2 ≠ .cell) (hkind : scope.kind = .function)
    (hnames : ∀ y ∈ scope.names, y.2 = .local → scope.names.lookup y.1 = some .local) (hx : scope.names.lookup x = some .local)
    (h : wpAny (model prog w) A (eval iter env) (TupSrc prog w A h₀ L m env elt x scope cl Q) E s)
    (hs : ∀ x, foldedSetIterable iter env x = pure x := by intro _; rfl) :
    wpAny (model prog w) A (eval (.ListComp elt [⟨.Name x px, iter, [], 0⟩] scope pos) env) Q E s := by
  rw [eval_ListComp]
  refine wpAny_comprehension_free (use := none) rfl hs hclos hkind hnames (wpAny_mono h (fun xv s₁ h₁ => ?_) fun _ _ e => e)
  obtain ⟨ax, its, news, rfl, F, N, S, hsz, R⟩ := h₁
  have ht := S.tup N
  have hlt : ax < s₁.heap.objs.size := by obtain ⟨_, e, _⟩ := ht; exact Heap.lt_size e
  refine wpAny_pyIter_tuple ht ?_
  have up : ∀ b o, s₁.heap.get? b = some o → (s₁.heap.push { cls := .type "tuple_iterator", data := .fields #[.ref ax, .int 0 0] }).get? b = some o := fun b o e => Heap.get?_push_of_some _ e
  refine LCg.block_U (S := TupAt ax its) (Walks.tuple hh s₁.heap.objs.size ax (Nat.ne_of_lt hlt) its) hsz (fun i h st => by obtain ⟨o, e, _⟩ := st.1; exact ⟨o, e⟩)
    (fun i h h' o nw st e e' k N' S' => ⟨by obtain ⟨o', q, r⟩ := st.1; rw [e] at q; cases q; exact ⟨o, e', r⟩, S'.tup N'⟩) hcell hkind hx ⟨⟨_, Heap.get?_push_size _ rfl, rfl, rfl⟩, ht.push _⟩ (fun b hb => ?_)
    (F.keeps up) (N.grown up) (Nat.ne_of_lt F.ns.lt) (next_is_new F) (fun p hp => Nat.ne_of_lt (Heap.lt_size (N p hp).1)) S (R _ ⟨_, rfl⟩) ?_
  · show b < (s₁.heap.push _).objs.size
    rw [Heap.size_push]
    rcases List.mem_cons.mp hb with rfl | hb
    · exact Nat.lt_succ_self _
    · rw [List.mem_singleton.mp hb]; exact Nat.lt_succ_of_lt hlt
  · intro D C h tk m' ys news' F' N' o1 hn hC₀ hD₀ hCL hDL hCD offC fin
    refine ⟨m', hn, fun h'' hs'' => fin D h'' tk (F'.change hs'' hCL hC₀) (fun p hp => ?_) o1⟩
    refine ⟨hs''.extBut _ _ ?_ (N' p hp).1, (N' p hp).2⟩
    rcases List.mem_cons.mp hp with rfl | hp
    · exact Ne.symm hCD
    · exact offC p hp
end
end Mine
end
section
open PySem PySem.W PyProof.Rows PySem.Calls
namespace Mine
section
variable {prog : Program} {w : World} {A : Around} {h₀ : Heap} {L : Addr} {m : Str → Option Value} {env : Env} {elt : Expr} {x : Str} {scope : Scope} {cl : List (Str × Addr)} {s : Shared} {S : List (Addr × Obj) → Prop} {P : Nat → Value → Prop} {Fin : List Value → List (Addr × Obj) → Prop} {news : List (Addr × Obj)}
def ElEnd (news : List (Addr × Obj)) (R : Value → Prop) (y : Value) (news' : List (Addr × Obj)) : Prop := news' = news ∧ R y
theorem rest_rel {n : Nat} (R : Nat → Value → Prop)
    (turn : ∀ i v I oI C oC D m₂ ys h tk (E' : Value → Shared → Prop), i < n → P i v → LCg.NsObj oC m₂ → m₂ x = some v → Fr h₀ L h m → News h₀ L h ((I, oI) :: (C, oC) :: (D, LCg.lst ys) :: news) → LCg.Off3 I C D news →
      wpAny (model prog w) A (eval elt (compEnvC scope cl C env)) (LCg.CompEnd h₀ L m { s with heap := h, toks := tk } I oI C oC D (LCg.lst ys) S (ElEnd news (R i))) E' { s with heap := h, toks := tk })
    (fin : ∀ ys, ys.length = n → (∀ (i : Nat) y, ys[i]? = some y → R i y) → Fin ys news) : LCg.CompRest prog w A h₀ L m env elt x scope cl s S P Fin n 0 [] news := by
  have key : ∀ (j i : Nat) (ys : List Value), i + j = n → ys.length = i → (∀ (i : Nat) y, ys[i]? = some y → R i y) → LCg.CompRest prog w A h₀ L m env elt x scope cl s S P Fin j i ys news := by
    intro j
    induction j with
    | zero => intro i ys hi hy hR; exact LCg.CompRest.zero (fin ys (by omega) hR)
    | succ j ih =>
      intro i ys hi hy hR
      refine LCg.CompRest.succ ?_
      intro v I oI C oC D m₂ h tk E' hv hC hx F N off ne
      refine wpAny_mono (turn i v I oI C oC D m₂ ys h tk E' (by omega) hv hC hx F N off) (fun y s₂ hq => ?_) fun _ _ e => e
      obtain ⟨h', tk', nw, e, F', N', off', hS, hn, hr⟩ := hq
      rw [hn] at N' off' hS
      refine ⟨h', tk', news, e, F', N', off', hS, ih (i + 1) _ (by omega) (by simp [hy]) fun i' y' hy' => ?_⟩
      by_cases hlt : i' < ys.length
      · rw [List.getElem?_append_left hlt] at hy'; exact hR i' y' hy'
      · have h3 := (List.getElem?_eq_some_iff.mp hy').1
        have e3 : i' = ys.length := by simp at h3; omega
        subst e3
        simp at hy'
        subst hy'
        rw [hy]; exact hr
  exact key n 0 [] (by omega) rfl (fun i y h => by simp at h)
theorem rest_grow {n : Nat} (J : Nat → List Value → List (Addr × Obj) → Prop)
    (turn : ∀ i v I oI C oC D m₂ ys nw h tk (E' : Value → Shared → Prop), i < n → P i v → ys.length = i → J i ys nw → LCg.NsObj oC m₂ → m₂ x = some v → Fr h₀ L h m → News h₀ L h ((I, oI) :: (C, oC) :: (D, LCg.lst ys) :: nw) → LCg.Off3 I C D nw →
      wpAny (model prog w) A (eval elt (compEnvC scope cl C env)) (LCg.CompEnd h₀ L m { s with heap := h, toks := tk } I oI C oC D (LCg.lst ys) S (fun y nw' => J (i + 1) (ys ++ [y]) nw')) E' { s with heap := h, toks := tk })
    (fin : ∀ ys nw, ys.length = n → J n ys nw → Fin ys nw) (hj : J 0 [] news) : LCg.CompRest prog w A h₀ L m env elt x scope cl s S P Fin n 0 [] news := by
  have key : ∀ (j i : Nat) (ys : List Value) (nw : List (Addr × Obj)), i + j = n → ys.length = i → J i ys nw → LCg.CompRest prog w A h₀ L m env elt x scope cl s S P Fin j i ys nw := by
    intro j
    induction j with
    | zero => intro i ys nw hi hy hJ; exact LCg.CompRest.zero (fin ys nw (by omega) ((show i = n by omega) ▸ hJ))
    | succ j ih =>
      intro i ys nw hi hy hJ
      refine LCg.CompRest.succ ?_
      intro v I oI C oC D m₂ h tk E' hv hC hx F N off ne
      refine wpAny_mono (turn i v I oI C oC D m₂ ys nw h tk E' (by omega) hv hy hJ hC hx F N off) (fun y s₂ hq => ?_) fun _ _ e => e
      obtain ⟨h', tk', nw', e, F', N', off', hS, hJ'⟩ := hq
      exact ⟨h', tk', nw', e, F', N', off', hS, ih (i + 1) _ nw' (by omega) (by simp [hy]) hJ'⟩
  exact key n 0 [] news (by omega) rfl hj
end
theorem three {ys : List Value} (h : ys.length = 3) : ∃ y0 y1 y2, ys = [y0, y1, y2] := by
  match ys, h with
  | [y0, y1, y2], _ => exact ⟨y0, y1, y2, rfl⟩
end Mine
end
section
open PySem PySem.W PyProof.Rows
namespace Mine
open PySem.Flt
def F15 (r : Int) : UInt64 := Float64.ofFrac (decide (r < 0) != decide ((15 : Int) < 0)) r.natAbs (15 : Int).natAbs
section
variable {prog : Program} {w : World} {A : Around} {E : Value → Shared → Prop} {s : Shared} {Q : Value → Shared → Prop} {t u : Tok}
theorem div15 {a : Int} (hA : A.handled = none) (h0 : 0 ≤ a) (h1 : a < 16) (h : Q (.float (F15 a) s.toks) { s with toks := s.toks + 1 }) : wpAny (model prog w) A (binaryOp .Div (.int a t) (.int 15 u)) Q E s :=
  div_ii_fits hA (Nat.lt_of_lt_of_le (by omega : a.natAbs < 2 ^ 4) (Nat.pow_le_pow_right (by decide) (by decide))) (fun e => absurd e (by decide)) (fun _ _ => h)
theorem div12 (hA : A.handled = none) (h : Q (.float 0x3fe0000000000000 s.toks) { s with toks := s.toks + 1 }) : wpAny (model prog w) A (binaryOp .Div (.int 1 t) (.int 2 u)) Q E s :=
  div_ii_fits hA (Nat.lt_of_lt_of_le (by decide : (1 : Int).natAbs < 2 ^ 4) (Nat.pow_le_pow_right (by decide) (by decide))) (fun e => absurd e (by decide)) (fun _ _ => by
    have e : Float64.ofFrac (decide ((1 : Int) < 0) != decide ((2 : Int) < 0)) (1 : Int).natAbs (2 : Int).natAbs = 0x3fe0000000000000 := by decide +kernel
    rw [e]; exact h)
theorem div13 (hA : A.handled = none) (h : Q (.float 4599676419421066581 s.toks) { s with toks := s.toks + 1 }) : wpAny (model prog w) A (binaryOp .Div (.int 1 t) (.int 3 u)) Q E s :=
  div_ii_fits hA (Nat.lt_of_lt_of_le (by decide : (1 : Int).natAbs < 2 ^ 4) (Nat.pow_le_pow_right (by decide) (by decide))) (fun e => absurd e (by decide)) (fun _ _ => by
    have e : Float64.ofFrac (decide ((1 : Int) < 0) != decide ((3 : Int) < 0)) (1 : Int).natAbs (3 : Int).natAbs = 4599676419421066581 := by decide +kernel
    rw [e]; exact h)
theorem sub_i_f {a : UInt64} (h : Q (.float (Float64.sub 0x3ff0000000000000 a) s.toks) { s with toks := s.toks + 1 }) : wpAny (model prog w) A (binaryOp .Sub (.int 1 u) (.float a t)) Q E s :=
  AutoFloatOps.sub_if_1 (fin_of_fits (not_over (by decide))) (by
    have e : Float64.ofInt 1 = 0x3ff0000000000000 := by decide +kernel
    rw [e]; exact h)
theorem mul_i_f {a : UInt64} (h : Q (.float (Float64.mul 0x402e000000000000 a) s.toks) { s with toks := s.toks + 1 }) : wpAny (model prog w) A (binaryOp .Mult (.int 15 u) (.float a t)) Q E s :=
  AutoFloatOps.mul_if_1 (fin_of_fits (not_over (by decide))) (by
    have e : Float64.ofInt 15 = 0x402e000000000000 := by decide +kernel
    rw [e]; exact h)
end
def back (o : UInt64) : UInt64 := Float64.add (Float64.mul 0x402e000000000000 o) 0x3fe0000000000000
def Back (o : UInt64) (r : Int) : Prop := Float64.isFinite (back o) = true ∧ iF (back o) = r
def BackT (o : UInt64 × UInt64 × UInt64) (c : Col) : Prop := Back o.1 c.1 ∧ Back o.2.1 c.2.1 ∧ Back o.2.2 c.2.2
def nzHsv (r g b : UInt64) : Prop := (Float64.cmp (mn2 (mn2 r g) b) (mx2 (mx2 r g) b) == some .eq) = false → Float64.isZero (Float64.sub (mx2 (mx2 r g) b) (mn2 (mn2 r g) b)) = false ∧ Float64.isZero (mx2 (mx2 r g) b) = false
def nzHls (r g b : UInt64) : Prop := (Float64.cmp (mn2 (mn2 r g) b) (mx2 (mx2 r g) b) == some .eq) = false → Float64.isZero (Float64.sub (mx2 (mx2 r g) b) (mn2 (mn2 r g) b)) = false ∧ Float64.isZero (Float64.add (mx2 (mx2 r g) b) (mn2 (mn2 r g) b)) = false ∧ Float64.isZero (Float64.sub (Float64.sub 4611686018427387904 (mx2 (mx2 r g) b)) (mn2 (mn2 r g) b)) = false
def hsvC (c : Col) : UInt64 × UInt64 × UInt64 := hsvT (F15 c.1) (F15 c.2.1) (F15 c.2.2)
def hlsC (c : Col) : UInt64 × UInt64 × UInt64 := hlsT (F15 c.1) (F15 c.2.1) (F15 c.2.2)
def Ok01 (h : UInt64) (c c' : Col) : Prop := nzHsv (F15 c.1) (F15 c.2.1) (F15 c.2.2) ∧ Float64.isFinite (Float64.mul h 4618441417868443648) = true ∧ (iF (Float64.mul h 4618441417868443648)).natAbs < 2 ^ 62 ∧ BackT (ofHsv h (hsvC c).2.1 (hsvC c).2.2) c'
def Ok2 (c c' : Col) : Prop := nzHls (F15 c.1) (F15 c.2.1) (F15 c.2.2) ∧ BackT (ofHls (Float64.add (hlsC c).1 0x3fe0000000000000) (Float64.sub 0x3ff0000000000000 (hlsC c).2.1) (hlsC c).2.2) c'
def MoveOk (mv : Int) (c c' : Col) : Prop :=
  if mv = 0 then Ok01 (Float64.add (hsvC c).1 4599676419421066581) c c' else if mv = 1 then Ok01 (Float64.sub 0x3ff0000000000000 (hsvC c).1) c c' else Ok2 c c'
abbrev tup3 (y1 y2 y3 : UInt64) (u1 u2 u3 : Tok) : Obj := { cls := .type "tuple", data := .seq #[.float y1 u1, .float y2 u2, .float y3 u3] }
theorem hsv_call2 {w : World} {mean mg mb} {dp un : Nat} {gd : Option (List Code)} {cn : Str} {cs : Scope} {a : Addr} {ccd : Value} {cl : List (Str × Addr)} {outer : List Env} {A₀ : Around} {base h₀ : Heap} {L : Addr} {m : Str → Option Value} {news : List (Addr × Obj)} {s : Shared} {Q E : Value → Shared → Prop}
  {r g b : UInt64} {t1 t2 t3 : Tok}
  (B : Below A₀ base outer h₀) (F : Fr h₀ L s.heap m) (X : (hd.heap_39 w.params).In h₀) (N : News h₀ L s.heap news) (T : Top hd.view_39 (looseW hd.view_39 [Str.ofString "ONE_THIRD", Str.ofString "ONE_SIXTH", Str.ofString "TWO_THIRD"]) mean mg mb h₀) (hk : cs.kind = .function) (hdp : dp + 1 < recursionLimit) (hun : un + 8 < cLine)
  (hz : nzHsv r g b)
  (ret : ∀ x u1 u2 u3 h' tk', Fr h₀ L h' m → News h₀ L h' ((x, tup3 (hsvT r g b).1 (hsvT r g b).2.1 (hsvT r g b).2.2 u1 u2 u3) :: news) → (∀ p ∈ news, p.1 < x) → Q (.ref x) { s with heap := h', toks := tk' }) :
  wpAny (model PySem.Challenge.rw_mr0141_01.row.prog w) (ktrTop dp un gd cn cs L a ccd cl outer) (call (.ref 49) [.float r t1, .float g t2, .float b t3]) Q E s :=
  hsv_call B F X N T hk hdp hun hz fun x y1 y2 y3 u1 u2 u3 h' tk' e F' N' lt9 => by
    have e1 : y1 = (hsvT r g b).1 := congrArg Prod.fst e
    have e2 : y2 = (hsvT r g b).2.1 := congrArg (fun p => p.2.1) e
    have e3 : y3 = (hsvT r g b).2.2 := congrArg (fun p => p.2.2) e
    subst e1 e2 e3
    exact ret x u1 u2 u3 h' tk' F' N' lt9
theorem hls_call2 {w : World} {mean mg mb} {dp un : Nat} {gd : Option (List Code)} {cn : Str} {cs : Scope} {a : Addr} {ccd : Value} {cl : List (Str × Addr)} {outer : List Env} {A₀ : Around} {base h₀ : Heap} {L : Addr} {m : Str → Option Value} {news : List (Addr × Obj)} {s : Shared} {Q E : Value → Shared → Prop}
  {r g b : UInt64} {t1 t2 t3 : Tok}
  (B : Below A₀ base outer h₀) (F : Fr h₀ L s.heap m) (X : (hd.heap_39 w.params).In h₀) (N : News h₀ L s.heap news) (T : Top hd.view_39 (looseW hd.view_39 [Str.ofString "ONE_THIRD", Str.ofString "ONE_SIXTH", Str.ofString "TWO_THIRD"]) mean mg mb h₀) (hk : cs.kind = .function) (hdp : dp + 1 < recursionLimit) (hun : un + 8 < cLine)
  (hz : nzHls r g b)
  (ret : ∀ x u1 u2 u3 h' tk', Fr h₀ L h' m → News h₀ L h' ((x, tup3 (hlsT r g b).1 (hlsT r g b).2.1 (hlsT r g b).2.2 u1 u2 u3) :: news) → (∀ p ∈ news, p.1 < x) → Q (.ref x) { s with heap := h', toks := tk' }) :
  wpAny (model PySem.Challenge.rw_mr0141_01.row.prog w) (ktrTop dp un gd cn cs L a ccd cl outer) (call (.ref 28) [.float r t1, .float g t2, .float b t3]) Q E s :=
  hls_call B F X N T hk hdp hun hz fun x y1 y2 y3 u1 u2 u3 h' tk' e F' N' lt9 => by
    have e1 : y1 = (hlsT r g b).1 := congrArg Prod.fst e
    have e2 : y2 = (hlsT r g b).2.1 := congrArg (fun p => p.2.1) e
    have e3 : y3 = (hlsT r g b).2.2 := congrArg (fun p => p.2.2) e
    subst e1 e2 e3
    exact ret x u1 u2 u3 h' tk' F' N' lt9
theorem ofhls_call2 {w : World} {mean mg mb} {dp un : Nat} {gd : Option (List Code)} {cn : Str} {cs : Scope} {a : Addr} {ccd : Value} {cl : List (Str × Addr)} {outer : List Env} {A₀ : Around} {base h₀ : Heap} {L : Addr} {m : Str → Option Value} {news : List (Addr × Obj)} {s : Shared} {Q E : Value → Shared → Prop}
  {h l s1 : UInt64} {t1 t2 t3 : Tok}
  (B : Below A₀ base outer h₀) (F : Fr h₀ L s.heap m) (X : (hd.heap_39 w.params).In h₀) (N : News h₀ L s.heap news) (T : Top hd.view_39 (looseW hd.view_39 [Str.ofString "ONE_THIRD", Str.ofString "ONE_SIXTH", Str.ofString "TWO_THIRD"]) mean mg mb h₀) (hk : cs.kind = .function) (hdp : dp + 2 < recursionLimit) (hun : un + 16 < cLine)
  
  (ret : ∀ x u1 u2 u3 h' tk', Fr h₀ L h' m → News h₀ L h' ((x, tup3 (ofHls h l s1).1 (ofHls h l s1).2.1 (ofHls h l s1).2.2 u1 u2 u3) :: news) → (∀ p ∈ news, p.1 < x) → Q (.ref x) { s with heap := h', toks := tk' }) :
  wpAny (model PySem.Challenge.rw_mr0141_01.row.prog w) (ktrTop dp un gd cn cs L a ccd cl outer) (call (.ref 35) [.float h t1, .float l t2, .float s1 t3]) Q E s :=
  ofhls_call B F X N T hk hdp hun fun x y1 y2 y3 u1 u2 u3 h' tk' e F' N' lt9 => by
    have e1 : y1 = (ofHls h l s1).1 := congrArg Prod.fst e
    have e2 : y2 = (ofHls h l s1).2.1 := congrArg (fun p => p.2.1) e
    have e3 : y3 = (ofHls h l s1).2.2 := congrArg (fun p => p.2.2) e
    subst e1 e2 e3
    exact ret x u1 u2 u3 h' tk' F' N' lt9
theorem ofhsv_call2 {w : World} {mean mg mb} {dp un : Nat} {gd : Option (List Code)} {cn : Str} {cs : Scope} {a : Addr} {ccd : Value} {cl : List (Str × Addr)} {outer : List Env} {A₀ : Around} {base h₀ : Heap} {L : Addr} {m : Str → Option Value} {news : List (Addr × Obj)} {s : Shared} {Q E : Value → Shared → Prop}
  {h s1 v : UInt64} {t1 t2 t3 : Tok}
  (B : Below A₀ base outer h₀) (F : Fr h₀ L s.heap m) (X : (hd.heap_39 w.params).In h₀) (N : News h₀ L s.heap news) (T : Top hd.view_39 (looseW hd.view_39 [Str.ofString "ONE_THIRD", Str.ofString "ONE_SIXTH", Str.ofString "TWO_THIRD"]) mean mg mb h₀) (hk : cs.kind = .function) (hdp : dp + 1 < recursionLimit) (hun : un + 8 < cLine)
  (hf : Float64.isFinite (Float64.mul h 4618441417868443648) = true) (hi : (iF (Float64.mul h 4618441417868443648)).natAbs < 2 ^ 62)
  (ret : ∀ x u1 u2 u3 h' tk', Fr h₀ L h' m → News h₀ L h' ((x, tup3 (ofHsv h s1 v).1 (ofHsv h s1 v).2.1 (ofHsv h s1 v).2.2 u1 u2 u3) :: news) → (∀ p ∈ news, p.1 < x) → Q (.ref x) { s with heap := h', toks := tk' }) :
  wpAny (model PySem.Challenge.rw_mr0141_01.row.prog w) (ktrTop dp un gd cn cs L a ccd cl outer) (call (.ref 56) [.float h t1, .float s1 t2, .float v t3]) Q E s :=
  ofhsv_call B F X N T hk hdp hun hf hi fun x y1 y2 y3 u1 u2 u3 h' tk' e F' N' lt9 => by
    have e1 : y1 = (ofHsv h s1 v).1 := congrArg Prod.fst e
    have e2 : y2 = (ofHsv h s1 v).2.1 := congrArg (fun p => p.2.1) e
    have e3 : y3 = (ofHsv h s1 v).2.2 := congrArg (fun p => p.2.2) e
    subst e1 e2 e3
    exact ret x u1 u2 u3 h' tk' F' N' lt9
end Mine
end
section
open PySem PySem.W PyProof.Rows
namespace Mine
section
local macro_rules | `(tactic| walk_at "binaryOp Div int int") => `(tactic| first | (refine' div15 ?k1 ?k2 ?k3 ?_; (case k1 => with_unfolding_all rfl); (case k2 => first | assumption | omega); (case k3 => first | assumption | omega)) | (refine' div12 ?k1 ?_; (case k1 => with_unfolding_all rfl)) | (refine' div13 ?k1 ?_; (case k1 => with_unfolding_all rfl)))
local macro_rules | `(tactic| walk_at "binaryOp Sub int float") => `(tactic| refine sub_i_f ?_)
local macro_rules | `(tactic| walk_at "binaryOp Mult int float") => `(tactic| refine mul_i_f ?_)
local macro_rules | `(tactic| walk_at "call type:int") => `(tactic| ((with_reducible show wpAny _ _ (call _ [Value.float _ _]) _ _ _); refine' int_f ?k1 ?k2 ?_; (case k1 => with_unfolding_all rfl); (case k2 => assumption)))
theorem off1_mem {D : Addr} : ∀ {l : List (Addr × Obj)}, LCg.Off1 D l → ∀ p ∈ l, p.1 ≠ D
  | [], _, _, h => nomatch h
  | _ :: _, x, p, h => by
    rcases List.mem_cons.mp h with rfl | h
    · exact x.1
    · exact off1_mem x.2 p h
def MvJ (news : List (Addr × Obj)) (cols' : List Col) (mv : Int) (tm : Tok) (i : Nat) (m : Str → Option Value) (nx : List (Addr × Obj)) : Prop :=
  ∃ D accs k tl, nx = (D, listOf accs.toArray k) :: (tl ++ news) ∧ (∀ p ∈ tl, ∀ q ∈ news, p.1 ≠ q.1) ∧ (∀ p ∈ tl ++ news, p.1 ≠ D) ∧ Cols (tl ++ news) accs (cols'.take i) ∧ m (Str.ofString "moved") = some (.ref D) ∧ m (Str.ofString "move") = some (.int mv tm)
theorem mv_map {m₁ : Str → Option Value} {v : Value} {D : Addr} {mv : Int} {tm : Tok} (h1 : m₁ (Str.ofString "moved") = some (.ref D)) (h2 : m₁ (Str.ofString "move") = some (.int mv tm)) :
    (fun y => if y = Str.ofString "colour" then some v else m₁ y) = fun y => if y = Str.ofString "colour" then some v else if y = Str.ofString "moved" then some (.ref D) else if y = Str.ofString "move" then some (.int mv tm) else m₁ y := by
  funext y
  by_cases e1 : y = Str.ofString "colour"
  · simp only [e1, if_true]
  · rw [if_neg e1, if_neg e1]
    by_cases e2 : y = Str.ofString "moved"
    · rw [if_pos e2, e2, h1]
    · rw [if_neg e2]
      by_cases e3 : y = Str.ofString "move"
      · rw [if_pos e3, e3, h2]
      · rw [if_neg e3]
set_option maxHeartbeats 8000000 in
theorem moved_call {w : World} {mean mg mb} {dp un : Nat} {gd : Option (List Code)} {cn : Str} {cs : Scope} {a : Addr} {ccd : Value} {cl : List (Str × Addr)} {outer : List Env} {A₀ : Around} {base h₀ : Heap} {L : Addr} {m : Str → Option Value} {news : List (Addr × Obj)} {s : Shared} {Q E : Value → Shared → Prop}
  {l : Addr} {vs : List Value} {k : Nat} {cols cols' : List Col} {mv : Int} {tm : Tok}
  (B : Below A₀ base outer h₀) (F : Fr h₀ L s.heap m) (X : (hd.heap_39 w.params).In h₀) (N : News h₀ L s.heap news) (T : Top hd.view_39 (looseW hd.view_39 [Str.ofString "ONE_THIRD", Str.ofString "ONE_SIXTH", Str.ofString "TWO_THIRD"]) mean mg mb h₀) (hk : cs.kind = .function) (hdp : dp + 4 < recursionLimit) (hun : un + 32 < cLine)
  (hm : (l, listOf vs.toArray k) ∈ news) (hc : Cols news vs cols) (hlen : cols.length < 100) (hb : ∀ c ∈ cols, (0 ≤ c.1 ∧ c.1 < 16) ∧ (0 ≤ c.2.1 ∧ c.2.1 < 16) ∧ (0 ≤ c.2.2 ∧ c.2.2 < 16)) (hmv : mv = 0 ∨ mv = 1 ∨ mv = 2) (hl' : cols'.length = cols.length) (hok : ∀ (i : Nat) c c', cols[i]? = some c → cols'[i]? = some c' → MoveOk mv c c')
  (ret : ∀ x ys k' tl h' tk', (∀ p ∈ tl, ∀ q ∈ news, p.1 ≠ q.1) → (∀ q ∈ tl ++ news, q.1 ≠ x) → Cols (tl ++ news) ys cols' → Fr h₀ L h' m → News h₀ L h' ((x, listOf ys.toArray k') :: (tl ++ news)) → Q (.ref x) { s with heap := h', toks := tk' }) :
  wpAny (model PySem.Challenge.rw_mr0141_01.row.prog w) (ktrTop dp un gd cn cs L a ccd cl outer) (call (.ref 78) [.ref l, .int mv tm]) Q E s := by
  k_with_none
  revert X; k_fill; intro X
  refine wpAny_call ?_
  k_dflt cell_enter
  repeat' ((fail_if_success (with_reducible show wpAny _ _ (exec (Stmt.For _ _ _ _ _) _) _ _ _)); (first | (k_unfold; (try dsimp only)) | (with_reducible (first | (k_here; (with_reducible show wpAny _ _ (call (Value.ref 49) [Value.float _ _, Value.float _ _, Value.float _ _]) _ _ _); k_dflt (refine hsv_call2 (by k_asm) (by k_asm) (by k_asm) (by k_asm) (by k_asm) (by first | exact rfl | assumption) (by ktr_room) (by ktr_units) (by assumption) ?_; intro _ _ _ _ _ _ _ _ l9q; (try k_lt l9q); (try dsimp only); (try k_fold))) | (k_here; (with_reducible show wpAny _ _ (call (Value.ref 28) [Value.float _ _, Value.float _ _, Value.float _ _]) _ _ _); k_dflt (refine hls_call2 (by k_asm) (by k_asm) (by k_asm) (by k_asm) (by k_asm) (by first | exact rfl | assumption) (by ktr_room) (by ktr_units) (by assumption) ?_; intro _ _ _ _ _ _ _ _ l9q; (try k_lt l9q); (try dsimp only); (try k_fold))) | (k_here; (with_reducible show wpAny _ _ (call (Value.ref 35) [Value.float _ _, Value.float _ _, Value.float _ _]) _ _ _); k_dflt (refine ofhls_call2 (by k_asm) (by k_asm) (by k_asm) (by k_asm) (by k_asm) (by first | exact rfl | assumption) (by ktr_room) (by ktr_units) ?_; intro _ _ _ _ _ _ _ _ l9q; (try k_lt l9q); (try dsimp only); (try k_fold))) | (k_here; (with_reducible show wpAny _ _ (call (Value.ref 56) [Value.float _ _, Value.float _ _, Value.float _ _]) _ _ _); k_dflt (refine ofhsv_call2 (by k_asm) (by k_asm) (by k_asm) (by k_asm) (by k_asm) (by first | exact rfl | assumption) (by ktr_room) (by ktr_units) (by assumption) (by assumption) ?_; intro _ _ _ _ _ _ _ _ l9q; (try k_lt l9q); (try dsimp only); (try k_fold))))) | walk1 | (dsimp only; walk1)))
  rename Fr _ _ _ _ => F1
  rename News _ _ _ _ => N1
  with_unfolding_all refine' For_invVF F1 ?k1 ?k2 ?_; (case k1 => exact rfl); (case k2 => exact rfl)
  walk1
  refine iterJ (MvJ news cols' mv tm) rfl (List.Mem.tail _ hm) F1 N1 ?hj ?hJl ?turn ?done
  case hj => exact ⟨_, [], 0, [], rfl, (fun p hp => nomatch hp), (fun p hp => Nat.ne_of_lt ((by assumption : ∀ p ∈ news, p.1 < _) p hp)), .nil, rfl, rfl⟩
  case hJl =>
    rintro i m nx ⟨D, accs, k1, tl, rfl, _⟩
    exact .tail _ (List.mem_append.mpr (.inr hm))
  case turn =>
    intro i v m₁ news₁ h tk I oI hcI hv hJ offI F2 N2
    obtain ⟨D, accs, k1, tl, rfl, offT, offD, hcols, hm1, hm2⟩ := hJ
    obtain ⟨c, hci, a1, t1, t2, t3, k2, rfl, ha⟩ := hc.at i v hv
    have hlt : i < cols'.length := by rw [hl']; exact (List.getElem?_eq_some_iff.mp hci).1
    obtain ⟨c', hc'⟩ : ∃ c', cols'[i]? = some c' := ⟨cols'[i], by simp [hlt]⟩
    have hmo := hok i c c' hci hc'
    obtain ⟨⟨b1, b2⟩, ⟨b3, b4⟩, b5, b6⟩ := hb c (List.mem_of_getElem? hci)
    rw [mv_map hm1 hm2] at F2
    have ha' : (a1, listOf #[.int c.1 t1, .int c.2.1 t2, .int c.2.2 t3] k2) ∈ tl ++ news := List.mem_append.mpr (.inr ha)
    generalize hrest : tl ++ news = rest at *
    clear F1 N1 hok
    repeat' ((fail_if_success (with_reducible show wpAny _ _ (eval (Expr.ListComp _ _ _ _) _) _ _ _)); (first | (k_unfold; (try dsimp only)) | (with_reducible (first | (k_here; (with_reducible show wpAny _ _ (call (Value.ref 49) [Value.float _ _, Value.float _ _, Value.float _ _]) _ _ _); k_dflt (refine hsv_call2 (by k_asm) (by k_asm) (by k_asm) (by k_asm) (by k_asm) (by first | exact rfl | assumption) (by ktr_room) (by ktr_units) (by assumption) ?_; intro _ _ _ _ _ _ _ _ l9q; (try k_lt l9q); (try dsimp only); (try k_fold))) | (k_here; (with_reducible show wpAny _ _ (call (Value.ref 28) [Value.float _ _, Value.float _ _, Value.float _ _]) _ _ _); k_dflt (refine hls_call2 (by k_asm) (by k_asm) (by k_asm) (by k_asm) (by k_asm) (by first | exact rfl | assumption) (by ktr_room) (by ktr_units) (by assumption) ?_; intro _ _ _ _ _ _ _ _ l9q; (try k_lt l9q); (try dsimp only); (try k_fold))) | (k_here; (with_reducible show wpAny _ _ (call (Value.ref 35) [Value.float _ _, Value.float _ _, Value.float _ _]) _ _ _); k_dflt (refine ofhls_call2 (by k_asm) (by k_asm) (by k_asm) (by k_asm) (by k_asm) (by first | exact rfl | assumption) (by ktr_room) (by ktr_units) ?_; intro _ _ _ _ _ _ _ _ l9q; (try k_lt l9q); (try dsimp only); (try k_fold))) | (k_here; (with_reducible show wpAny _ _ (call (Value.ref 56) [Value.float _ _, Value.float _ _, Value.float _ _]) _ _ _); k_dflt (refine ofhsv_call2 (by k_asm) (by k_asm) (by k_asm) (by k_asm) (by k_asm) (by first | exact rfl | assumption) (by ktr_room) (by ktr_units) (by assumption) (by assumption) ?_; intro _ _ _ _ _ _ _ _ l9q; (try k_lt l9q); (try dsimp only); (try k_fold))))) | walk1 | (dsimp only; walk1)))
    (with_unfolding_all refine' LCg.ListComp_U (cl := []) (F₀ := by k_asm) ?ka ?kb ?kc ?kd ?ke ?kf ?kg)
    case ka => with_unfolding_all rfl
    case kb => decide
    case kc => rfl
    case kd => decide
    case ke => rfl
    case kg => intro _; rfl
    case kf =>
      walk1
      refine LCg.CompSrc.ledger rfl F2 N2 (by kcf_m) (by show 3 ≤ sizeLine; rw [sizeLine_eq]; decide) fun gg => ?_
      refine rest_rel (fun i y => ∃ t, y = .float (F15 (part i c)) t) ?_ ?_
      · intro i3 v3 I3 oI3 C3 oC3 D3 m3 ys3 h3 tk3 E3 hi3 hv3 hC3 hx3 F3 N3 off3
        have hi3' : i3 = 0 ∨ i3 = 1 ∨ i3 = 2 := by simp at hi3; omega
        rcases hi3' with rfl | rfl | rfl
        all_goals (simp at hv3; subst hv3; k_steps; exact ⟨_, _, _, rfl, F3, N3, off3, .inr ⟨_, by kcf_m, rfl, _, rfl⟩, rfl, _, rfl⟩)
      · intro ys3 hl3 hR3
        obtain ⟨y0, y1, y2, rfl⟩ := three hl3
        obtain ⟨u0, hu0⟩ := hR3 0 _ rfl
        have hu0' : y0 = .float (F15 c.1) u0 := hu0
        subst hu0'
        obtain ⟨u1, hu1⟩ := hR3 1 _ rfl
        have hu1' : y1 = .float (F15 c.2.1) u1 := hu1
        subst hu1'
        obtain ⟨u2, hu2⟩ := hR3 2 _ rfl
        have hu2' : y2 = .float (F15 c.2.2) u2 := hu2
        subst hu2'
        clear hu0 hu1 hu2 hR3 hl3
        intro D3 h3 tk3 F3 N3 off3
        rcases hmv with rfl | rfl | rfl
        · have hmo' : Ok01 (Float64.add (hsvC c).1 4599676419421066581) c c' := hmo
          obtain ⟨hz, hf, hi, ⟨hB0, hE0⟩, ⟨hB1, hE1⟩, ⟨hB2, hE2⟩⟩ := hmo'
          simp only [hsvC, back] at hf hi hB0 hB1 hB2 hE0 hE1 hE2
          repeat' ((fail_if_success (with_reducible show wpAny _ _ (eval (Expr.ListComp _ _ _ _) _) _ _ _)); (first | (k_unfold; (try dsimp only)) | (with_reducible (first | (k_here; (with_reducible show wpAny _ _ (call (Value.ref 49) [Value.float _ _, Value.float _ _, Value.float _ _]) _ _ _); k_dflt (refine hsv_call2 (by k_asm) (by k_asm) (by k_asm) (by k_asm) (by k_asm) (by first | exact rfl | assumption) (by ktr_room) (by ktr_units) (by assumption) ?_; intro _ _ _ _ _ _ _ _ l9q; (try k_lt l9q); (try dsimp only); (try k_fold))) | (k_here; (with_reducible show wpAny _ _ (call (Value.ref 28) [Value.float _ _, Value.float _ _, Value.float _ _]) _ _ _); k_dflt (refine hls_call2 (by k_asm) (by k_asm) (by k_asm) (by k_asm) (by k_asm) (by first | exact rfl | assumption) (by ktr_room) (by ktr_units) (by assumption) ?_; intro _ _ _ _ _ _ _ _ l9q; (try k_lt l9q); (try dsimp only); (try k_fold))) | (k_here; (with_reducible show wpAny _ _ (call (Value.ref 35) [Value.float _ _, Value.float _ _, Value.float _ _]) _ _ _); k_dflt (refine ofhls_call2 (by k_asm) (by k_asm) (by k_asm) (by k_asm) (by k_asm) (by first | exact rfl | assumption) (by ktr_room) (by ktr_units) ?_; intro _ _ _ _ _ _ _ _ l9q; (try k_lt l9q); (try dsimp only); (try k_fold))) | (k_here; (with_reducible show wpAny _ _ (call (Value.ref 56) [Value.float _ _, Value.float _ _, Value.float _ _]) _ _ _); k_dflt (refine ofhsv_call2 (by k_asm) (by k_asm) (by k_asm) (by k_asm) (by k_asm) (by first | exact rfl | assumption) (by ktr_room) (by ktr_units) (by assumption) (by assumption) ?_; intro _ _ _ _ _ _ _ _ l9q; (try k_lt l9q); (try dsimp only); (try k_fold))))) | walk1 | (dsimp only; walk1)))
          rename Fr _ _ _ _ => F5
          rename News _ _ _ _ => N5
          refine ListComp_tup (cl := []) F5 rfl ?ka ?kb ?kc ?kd ?ke ?kf ?kg
          case ka => with_unfolding_all rfl
          case kb => decide
          case kc => rfl
          case kd => decide
          case ke => rfl
          case kg => intro _; rfl
          case kf =>
            walk1
            refine ⟨_, _, _, rfl, F5, N5, ⟨_, List.Mem.head _, rfl, _, rfl⟩, (by show 3 ≤ sizeLine; rw [sizeLine_eq]; decide), ?_⟩
            rintro s5 ⟨g5, rfl⟩
            refine rest_rel (fun i y => ∃ t, y = .int (part i c') t) ?_ ?_
            · intro i4 v4 I4 oI4 C4 oC4 D4 m4 ys4 h4 tk4 E4 hi4 hv4 hC4 hx4 F6 N6 off6
              have hi4' : i4 = 0 ∨ i4 = 1 ∨ i4 = 2 := by simp at hi4; omega
              rcases hi4' with rfl | rfl | rfl
              · simp at hv4; subst hv4; k_steps
                exact ⟨_, _, _, rfl, F6, N6, off6, ⟨_, by kcf_m, rfl, _, rfl⟩, rfl, _, congrArg (fun z => Value.int z _) hE0⟩
              · simp at hv4; subst hv4; k_steps
                exact ⟨_, _, _, rfl, F6, N6, off6, ⟨_, by kcf_m, rfl, _, rfl⟩, rfl, _, congrArg (fun z => Value.int z _) hE1⟩
              · simp at hv4; subst hv4; k_steps
                exact ⟨_, _, _, rfl, F6, N6, off6, ⟨_, by kcf_m, rfl, _, rfl⟩, rfl, _, congrArg (fun z => Value.int z _) hE2⟩
            · intro ys5 hl5 hR5
              obtain ⟨z0, z1, z2, rfl⟩ := three hl5
              obtain ⟨w0, hw0⟩ := hR5 0 _ rfl
              obtain ⟨w1, hw1⟩ := hR5 1 _ rfl
              obtain ⟨w2, hw2⟩ := hR5 2 _ rfl
              have hw0' : z0 = .int c'.1 w0 := hw0
              have hw1' : z1 = .int c'.2.1 w1 := hw1
              have hw2' : z2 = .int c'.2.2 w2 := hw2
              subst hw0' hw1' hw2'
              clear hw0 hw1 hw2 hR5 hl5
              intro D5 h5 tk5 F6 N6 off5
              repeat' ((fail_if_success (with_reducible show wpAny _ _ (call (Value.builtin "list.append") _) _ _ _)); (first | (k_unfold; (try dsimp only)) | (with_reducible (first | (k_here; (with_reducible show wpAny _ _ (call (Value.ref 49) [Value.float _ _, Value.float _ _, Value.float _ _]) _ _ _); k_dflt (refine hsv_call2 (by k_asm) (by k_asm) (by k_asm) (by k_asm) (by k_asm) (by first | exact rfl | assumption) (by ktr_room) (by ktr_units) (by assumption) ?_; intro _ _ _ _ _ _ _ _ l9q; (try k_lt l9q); (try dsimp only); (try k_fold))) | (k_here; (with_reducible show wpAny _ _ (call (Value.ref 28) [Value.float _ _, Value.float _ _, Value.float _ _]) _ _ _); k_dflt (refine hls_call2 (by k_asm) (by k_asm) (by k_asm) (by k_asm) (by k_asm) (by first | exact rfl | assumption) (by ktr_room) (by ktr_units) (by assumption) ?_; intro _ _ _ _ _ _ _ _ l9q; (try k_lt l9q); (try dsimp only); (try k_fold))) | (k_here; (with_reducible show wpAny _ _ (call (Value.ref 35) [Value.float _ _, Value.float _ _, Value.float _ _]) _ _ _); k_dflt (refine ofhls_call2 (by k_asm) (by k_asm) (by k_asm) (by k_asm) (by k_asm) (by first | exact rfl | assumption) (by ktr_room) (by ktr_units) ?_; intro _ _ _ _ _ _ _ _ l9q; (try k_lt l9q); (try dsimp only); (try k_fold))) | (k_here; (with_reducible show wpAny _ _ (call (Value.ref 56) [Value.float _ _, Value.float _ _, Value.float _ _]) _ _ _); k_dflt (refine ofhsv_call2 (by k_asm) (by k_asm) (by k_asm) (by k_asm) (by k_asm) (by first | exact rfl | assumption) (by ktr_room) (by ktr_units) (by assumption) (by assumption) ?_; intro _ _ _ _ _ _ _ _ l9q; (try k_lt l9q); (try dsimp only); (try k_fold))))) | walk1 | (dsimp only; walk1)))
              have off5r := off1_mem off5.2.2.2.2.2
              simp only [LCg.Off1] at off5 off3
              have hneI : I ≠ D := Ne.symm (offI (D, _) (List.Mem.head _))
              refine append_K F6 N6 (Upd.tail ?u1 (Upd.tail ?u2 (Upd.tail ?u3 (Upd.tail ?u4 (Upd.tail ?u5 (Upd.head offD)))))) ?_ ?hsz
              case u1 => k_ne
              case u2 => k_ne
              case u3 => k_ne
              case u4 => k_ne
              case u5 => exact hneI
              case hsz => rw [List.size_toArray, hcols.length, List.length_take, sizeLine_eq]; omega
              intro h7 F7 N7
              k_steps
              have epush : accs.toArray.push (Value.ref D5) = (accs ++ [Value.ref D5]).toArray := by simp
              rw [epush] at N7
              show TurnNext _ _ _ _ _ _ _
              refine ⟨_, _, _, (D, listOf (accs ++ [Value.ref D5]).toArray (k1 + 1)) :: ((D5, LCg.lst [Value.int c'.1 w0, Value.int c'.2.1 w1, Value.int c'.2.2 w2]) :: rest), rfl, F7, ?eN, ?eI, D, accs ++ [Value.ref D5], k1 + 1, (D5, LCg.lst [Value.int c'.1 w0, Value.int c'.2.1 w1, Value.int c'.2.2 w2]) :: tl, ?ee, ?eT, ?eD, ?eC, rfl, rfl⟩
              case eN =>
                intro p hp
                simp only [List.mem_cons] at hp
                rcases hp with rfl | rfl | rfl | hp
                · exact N7 _ (by kcf_m)
                · exact N7 _ (by kcf_m)
                · exact N7 _ (by kcf_m)
                · exact N7 _ (by kcf_m)
              case eI =>
                intro p hp
                simp only [List.mem_cons] at hp
                rcases hp with rfl | rfl | hp
                · exact Ne.symm hneI
                · exact Ne.symm off5.2.2.2.1
                · exact offI p (.tail _ hp)
              case ee => rw [List.cons_append, hrest]
              case eT =>
                intro p hp q hq
                rcases List.mem_cons.mp hp with rfl | hp
                · exact Ne.symm (off5r q (hrest ▸ List.mem_append.mpr (.inr hq)))
                · exact offT p hp q hq
              case eD =>
                rw [List.cons_append, hrest]
                intro p hp
                rcases List.mem_cons.mp hp with rfl | hp
                · exact Ne.symm off5.2.2.2.2.1
                · exact offD p hp
              case eC =>
                rw [List.cons_append, hrest, List.take_add_one, hc']
                exact Cols.snoc ⟨D5, w0, w1, w2, _, rfl, List.Mem.head _⟩ (hcols.mono fun p hp => .tail _ hp)
        · have hmo' : Ok01 (Float64.sub 0x3ff0000000000000 (hsvC c).1) c c' := hmo
          obtain ⟨hz, hf, hi, ⟨hB0, hE0⟩, ⟨hB1, hE1⟩, ⟨hB2, hE2⟩⟩ := hmo'
          simp only [hsvC, back] at hf hi hB0 hB1 hB2 hE0 hE1 hE2
          repeat' ((fail_if_success (with_reducible show wpAny _ _ (eval (Expr.ListComp _ _ _ _) _) _ _ _)); (first | (k_unfold; (try dsimp only)) | (with_reducible (first | (k_here; (with_reducible show wpAny _ _ (call (Value.ref 49) [Value.float _ _, Value.float _ _, Value.float _ _]) _ _ _); k_dflt (refine hsv_call2 (by k_asm) (by k_asm) (by k_asm) (by k_asm) (by k_asm) (by first | exact rfl | assumption) (by ktr_room) (by ktr_units) (by assumption) ?_; intro _ _ _ _ _ _ _ _ l9q; (try k_lt l9q); (try dsimp only); (try k_fold))) | (k_here; (with_reducible show wpAny _ _ (call (Value.ref 28) [Value.float _ _, Value.float _ _, Value.float _ _]) _ _ _); k_dflt (refine hls_call2 (by k_asm) (by k_asm) (by k_asm) (by k_asm) (by k_asm) (by first | exact rfl | assumption) (by ktr_room) (by ktr_units) (by assumption) ?_; intro _ _ _ _ _ _ _ _ l9q; (try k_lt l9q); (try dsimp only); (try k_fold))) | (k_here; (with_reducible show wpAny _ _ (call (Value.ref 35) [Value.float _ _, Value.float _ _, Value.float _ _]) _ _ _); k_dflt (refine ofhls_call2 (by k_asm) (by k_asm) (by k_asm) (by k_asm) (by k_asm) (by first | exact rfl | assumption) (by ktr_room) (by ktr_units) ?_; intro _ _ _ _ _ _ _ _ l9q; (try k_lt l9q); (try dsimp only); (try k_fold))) | (k_here; (with_reducible show wpAny _ _ (call (Value.ref 56) [Value.float _ _, Value.float _ _, Value.float _ _]) _ _ _); k_dflt (refine ofhsv_call2 (by k_asm) (by k_asm) (by k_asm) (by k_asm) (by k_asm) (by first | exact rfl | assumption) (by ktr_room) (by ktr_units) (by assumption) (by assumption) ?_; intro _ _ _ _ _ _ _ _ l9q; (try k_lt l9q); (try dsimp only); (try k_fold))))) | walk1 | (dsimp only; walk1)))
          rename Fr _ _ _ _ => F5
          rename News _ _ _ _ => N5
          refine ListComp_tup (cl := []) F5 rfl ?ka ?kb ?kc ?kd ?ke ?kf ?kg
          case ka => with_unfolding_all rfl
          case kb => decide
          case kc => rfl
          case kd => decide
          case ke => rfl
          case kg => intro _; rfl
          case kf =>
            walk1
            refine ⟨_, _, _, rfl, F5, N5, ⟨_, List.Mem.head _, rfl, _, rfl⟩, (by show 3 ≤ sizeLine; rw [sizeLine_eq]; decide), ?_⟩
            rintro s5 ⟨g5, rfl⟩
            refine rest_rel (fun i y => ∃ t, y = .int (part i c') t) ?_ ?_
            · intro i4 v4 I4 oI4 C4 oC4 D4 m4 ys4 h4 tk4 E4 hi4 hv4 hC4 hx4 F6 N6 off6
              have hi4' : i4 = 0 ∨ i4 = 1 ∨ i4 = 2 := by simp at hi4; omega
              rcases hi4' with rfl | rfl | rfl
              · simp at hv4; subst hv4; k_steps
                exact ⟨_, _, _, rfl, F6, N6, off6, ⟨_, by kcf_m, rfl, _, rfl⟩, rfl, _, congrArg (fun z => Value.int z _) hE0⟩
              · simp at hv4; subst hv4; k_steps
                exact ⟨_, _, _, rfl, F6, N6, off6, ⟨_, by kcf_m, rfl, _, rfl⟩, rfl, _, congrArg (fun z => Value.int z _) hE1⟩
              · simp at hv4; subst hv4; k_steps
                exact ⟨_, _, _, rfl, F6, N6, off6, ⟨_, by kcf_m, rfl, _, rfl⟩, rfl, _, congrArg (fun z => Value.int z _) hE2⟩
            · intro ys5 hl5 hR5
              obtain ⟨z0, z1, z2, rfl⟩ := three hl5
              obtain ⟨w0, hw0⟩ := hR5 0 _ rfl
              obtain ⟨w1, hw1⟩ := hR5 1 _ rfl
              obtain ⟨w2, hw2⟩ := hR5 2 _ rfl
              have hw0' : z0 = .int c'.1 w0 := hw0
              have hw1' : z1 = .int c'.2.1 w1 := hw1
              have hw2' : z2 = .int c'.2.2 w2 := hw2
              subst hw0' hw1' hw2'
              clear hw0 hw1 hw2 hR5 hl5
              intro D5 h5 tk5 F6 N6 off5
              repeat' ((fail_if_success (with_reducible show wpAny _ _ (call (Value.builtin "list.append") _) _ _ _)); (first | (k_unfold; (try dsimp only)) | (with_reducible (first | (k_here; (with_reducible show wpAny _ _ (call (Value.ref 49) [Value.float _ _, Value.float _ _, Value.float _ _]) _ _ _); k_dflt (refine hsv_call2 (by k_asm) (by k_asm) (by k_asm) (by k_asm) (by k_asm) (by first | exact rfl | assumption) (by ktr_room) (by ktr_units) (by assumption) ?_; intro _ _ _ _ _ _ _ _ l9q; (try k_lt l9q); (try dsimp only); (try k_fold))) | (k_here; (with_reducible show wpAny _ _ (call (Value.ref 28) [Value.float _ _, Value.float _ _, Value.float _ _]) _ _ _); k_dflt (refine hls_call2 (by k_asm) (by k_asm) (by k_asm) (by k_asm) (by k_asm) (by first | exact rfl | assumption) (by ktr_room) (by ktr_units) (by assumption) ?_; intro _ _ _ _ _ _ _ _ l9q; (try k_lt l9q); (try dsimp only); (try k_fold))) | (k_here; (with_reducible show wpAny _ _ (call (Value.ref 35) [Value.float _ _, Value.float _ _, Value.float _ _]) _ _ _); k_dflt (refine ofhls_call2 (by k_asm) (by k_asm) (by k_asm) (by k_asm) (by k_asm) (by first | exact rfl | assumption) (by ktr_room) (by ktr_units) ?_; intro _ _ _ _ _ _ _ _ l9q; (try k_lt l9q); (try dsimp only); (try k_fold))) | (k_here; (with_reducible show wpAny _ _ (call (Value.ref 56) [Value.float _ _, Value.float _ _, Value.float _ _]) _ _ _); k_dflt (refine ofhsv_call2 (by k_asm) (by k_asm) (by k_asm) (by k_asm) (by k_asm) (by first | exact rfl | assumption) (by ktr_room) (by ktr_units) (by assumption) (by assumption) ?_; intro _ _ _ _ _ _ _ _ l9q; (try k_lt l9q); (try dsimp only); (try k_fold))))) | walk1 | (dsimp only; walk1)))
              have off5r := off1_mem off5.2.2.2.2.2
              simp only [LCg.Off1] at off5 off3
              have hneI : I ≠ D := Ne.symm (offI (D, _) (List.Mem.head _))
              refine append_K F6 N6 (Upd.tail ?u1 (Upd.tail ?u2 (Upd.tail ?u3 (Upd.tail ?u4 (Upd.tail ?u5 (Upd.head offD)))))) ?_ ?hsz
              case u1 => k_ne
              case u2 => k_ne
              case u3 => k_ne
              case u4 => k_ne
              case u5 => exact hneI
              case hsz => rw [List.size_toArray, hcols.length, List.length_take, sizeLine_eq]; omega
              intro h7 F7 N7
              k_steps
              have epush : accs.toArray.push (Value.ref D5) = (accs ++ [Value.ref D5]).toArray := by simp
              rw [epush] at N7
              show TurnNext _ _ _ _ _ _ _
              refine ⟨_, _, _, (D, listOf (accs ++ [Value.ref D5]).toArray (k1 + 1)) :: ((D5, LCg.lst [Value.int c'.1 w0, Value.int c'.2.1 w1, Value.int c'.2.2 w2]) :: rest), rfl, F7, ?eN, ?eI, D, accs ++ [Value.ref D5], k1 + 1, (D5, LCg.lst [Value.int c'.1 w0, Value.int c'.2.1 w1, Value.int c'.2.2 w2]) :: tl, ?ee, ?eT, ?eD, ?eC, rfl, rfl⟩
              case eN =>
                intro p hp
                simp only [List.mem_cons] at hp
                rcases hp with rfl | rfl | rfl | hp
                · exact N7 _ (by kcf_m)
                · exact N7 _ (by kcf_m)
                · exact N7 _ (by kcf_m)
                · exact N7 _ (by kcf_m)
              case eI =>
                intro p hp
                simp only [List.mem_cons] at hp
                rcases hp with rfl | rfl | hp
                · exact Ne.symm hneI
                · exact Ne.symm off5.2.2.2.1
                · exact offI p (.tail _ hp)
              case ee => rw [List.cons_append, hrest]
              case eT =>
                intro p hp q hq
                rcases List.mem_cons.mp hp with rfl | hp
                · exact Ne.symm (off5r q (hrest ▸ List.mem_append.mpr (.inr hq)))
                · exact offT p hp q hq
              case eD =>
                rw [List.cons_append, hrest]
                intro p hp
                rcases List.mem_cons.mp hp with rfl | hp
                · exact Ne.symm off5.2.2.2.2.1
                · exact offD p hp
              case eC =>
                rw [List.cons_append, hrest, List.take_add_one, hc']
                exact Cols.snoc ⟨D5, w0, w1, w2, _, rfl, List.Mem.head _⟩ (hcols.mono fun p hp => .tail _ hp)
        · have hmo' : Ok2 c c' := hmo
          obtain ⟨hz, ⟨hB0, hE0⟩, ⟨hB1, hE1⟩, ⟨hB2, hE2⟩⟩ := hmo'
          simp only [hlsC, back] at hB0 hB1 hB2 hE0 hE1 hE2
          repeat' ((fail_if_success (with_reducible show wpAny _ _ (eval (Expr.ListComp _ _ _ _) _) _ _ _)); (first | (k_unfold; (try dsimp only)) | (with_reducible (first | (k_here; (with_reducible show wpAny _ _ (call (Value.ref 49) [Value.float _ _, Value.float _ _, Value.float _ _]) _ _ _); k_dflt (refine hsv_call2 (by k_asm) (by k_asm) (by k_asm) (by k_asm) (by k_asm) (by first | exact rfl | assumption) (by ktr_room) (by ktr_units) (by assumption) ?_; intro _ _ _ _ _ _ _ _ l9q; (try k_lt l9q); (try dsimp only); (try k_fold))) | (k_here; (with_reducible show wpAny _ _ (call (Value.ref 28) [Value.float _ _, Value.float _ _, Value.float _ _]) _ _ _); k_dflt (refine hls_call2 (by k_asm) (by k_asm) (by k_asm) (by k_asm) (by k_asm) (by first | exact rfl | assumption) (by ktr_room) (by ktr_units) (by assumption) ?_; intro _ _ _ _ _ _ _ _ l9q; (try k_lt l9q); (try dsimp only); (try k_fold))) | (k_here; (with_reducible show wpAny _ _ (call (Value.ref 35) [Value.float _ _, Value.float _ _, Value.float _ _]) _ _ _); k_dflt (refine ofhls_call2 (by k_asm) (by k_asm) (by k_asm) (by k_asm) (by k_asm) (by first | exact rfl | assumption) (by ktr_room) (by ktr_units) ?_; intro _ _ _ _ _ _ _ _ l9q; (try k_lt l9q); (try dsimp only); (try k_fold))) | (k_here; (with_reducible show wpAny _ _ (call (Value.ref 56) [Value.float _ _, Value.float _ _, Value.float _ _]) _ _ _); k_dflt (refine ofhsv_call2 (by k_asm) (by k_asm) (by k_asm) (by k_asm) (by k_asm) (by first | exact rfl | assumption) (by ktr_room) (by ktr_units) (by assumption) (by assumption) ?_; intro _ _ _ _ _ _ _ _ l9q; (try k_lt l9q); (try dsimp only); (try k_fold))))) | walk1 | (dsimp only; walk1)))
          rename Fr _ _ _ _ => F5
          rename News _ _ _ _ => N5
          refine ListComp_tup (cl := []) F5 rfl ?ka ?kb ?kc ?kd ?ke ?kf ?kg
          case ka => with_unfolding_all rfl
          case kb => decide
          case kc => rfl
          case kd => decide
          case ke => rfl
          case kg => intro _; rfl
          case kf =>
            walk1
            refine ⟨_, _, _, rfl, F5, N5, ⟨_, List.Mem.head _, rfl, _, rfl⟩, (by show 3 ≤ sizeLine; rw [sizeLine_eq]; decide), ?_⟩
            rintro s5 ⟨g5, rfl⟩
            refine rest_rel (fun i y => ∃ t, y = .int (part i c') t) ?_ ?_
            · intro i4 v4 I4 oI4 C4 oC4 D4 m4 ys4 h4 tk4 E4 hi4 hv4 hC4 hx4 F6 N6 off6
              have hi4' : i4 = 0 ∨ i4 = 1 ∨ i4 = 2 := by simp at hi4; omega
              rcases hi4' with rfl | rfl | rfl
              · simp at hv4; subst hv4; k_steps
                exact ⟨_, _, _, rfl, F6, N6, off6, ⟨_, by kcf_m, rfl, _, rfl⟩, rfl, _, congrArg (fun z => Value.int z _) hE0⟩
              · simp at hv4; subst hv4; k_steps
                exact ⟨_, _, _, rfl, F6, N6, off6, ⟨_, by kcf_m, rfl, _, rfl⟩, rfl, _, congrArg (fun z => Value.int z _) hE1⟩
              · simp at hv4; subst hv4; k_steps
                exact ⟨_, _, _, rfl, F6, N6, off6, ⟨_, by kcf_m, rfl, _, rfl⟩, rfl, _, congrArg (fun z => Value.int z _) hE2⟩
            · intro ys5 hl5 hR5
              obtain ⟨z0, z1, z2, rfl⟩ := three hl5
              obtain ⟨w0, hw0⟩ := hR5 0 _ rfl
              obtain ⟨w1, hw1⟩ := hR5 1 _ rfl
              obtain ⟨w2, hw2⟩ := hR5 2 _ rfl
              have hw0' : z0 = .int c'.1 w0 := hw0
              have hw1' : z1 = .int c'.2.1 w1 := hw1
              have hw2' : z2 = .int c'.2.2 w2 := hw2
              subst hw0' hw1' hw2'
              clear hw0 hw1 hw2 hR5 hl5
              intro D5 h5 tk5 F6 N6 off5
              repeat' ((fail_if_success (with_reducible show wpAny _ _ (call (Value.builtin "list.append") _) _ _ _)); (first | (k_unfold; (try dsimp only)) | (with_reducible (first | (k_here; (with_reducible show wpAny _ _ (call (Value.ref 49) [Value.float _ _, Value.float _ _, Value.float _ _]) _ _ _); k_dflt (refine hsv_call2 (by k_asm) (by k_asm) (by k_asm) (by k_asm) (by k_asm) (by first | exact rfl | assumption) (by ktr_room) (by ktr_units) (by assumption) ?_; intro _ _ _ _ _ _ _ _ l9q; (try k_lt l9q); (try dsimp only); (try k_fold))) | (k_here; (with_reducible show wpAny _ _ (call (Value.ref 28) [Value.float _ _, Value.float _ _, Value.float _ _]) _ _ _); k_dflt (refine hls_call2 (by k_asm) (by k_asm) (by k_asm) (by k_asm) (by k_asm) (by first | exact rfl | assumption) (by ktr_room) (by ktr_units) (by assumption) ?_; intro _ _ _ _ _ _ _ _ l9q; (try k_lt l9q); (try dsimp only); (try k_fold))) | (k_here; (with_reducible show wpAny _ _ (call (Value.ref 35) [Value.float _ _, Value.float _ _, Value.float _ _]) _ _ _); k_dflt (refine ofhls_call2 (by k_asm) (by k_asm) (by k_asm) (by k_asm) (by k_asm) (by first | exact rfl | assumption) (by ktr_room) (by ktr_units) ?_; intro _ _ _ _ _ _ _ _ l9q; (try k_lt l9q); (try dsimp only); (try k_fold))) | (k_here; (with_reducible show wpAny _ _ (call (Value.ref 56) [Value.float _ _, Value.float _ _, Value.float _ _]) _ _ _); k_dflt (refine ofhsv_call2 (by k_asm) (by k_asm) (by k_asm) (by k_asm) (by k_asm) (by first | exact rfl | assumption) (by ktr_room) (by ktr_units) (by assumption) (by assumption) ?_; intro _ _ _ _ _ _ _ _ l9q; (try k_lt l9q); (try dsimp only); (try k_fold))))) | walk1 | (dsimp only; walk1)))
              have off5r := off1_mem off5.2.2.2.2.2
              simp only [LCg.Off1] at off5 off3
              have hneI : I ≠ D := Ne.symm (offI (D, _) (List.Mem.head _))
              refine append_K F6 N6 (Upd.tail ?u1 (Upd.tail ?u2 (Upd.tail ?u3 (Upd.tail ?u4 (Upd.tail ?u5 (Upd.head offD)))))) ?_ ?hsz
              case u1 => k_ne
              case u2 => k_ne
              case u3 => k_ne
              case u4 => k_ne
              case u5 => exact hneI
              case hsz => rw [List.size_toArray, hcols.length, List.length_take, sizeLine_eq]; omega
              intro h7 F7 N7
              k_steps
              have epush : accs.toArray.push (Value.ref D5) = (accs ++ [Value.ref D5]).toArray := by simp
              rw [epush] at N7
              show TurnNext _ _ _ _ _ _ _
              refine ⟨_, _, _, (D, listOf (accs ++ [Value.ref D5]).toArray (k1 + 1)) :: ((D5, LCg.lst [Value.int c'.1 w0, Value.int c'.2.1 w1, Value.int c'.2.2 w2]) :: rest), rfl, F7, ?eN, ?eI, D, accs ++ [Value.ref D5], k1 + 1, (D5, LCg.lst [Value.int c'.1 w0, Value.int c'.2.1 w1, Value.int c'.2.2 w2]) :: tl, ?ee, ?eT, ?eD, ?eC, rfl, rfl⟩
              case eN =>
                intro p hp
                simp only [List.mem_cons] at hp
                rcases hp with rfl | rfl | rfl | hp
                · exact N7 _ (by kcf_m)
                · exact N7 _ (by kcf_m)
                · exact N7 _ (by kcf_m)
                · exact N7 _ (by kcf_m)
              case eI =>
                intro p hp
                simp only [List.mem_cons] at hp
                rcases hp with rfl | rfl | hp
                · exact Ne.symm hneI
                · exact Ne.symm off5.2.2.2.1
                · exact offI p (.tail _ hp)
              case ee => rw [List.cons_append, hrest]
              case eT =>
                intro p hp q hq
                rcases List.mem_cons.mp hp with rfl | hp
                · exact Ne.symm (off5r q (hrest ▸ List.mem_append.mpr (.inr hq)))
                · exact offT p hp q hq
              case eD =>
                rw [List.cons_append, hrest]
                intro p hp
                rcases List.mem_cons.mp hp with rfl | hp
                · exact Ne.symm off5.2.2.2.2.1
                · exact offD p hp
              case eC =>
                rw [List.cons_append, hrest, List.take_add_one, hc']
                exact Cols.snoc ⟨D5, w0, w1, w2, _, rfl, List.Mem.head _⟩ (hcols.mono fun p hp => .tail _ hp)
  case done =>
    intro m₁ news₁ h tk hJ F2 N2
    obtain ⟨D, accs, k1, tl, rfl, offT, offD, hcols, hm1, hm2⟩ := hJ
    rw [show m₁ = fun y => if y = Str.ofString "moved" then some (.ref D) else m₁ y from funext fun y => by by_cases e : y = Str.ofString "moved" <;> simp [e, hm1]] at F2
    clear F1 N1
    k_steps
    refine ret D accs k1 tl _ _ offT offD ?_ (by k_asm) (by k_asm)
    rwa [List.take_of_length_le (by rw [hl', ← hc.length]; exact Nat.le_refl _)] at hcols
end
end Mine
end
section
open PySem PySem.W PyProof.Rows
namespace Mine
def SrcPost (s : Shared) (h₀ : Heap) (L : Addr) (m : Str → Option Value) (v : Value) (s₁ : Shared) : Prop :=
  ∃ h tk l ys xs k, v = .ref l ∧ s₁ = { s with heap := h, toks := tk } ∧ Fr h₀ L h m ∧ News h₀ L h [(l, listOf ys.toArray k)] ∧ IntsAre ys xs ∧ 1 ≤ xs.length ∧ xs.length ≤ 5
theorem mod_bounds {xs : List Int} : ∀ x ∈ xs.map (fun x : Int => x.fmod 12288), 0 ≤ x ∧ x < 12288 := by
  intro x hx
  obtain ⟨y, _, rfl⟩ := List.mem_map.mp hx
  rw [Int.fmod_eq_emod_of_nonneg y (by decide)]
  omega
theorem src_cut {M : Model} {A : Around} {E : Value → Shared → Prop} {s : Shared} {h₀ : Heap} {L : Addr} {m : Str → Option Value} {t : Sem Value} {Q : Value → Shared → Prop} (_F0 : Fr h₀ L s.heap m) (h1 : wpAny M A t (SrcPost s h₀ L m) E s) (h2 : ∀ v s₁, SrcPost s h₀ L m v s₁ → Q v s₁) : wpAny M A t Q E s :=
  wpAny_mono h1 h2 fun _ _ e => e
def colOf (x : Int) : Col := ((x.fdiv 256).fmod 16, (x.fdiv 16).fmod 16, x.fmod 16)
def PicJ (base : List (Addr × Obj)) (row : List Int) (i : Nat) (ys : List Value) (nw : List (Addr × Obj)) : Prop :=
  ∃ tl, nw = tl ++ base ∧ Cols nw ys ((row.map colOf).take i)
theorem news_rot {h₀ h : Heap} {L : Addr} {a b c d : Addr × Obj} {nw : List (Addr × Obj)} (N : News h₀ L h (d :: a :: b :: c :: nw)) : News h₀ L h (a :: b :: c :: d :: nw) := by
  intro p hp
  refine N p ?_
  simp only [List.mem_cons] at hp ⊢
  rcases hp with h | h | h | h | h <;> simp only [h, true_or, or_true]
theorem plane_length (k : Nat) (cols : List Col) : (plane k cols).length = cols.length := by simp [plane]
theorem add_led {prog : Program} {w : World} {A : Around} {E : Value → Shared → Prop} {s : Shared} {h₀ : Heap} {L a b : Addr} {m : Str → Option Value} {news : List (Addr × Obj)} {vs ws : List Value} {ns ms : List Int} {n n' : Nat} {Q : Value → Shared → Prop}
    (F : Fr h₀ L s.heap m) (N : News h₀ L s.heap news) (ha : (a, listOf vs.toArray n) ∈ news) (hb : (b, listOf ws.toArray n') ∈ news) (hi : IntsAre vs ns) (hj : IntsAre ws ms) (hz : ns.length + ms.length < 1000)
    (h : ∀ D us h', Fr h₀ L h' m → News h₀ L h' ((D, listOf (List.toArray us) 0) :: news) → IntsAre us (ns ++ ms) → Q (.ref D) { s with heap := h' }) :
    wpAny (model prog w) A (binaryOp .Add (.ref a) (.ref b)) Q E s :=
  kmk_add_ints F N ⟨_, (N _ ha).1, rfl, _, rfl⟩ ⟨_, (N _ hb).1, rfl, _, rfl⟩ hi hj (fun D us h' F' N' _ hI => h D us h' F' N' hI) (by rw [sizeLine_eq]; omega)
end Mine
end
section
open PySem PySem.W PyProof.Rows
namespace Mine
def mvCol (k : Int) (c : Col) : Col := if k = 0 then (c.2.2, c.1, c.2.1) else if k = 1 then (c.1, c.2.2, c.2.1) else (15 - c.1, 15 - c.2.1, 15 - c.2.2)
def InB (c : Col) : Prop := (0 ≤ c.1 ∧ c.1 < 16) ∧ (0 ≤ c.2.1 ∧ c.2.1 < 16) ∧ (0 ≤ c.2.2 ∧ c.2.2 < 16)
def sums (k : Nat) (cols : List Col) : Int := mirr (lawSum (plane k cols))
theorem mvCol_in {k : Int} {c : Col} (hc : InB c) : InB (mvCol k c) := by
  obtain ⟨⟨a, b⟩, ⟨d, e⟩, f, g⟩ := hc
  unfold mvCol InB
  split
  · exact ⟨⟨f, g⟩, ⟨a, b⟩, d, e⟩
  · split
    · exact ⟨⟨a, b⟩, ⟨f, g⟩, d, e⟩
    · refine ⟨⟨?_, ?_⟩, ⟨?_, ?_⟩, ?_, ?_⟩ <;> simp only <;> omega
theorem colOf_in (x : Int) : InB (colOf x) := by
  unfold InB colOf
  simp only [Int.fmod_eq_emod_of_nonneg _ (by decide : (0:Int) ≤ 16)]
  refine ⟨⟨?_, ?_⟩, ⟨?_, ?_⟩, ?_, ?_⟩ <;> omega
theorem plane_mv0 (cols : List Col) : plane 0 (cols.map (mvCol 0)) = plane 2 cols ∧ plane 1 (cols.map (mvCol 0)) = plane 0 cols ∧ plane 2 (cols.map (mvCol 0)) = plane 1 cols := by
  refine ⟨?_, ?_, ?_⟩ <;> simp [plane, mvCol, part]
theorem plane_mv1 (cols : List Col) : plane 0 (cols.map (mvCol 1)) = plane 0 cols ∧ plane 1 (cols.map (mvCol 1)) = plane 2 cols ∧ plane 2 (cols.map (mvCol 1)) = plane 1 cols := by
  refine ⟨?_, ?_, ?_⟩ <;> simp [plane, mvCol, part]
end Mine
end
section
open PySem PySem.W PyProof.Rows
namespace Mine
theorem xor_and_add (a b : Nat) : (a ^^^ b) + 2 * (a &&& b) = a + b := by
  induction a using Nat.strongRecOn generalizing b with
  | ind a ih =>
    by_cases h0 : a = 0
    · subst h0; simp
    · have h1 := ih (a / 2) (by omega) (b / 2)
      have e1 : (a ^^^ b) / 2 = a / 2 ^^^ b / 2 := Nat.xor_div_two
      have e2 : (a &&& b) / 2 = a / 2 &&& b / 2 := Nat.and_div_two
      have e3 : (a ^^^ b) % 2 = (a % 2 + b % 2) % 2 := by
        have := Nat.xor_mod_two_pow (a := a) (b := b) (n := 1)
        simp only [Nat.pow_one] at this
        rw [this]
        rcases Nat.mod_two_eq_zero_or_one a with ha | ha <;> rcases Nat.mod_two_eq_zero_or_one b with hb | hb <;> rw [ha, hb] <;> rfl
      have e4 : (a &&& b) % 2 = (a % 2) * (b % 2) := by
        have := Nat.and_mod_two_pow (a := a) (b := b) (n := 1)
        simp only [Nat.pow_one] at this
        rw [this]
        rcases Nat.mod_two_eq_zero_or_one a with ha | ha <;> rcases Nat.mod_two_eq_zero_or_one b with hb | hb <;> rw [ha, hb] <;> rfl
      rcases Nat.mod_two_eq_zero_or_one a with ha | ha <;> rcases Nat.mod_two_eq_zero_or_one b with hb | hb <;> rw [ha, hb] at e3 e4 <;> omega
theorem bx (a b : Nat) : Builtin.bitXor (a : Int) (b : Int) = ((a ^^^ b : Nat) : Int) := by
  rw [bitXor_and]
  have h : Builtin.bitAnd (a : Int) (b : Int) = ((a &&& b : Nat) : Int) := by
    unfold Builtin.bitAnd
    simp
  rw [h]
  have := xor_and_add a b
  omega
end Mine
end
section
open PySem PySem.W PyProof.Rows
namespace Mine
namespace Crc
def PP : Nat := 4374732215
def XX (v : Nat) : Nat := (2 * v) ^^^ (if v.testBit 31 then PP else 0)
theorem two_mul_testBit (v j : Nat) : (2 * v).testBit (j + 1) = v.testBit j := by
  rw [Nat.testBit_succ]; congr 1; omega
theorem two_mul_testBit0 (v : Nat) : (2 * v).testBit 0 = false := by simp [Nat.testBit_zero]
theorem lt_of_bit {x n : Nat} (h : x < 2 ^ (n + 1)) (hb : x.testBit n = false) : x < 2 ^ n := by
  apply Nat.lt_pow_two_of_testBit
  intro i hi
  by_cases e : i = n
  · rw [e]; exact hb
  · exact Nat.testBit_lt_two_pow (Nat.lt_of_lt_of_le h (Nat.pow_le_pow_right (by decide) (by omega)))
theorem XX_lt {v : Nat} (h : v < 2 ^ 32) : XX v < 2 ^ 32 := by
  unfold XX
  refine lt_of_bit (Nat.xor_lt_two_pow (by omega) (by split <;> decide)) ?_
  rw [Nat.testBit_xor, two_mul_testBit]
  split
  · rename_i e; rw [e]; decide
  · rename_i e; simp at e; rw [e]; simp
theorem ite_xor (p q : Bool) : (if (p ^^ q) then PP else 0) = (if p then PP else 0) ^^^ (if q then PP else 0) := by
  cases p <;> cases q <;> simp
theorem two_mul_xor (a b : Nat) : 2 * (a ^^^ b) = (2 * a) ^^^ (2 * b) := by
  apply Nat.eq_of_testBit_eq
  intro i
  cases i with
  | zero => rw [Nat.testBit_xor, two_mul_testBit0, two_mul_testBit0, two_mul_testBit0]; rfl
  | succ i => rw [Nat.testBit_xor, two_mul_testBit, two_mul_testBit, two_mul_testBit, Nat.testBit_xor]
theorem xor4 (a b c d : Nat) : (a ^^^ b) ^^^ (c ^^^ d) = (a ^^^ c) ^^^ (b ^^^ d) := by
  rw [Nat.xor_assoc, Nat.xor_assoc, ← Nat.xor_assoc b, ← Nat.xor_assoc c, Nat.xor_comm b c]
theorem XX_xor (a b : Nat) : XX (a ^^^ b) = XX a ^^^ XX b := by
  unfold XX
  rw [two_mul_xor, Nat.testBit_xor, ite_xor, xor4]
def RR : Nat → Nat → Nat
  | 0, _ => 0
  | m + 1, n => XX (RR m (n / 2)) ^^^ (n % 2)
theorem RR_lt : ∀ m n, RR m n < 2 ^ 32
  | 0, _ => Nat.two_pow_pos 32
  | m + 1, n => Nat.xor_lt_two_pow (XX_lt (RR_lt m _)) (by omega)
theorem mod_two_xor (a b : Nat) : (a ^^^ b) % 2 = (a % 2) ^^^ (b % 2) := by
  have := Nat.xor_mod_two_pow (a := a) (b := b) (n := 1)
  simpa only [Nat.pow_one] using this
theorem RR_xor : ∀ m a b, RR m (a ^^^ b) = RR m a ^^^ RR m b
  | 0, _, _ => (Nat.xor_self 0).symm
  | m + 1, a, b => by
    show XX (RR m ((a ^^^ b) / 2)) ^^^ ((a ^^^ b) % 2) = (XX (RR m (a / 2)) ^^^ (a % 2)) ^^^ (XX (RR m (b / 2)) ^^^ (b % 2))
    rw [Nat.xor_div_two, RR_xor m, XX_xor, mod_two_xor, xor4]
theorem two_mul_xor_mod (n : Nat) : (2 * (n / 2)) ^^^ (n % 2) = n := by
  apply Nat.eq_of_testBit_eq
  intro i
  rw [Nat.testBit_xor]
  cases i with
  | zero => rw [two_mul_testBit0]; simp [Nat.testBit_zero]
  | succ i =>
    rw [two_mul_testBit, Nat.testBit_succ, Nat.testBit_succ, show n % 2 / 2 = 0 by omega]
    simp
theorem RR_small : ∀ m n, n < 2 ^ m → n < 2 ^ 32 → RR m n = n
  | 0, n, h, _ => by simp at h; subst h; rfl
  | m + 1, n, h, h' => by
    have h2 : n / 2 < 2 ^ m := by rw [Nat.pow_succ] at h; omega
    show XX (RR m (n / 2)) ^^^ (n % 2) = n
    rw [RR_small m (n / 2) h2 (by omega)]
    have hb : (n / 2).testBit 31 = false := Nat.testBit_lt_two_pow (by omega)
    unfold XX
    rw [hb]
    simp only [Bool.false_eq_true, if_false, Nat.xor_zero]
    exact two_mul_xor_mod n
theorem RR_two (m n : Nat) : RR (m + 1) (2 * n) = XX (RR m n) := by
  show XX (RR m (2 * n / 2)) ^^^ (2 * n % 2) = _
  rw [show 2 * n / 2 = n by omega, show 2 * n % 2 = 0 by omega, Nat.xor_zero]
def XXk : Nat → Nat → Nat
  | 0, v => v
  | k + 1, v => XX (XXk k v)
theorem RR_pow (m n : Nat) : ∀ k, RR (m + k) (n * 2 ^ k) = XXk k (RR m n)
  | 0 => by simp [XXk]
  | k + 1 => by
    rw [show n * 2 ^ (k + 1) = 2 * (n * 2 ^ k) by rw [Nat.pow_succ]; ac_rfl, ← Nat.add_assoc, RR_two, RR_pow m n k]; rfl
theorem XXk_zero : ∀ k, XXk k 0 = 0
  | 0 => rfl
  | k + 1 => by show XX (XXk k 0) = 0; rw [XXk_zero k]; decide
theorem XXk_lt : ∀ k {v}, v < 2 ^ 32 → XXk k v < 2 ^ 32
  | 0, _, h => h
  | k + 1, _, h => XX_lt (XXk_lt k h)
theorem XXk_xor : ∀ k a b, XXk k (a ^^^ b) = XXk k a ^^^ XXk k b
  | 0, _, _ => rfl
  | k + 1, a, b => by show XX (XXk k (a ^^^ b)) = _; rw [XXk_xor k, XX_xor]; rfl
theorem XXk_add : ∀ j k v, XXk (j + k) v = XXk j (XXk k v)
  | 0, k, v => by rw [Nat.zero_add]; rfl
  | j + 1, k, v => by rw [Nat.succ_add]; show XX (XXk (j + k) v) = XX (XXk j (XXk k v)); rw [XXk_add j]
theorem RR_PP (m k : Nat) : RR (m + 33 + k) (PP * 2 ^ k) = 0 := by
  have h : ∀ m, RR (m + 33) PP = 0 := by
    intro m
    have h33 : RR 33 PP = 0 := by decide +kernel
    induction m with
    | zero => exact h33
    | succ m ih =>
      have key : ∀ j n, n < 2 ^ j → RR (j + 1) n = RR j n := by
        intro j
        induction j with
        | zero => intro n hn; simp at hn; subst hn; decide
        | succ j ihj =>
          intro n hn
          show XX (RR (j + 1) (n / 2)) ^^^ (n % 2) = XX (RR j (n / 2)) ^^^ (n % 2)
          rw [ihj (n / 2) (by rw [Nat.pow_succ] at hn; omega)]
      rw [show m + 1 + 33 = (m + 33) + 1 by omega, key (m + 33) PP (Nat.lt_of_lt_of_le (by decide : PP < 2 ^ 33) (Nat.pow_le_pow_right (by decide) (by omega))), ih]
  rw [RR_pow, h, XXk_zero]
def stepR (r k : Nat) : Nat := if 2 ^ (k + 32) ≤ r then r ^^^ (PP * 2 ^ k) else r
theorem PPk_bit (k : Nat) : (PP * 2 ^ k).testBit (k + 32) = true := by
  rw [Nat.testBit_mul_two_pow]; simp; decide
theorem PPk_lt (k : Nat) : PP * 2 ^ k < 2 ^ (k + 33) := by
  rw [Nat.pow_add, Nat.mul_comm]
  exact Nat.mul_lt_mul_of_pos_left (by decide) (Nat.two_pow_pos k)
theorem bit_of_ge {x n : Nat} (h : x < 2 ^ (n + 1)) (h' : 2 ^ n ≤ x) : x.testBit n = true := by
  cases e : x.testBit n
  · exact absurd (lt_of_bit h e) (by omega)
  · rfl
theorem stepR_lt {r k : Nat} (h : r < 2 ^ (k + 33)) : stepR r k < 2 ^ (k + 32) := by
  unfold stepR
  split
  · rename_i h'
    refine lt_of_bit (Nat.xor_lt_two_pow h (PPk_lt k)) ?_
    rw [Nat.testBit_xor, bit_of_ge h h', PPk_bit]; rfl
  · omega
theorem stepR_RR {r k M : Nat} (hM : k + 33 ≤ M) : RR M (stepR r k) = RR M r := by
  unfold stepR
  split
  · rw [RR_xor]
    obtain ⟨d, rfl⟩ : ∃ d, M = d + 33 + k := ⟨M - 33 - k, by omega⟩
    rw [RR_PP, Nat.xor_zero]
  · rfl
def restN : Nat → Nat → Nat
  | r, 0 => stepR r 0
  | r, k + 1 => restN (stepR r (k + 1)) k
theorem restN_eq : ∀ k r M, r < 2 ^ (k + 33) → k + 33 ≤ M → restN r k = RR M r
  | 0, r, M, h, hM => by
    rw [restN]
    have h2 : stepR r 0 < 2 ^ 32 := stepR_lt h
    rw [← stepR_RR (r := r) hM, RR_small M _ (Nat.lt_of_lt_of_le h2 (Nat.pow_le_pow_right (by decide) (by omega))) h2]
  | k + 1, r, M, h, hM => by
    rw [restN]
    rw [restN_eq k _ M (stepR_lt h) (by omega), stepR_RR hM]
end Crc
end Mine
end
section
open PySem PySem.W PyProof.Rows
namespace Mine
namespace Crc
def HH : Nat → Nat → Nat
  | 0, _ => 0
  | m + 1, n => 2 * HH m n + n / 2 ^ m % 2
theorem HH_bit : ∀ m n j, (HH m n).testBit j = (decide (j < m) && n.testBit (m - 1 - j))
  | 0, n, j => by simp [HH]
  | m + 1, n, 0 => by
    rw [HH, Nat.testBit_zero]
    have h : (2 * HH m n + n / 2 ^ m % 2) % 2 = n / 2 ^ m % 2 := by omega
    rw [h]
    simp only [Nat.zero_lt_succ, decide_true, Bool.true_and]
    rw [Nat.testBit_eq_decide_div_mod_eq]
    simp
  | m + 1, n, j + 1 => by
    rw [HH, Nat.testBit_succ, show (2 * HH m n + n / 2 ^ m % 2) / 2 = HH m n by omega, HH_bit m n j]
    by_cases h : j < m
    · simp only [h, decide_true, Bool.true_and, show j + 1 < m + 1 by omega]
      congr 1; omega
    · simp only [h, decide_false, Bool.false_and, show ¬ j + 1 < m + 1 by omega]
def rev (n : Nat) : Nat := HH 32 n
theorem rev_bit (n j : Nat) : (rev n).testBit j = (decide (j < 32) && n.testBit (31 - j)) := HH_bit 32 n j
theorem rev_lt (n : Nat) : rev n < 2 ^ 32 := by
  apply Nat.lt_pow_two_of_testBit
  intro i hi
  rw [rev_bit]
  simp [show ¬ i < 32 by omega]
theorem rev_xor (a b : Nat) : rev (a ^^^ b) = rev a ^^^ rev b := by
  apply Nat.eq_of_testBit_eq
  intro i
  rw [Nat.testBit_xor, rev_bit, rev_bit, rev_bit, Nat.testBit_xor]
  cases decide (i < 32) <;> simp
def POLY : Nat := 3988292384
def stepN (c : Nat) : Nat := (c / 2) ^^^ (if c.testBit 0 then POLY else 0)
theorem stepN_lt {c : Nat} (h : c < 2 ^ 32) : stepN c < 2 ^ 32 := Nat.xor_lt_two_pow (by omega) (by split <;> decide)
theorem poly_bits : ∀ j, j < 32 → POLY.testBit (31 - j) = PP.testBit j := by decide +kernel
theorem ite_bit (b : Bool) (x j : Nat) : (if b then x else 0).testBit j = (b && x.testBit j) := by cases b <;> simp
theorem rev_step {c : Nat} (h : c < 2 ^ 32) : rev (stepN c) = XX (rev c) := by
  apply Nat.eq_of_testBit_eq
  intro j
  unfold XX stepN
  rw [rev_bit, Nat.testBit_xor, Nat.testBit_xor, ite_bit, ite_bit, rev_bit c 31, ← Nat.testBit_succ]
  simp only [show (31 : Nat) < 32 by decide, decide_true, Bool.true_and, Nat.sub_self]
  cases j with
  | zero =>
    rw [two_mul_testBit0, Nat.testBit_lt_two_pow (x := c) (i := 31 - 0 + 1) h]
    rw [poly_bits 0 (by decide)]
    simp
  | succ j =>
    rw [two_mul_testBit, rev_bit]
    by_cases h1 : j + 1 < 32
    · rw [poly_bits (j + 1) h1]
      simp only [h1, show j < 32 by omega, decide_true, Bool.true_and]
      rw [show (31 - (j + 1)).succ = 31 - j by omega]
    · simp only [h1, decide_false, Bool.false_and]
      by_cases h2 : j = 31
      · subst h2
        simp only [show (31 : Nat) < 32 by decide, decide_true, Bool.true_and, Nat.sub_self]
        rw [show PP.testBit (31 + 1) = true by decide]
        simp
      · simp only [show ¬ j < 32 by omega, decide_false, Bool.false_and]
        rw [show PP.testBit (j + 1) = false from Nat.testBit_lt_two_pow (Nat.lt_of_lt_of_le (by decide : PP < 2 ^ 33) (Nat.pow_le_pow_right (by decide) (by omega)))]
        simp
def genN (c : Nat) : Nat := stepN (stepN (stepN (stepN (stepN (stepN (stepN (stepN c)))))))
theorem genN_lt {c : Nat} (h : c < 2 ^ 32) : genN c < 2 ^ 32 := stepN_lt (stepN_lt (stepN_lt (stepN_lt (stepN_lt (stepN_lt (stepN_lt (stepN_lt h)))))))
theorem rev_gen {c : Nat} (h : c < 2 ^ 32) : rev (genN c) = XXk 8 (rev c) := by
  have h1 := stepN_lt h
  have h2 := stepN_lt h1
  have h3 := stepN_lt h2
  have h4 := stepN_lt h3
  have h5 := stepN_lt h4
  have h6 := stepN_lt h5
  have h7 := stepN_lt h6
  unfold genN
  rw [rev_step h7, rev_step h6, rev_step h5, rev_step h4, rev_step h3, rev_step h2, rev_step h1, rev_step h]
  rfl
def JJ : Nat := 4294967295
def foldN (r : Nat) (os : List Nat) : Nat := os.foldl (fun r o => genN (r ^^^ o)) r
def sumN (os : List Nat) : Nat := foldN JJ os ^^^ JJ
def VV (v : Nat) (os : List Nat) : Nat := os.foldl (fun v o => XXk 8 (v ^^^ rev o)) v
theorem rev_fold : ∀ (os : List Nat) (r : Nat), r < 2 ^ 32 → (∀ o ∈ os, o < 256) → rev (foldN r os) = VV (rev r) os
  | [], _, _, _ => rfl
  | o :: os, r, hr, ho => by
    have h1 : r ^^^ o < 2 ^ 32 := Nat.xor_lt_two_pow hr (Nat.lt_of_lt_of_le (ho o (by simp)) (by decide))
    show rev (foldN (genN (r ^^^ o)) os) = VV (XXk 8 (rev r ^^^ rev o)) os
    rw [rev_fold os _ (genN_lt h1) (fun p hp => ho p (by simp [hp])), rev_gen h1, rev_xor]
theorem rev_JJ : rev JJ = JJ := by decide +kernel
theorem rev_sum {os : List Nat} (ho : ∀ o ∈ os, o < 256) : rev (sumN os) = VV JJ os ^^^ JJ := by
  unfold sumN
  rw [rev_xor, rev_fold os JJ (by decide) ho, rev_JJ]
theorem VV_lin : ∀ (os : List Nat) (v w : Nat), VV (v ^^^ w) os = XXk (8 * os.length) v ^^^ VV w os
  | [], _, _ => rfl
  | o :: os, v, w => by
    show VV (XXk 8 (v ^^^ w ^^^ rev o)) os = _ ^^^ VV (XXk 8 (w ^^^ rev o)) os
    rw [Nat.xor_assoc, XXk_xor, VV_lin os, ← XXk_add, List.length_cons, Nat.mul_succ]
theorem VV_split (os : List Nat) (v : Nat) : VV v os = XXk (8 * os.length) v ^^^ VV 0 os := by
  have := VV_lin os v 0
  rwa [Nat.xor_zero] at this
theorem VV_neg : ∀ (os : List Nat) (v w : Nat), VV (v ^^^ w) (os.map fun o => o ^^^ 255) = VV v os ^^^ VV w (List.replicate os.length 255)
  | [], _, _ => rfl
  | o :: os, v, w => by
    show VV (XXk 8 ((v ^^^ w) ^^^ rev (o ^^^ 255))) (os.map fun o => o ^^^ 255) = VV (XXk 8 (v ^^^ rev o)) os ^^^ VV (XXk 8 (w ^^^ rev 255)) (List.replicate os.length 255)
    rw [rev_xor, xor4, XXk_xor, VV_neg os]
theorem VV_app (v : Nat) (a b : List Nat) : VV v (a ++ b) = VV (VV v a) b := List.foldl_append
theorem VV_lt : ∀ (os : List Nat) {v : Nat}, v < 2 ^ 32 → VV v os < 2 ^ 32
  | [], _, h => h
  | _ :: os, _, h => VV_lt os (XXk_lt 8 (Nat.xor_lt_two_pow h (rev_lt _)))
theorem join_alg {n : Nat} {a b c : List Nat} (hb : b.length = n) (hc : c.length = n) :
    XXk (8 * n) (XXk (8 * n) (VV JJ a ^^^ JJ)) ^^^ XXk (8 * n) (VV JJ b ^^^ JJ) ^^^ (VV JJ c ^^^ JJ) = VV JJ (a ++ b ++ c) ^^^ JJ := by
  rw [VV_app, VV_app, VV_split c (VV _ b), VV_split b (VV JJ a), VV_split b JJ, VV_split c JJ, hb, hc]
  simp only [XXk_xor]
  generalize XXk (8 * n) (XXk (8 * n) (VV JJ a)) = p
  generalize XXk (8 * n) (XXk (8 * n) JJ) = q
  generalize XXk (8 * n) (VV 0 b) = r
  generalize XXk (8 * n) JJ = t
  generalize VV 0 c = u
  apply Nat.eq_of_testBit_eq
  intro i
  simp only [Nat.testBit_xor]
  cases p.testBit i <;> cases q.testBit i <;> cases r.testBit i <;> cases t.testBit i <;> cases u.testBit i <;> cases JJ.testBit i <;> rfl
theorem mul_pow_lt {c n m : Nat} (h : c < 2 ^ 32) (hm : n + 32 ≤ m) : c * 2 ^ n < 2 ^ m := by
  have h1 : c * 2 ^ n < 2 ^ 32 * 2 ^ n := Nat.mul_lt_mul_of_pos_right h (Nat.two_pow_pos n)
  rw [← Nat.pow_add] at h1
  exact Nat.lt_of_lt_of_le h1 (Nat.pow_le_pow_right (by decide) (by omega))
theorem RR_low {M c : Nat} (h : c < 2 ^ 32) (hM : 32 ≤ M) : RR M c = c := RR_small M c (Nat.lt_of_lt_of_le h (Nat.pow_le_pow_right (by decide) hM)) h
theorem join_rest {n c0 c1 c2 : Nat} (h0 : c0 < 2 ^ 32) (h1 : c1 < 2 ^ 32) (h2 : c2 < 2 ^ 32) :
    restN (c0 * 2 ^ (2 * (8 * n)) ^^^ c1 * 2 ^ (8 * n) ^^^ c2) (2 * (8 * n)) = XXk (8 * n) (XXk (8 * n) c0) ^^^ XXk (8 * n) c1 ^^^ c2 := by
  rw [restN_eq (2 * (8 * n)) _ (33 + 2 * (8 * n)) (Nat.xor_lt_two_pow (Nat.xor_lt_two_pow (mul_pow_lt h0 (by omega)) (mul_pow_lt h1 (by omega))) (Nat.lt_of_lt_of_le h2 (Nat.pow_le_pow_right (by decide) (by omega)))) (by omega)]
  rw [RR_xor, RR_xor, RR_pow, RR_low h0 (by decide), RR_low h2 (by omega)]
  rw [show 33 + 2 * (8 * n) = (33 + 8 * n) + 8 * n by omega, RR_pow, RR_low h1 (by omega), show 2 * (8 * n) = 8 * n + 8 * n by omega, XXk_add]
end Crc
end Mine
end
section
open PySem PySem.W PyProof.Rows
namespace Mine
open Crc
theorem step_cast (c : Nat) : (if ¬Builtin.bitAnd (c : Int) 1 = 0 then Builtin.bitXor ((c : Int).fdiv (2 ^ Int.toNat 1)) 3988292384 else (c : Int).fdiv (2 ^ Int.toNat 1)) = ((stepN c : Nat) : Int) := by
  have e1 : (c : Int).fdiv (2 ^ Int.toNat 1) = ((c / 2 : Nat) : Int) := by
    rw [show ((2 : Int) ^ Int.toNat 1) = 2 from rfl, fdiv_eq _ (by decide)]; omega
  rw [e1, bitAnd_m1, show (3988292384 : Int) = ((POLY : Nat) : Int) from rfl, bx]
  unfold stepN
  rw [Nat.testBit_zero]
  by_cases h : c % 2 = 1
  · rw [if_pos (by omega)]
    simp [h]
  · rw [if_neg (by omega)]
    simp [h]
theorem gen_cast (c : Nat) : genCrc (c : Int) = ((genN c : Nat) : Int) := by
  unfold genCrc genN
  rw [show rangeKs 0 ((8 : Int) - 0).toNat = [0, 1, 2, 3, 4, 5, 6, 7] from by decide]
  simp only [List.foldl_cons, List.foldl_nil, step_cast]
theorem fold_cast : ∀ (os : List Nat) (r : Nat), (os.map fun o : Nat => (o : Int)).foldl (fun r o => genCrc (Builtin.bitXor r o)) (r : Int) = ((foldN r os : Nat) : Int)
  | [], _ => rfl
  | o :: os, r => by
    simp only [List.map_cons, List.foldl_cons]
    rw [bx, gen_cast, fold_cast os]
    rfl
theorem sum_cast (os : List Nat) : lawSum (os.map fun o : Nat => (o : Int)) = ((sumN os : Nat) : Int) := by
  unfold lawSum sumN
  rw [show (4294967295 : Int) = ((JJ : Nat) : Int) from rfl, fold_cast, bx]
theorem mirr_part (n : Nat) : ∀ m, m ≤ 32 → ((rangeKs 0 m).map (fun k' : Int => ((n : Int).fdiv (2 ^ k'.toNat)).fmod 2 * 2 ^ (31 - k').toNat)).sum = ((HH m n * 2 ^ (32 - m) : Nat) : Int)
  | 0, _ => by simp [rangeKs, HH]
  | m + 1, h => by
    have e : rangeKs 0 (m + 1) = rangeKs 0 m ++ [(m : Int)] := by simp [rangeKs, List.range_succ]
    rw [e, List.map_append, List.sum_append, mirr_part n m (by omega)]
    simp only [List.map_cons, List.map_nil, List.sum_cons, List.sum_nil, Int.add_zero, Int.toNat_natCast]
    have e1 : (n : Int).fdiv (2 ^ m) = ((n / 2 ^ m : Nat) : Int) := by
      rw [fdiv_eq _ (Int.pow_pos (by decide))]
      push_cast
      rfl
    have e2 : (((n / 2 ^ m : Nat) : Int)).fmod 2 = ((n / 2 ^ m % 2 : Nat) : Int) := by
      rw [Int.fmod_eq_emod_of_nonneg _ (by decide)]; omega
    have e3 : (31 - (m : Int)).toNat = 31 - m := by omega
    rw [e1, e2, e3, HH]
    have e4 : 32 - m = (31 - m) + 1 := by omega
    have e5 : 32 - (m + 1) = 31 - m := by omega
    rw [e4, e5, Nat.pow_succ]
    push_cast
    rw [Int.add_mul]
    congr 1
    rw [Int.mul_comm 2 (HH m n : Int), Int.mul_assoc, Int.mul_comm ((2:Int) ^ (31 - m)) 2]
theorem mirr_cast (n : Nat) : mirr (n : Int) = ((rev n : Nat) : Int) := by
  unfold mirr rev
  have := mirr_part n 32 (Nat.le_refl _)
  simpa using this
theorem restStep_cast (r k : Nat) : restStep (r : Int) (k : Int) = ((stepR r k : Nat) : Int) := by
  unfold restStep stepR
  have e1 : ((k : Int) + 32).toNat = k + 32 := by omega
  have e2 : divI * 2 ^ (k : Int).toNat = ((PP * 2 ^ k : Nat) : Int) := by
    rw [show divI = ((PP : Nat) : Int) by decide, Int.toNat_natCast]; push_cast; rfl
  rw [e1, e2, bx]
  have e3 : ((2 : Int) ^ (k + 32) ≤ (r : Int)) ↔ (2 ^ (k + 32) ≤ r) := by
    rw [show ((2 : Int) ^ (k + 32)) = ((2 ^ (k + 32) : Nat) : Int) by push_cast; rfl]
    exact Int.ofNat_le
  by_cases h : 2 ^ (k + 32) ≤ r
  · rw [if_pos h, if_pos (e3.mpr h)]
  · rw [if_neg h, if_neg (fun x => h (e3.mp x))]
theorem rest_cast : ∀ (top r : Nat), lawRest (r : Int) (top : Int) = ((restN r top : Nat) : Int)
  | 0, r => by
    unfold lawRest
    rw [show downKs ((0 : Nat) : Int) (((0 : Nat) : Int) - -1).toNat = [((0 : Nat) : Int)] from by decide]
    simp only [List.foldl_cons, List.foldl_nil]
    rw [restStep_cast, restN]
  | top + 1, r => by
    have e : downKs ((top + 1 : Nat) : Int) (((top + 1 : Nat) : Int) - -1).toNat = ((top + 1 : Nat) : Int) :: downKs (top : Int) ((top : Int) - -1).toNat := by
      rw [show (((top + 1 : Nat) : Int) - -1).toNat = (top + 1) + 1 by omega, show ((top : Int) - -1).toNat = top + 1 by omega]
      unfold downKs
      rw [List.range_succ_eq_map, List.map_cons, List.map_map]
      congr 1
      apply List.map_congr_left
      intro i _
      simp only [Function.comp]
      omega
    have ih := rest_cast top (stepR r (top + 1))
    unfold lawRest at ih ⊢
    rw [e, List.foldl_cons, restStep_cast, ih, restN]
end Mine
end
section
open PySem PySem.W PyProof.Rows
namespace Mine
open Crc
def planeN (k : Nat) (cols : List Col) : List Nat := (plane k cols).map Int.toNat
theorem part_in (k : Nat) {c : Col} (h : InB c) : 0 ≤ part k c ∧ part k c < 16 := by
  obtain ⟨h1, h2, h3⟩ := h
  unfold part
  split
  · exact h1
  · split
    · exact h2
    · exact h3
theorem plane_cast (k : Nat) {cols : List Col} (hb : ∀ c ∈ cols, InB c) : plane k cols = (planeN k cols).map (fun o : Nat => (o : Int)) := by
  unfold planeN plane
  rw [List.map_map, List.map_map]
  apply List.map_congr_left
  intro c hc
  have := part_in k (hb c hc)
  simp only [Function.comp]
  omega
theorem planeN_lt (k : Nat) {cols : List Col} (hb : ∀ c ∈ cols, InB c) : ∀ o ∈ planeN k cols, o < 256 := by
  intro o ho
  unfold planeN plane at ho
  rw [List.map_map] at ho
  obtain ⟨c, hc, rfl⟩ := List.mem_map.mp ho
  have := part_in k (hb c hc)
  simp only [Function.comp]
  omega
theorem planeN_length (k : Nat) (cols : List Col) : (planeN k cols).length = cols.length := by simp [planeN, plane]
theorem sums_cast (k : Nat) {cols : List Col} (hb : ∀ c ∈ cols, InB c) : sums k cols = ((rev (sumN (planeN k cols)) : Nat) : Int) := by
  unfold sums
  rw [plane_cast k hb, sum_cast, mirr_cast]
theorem pow_cast (c e : Nat) : (c : Int) * 2 ^ e = ((c * 2 ^ e : Nat) : Int) := by push_cast; rfl
theorem crc_join {cols : List Col} {n : Nat} (hn : cols.length = n) (hb : ∀ c ∈ cols, InB c) :
    lawRest (Builtin.bitXor (Builtin.bitXor (sums 0 cols * 2 ^ (2 * (8 * (n : Int))).toNat) (sums 1 cols * 2 ^ (8 * (n : Int)).toNat)) (sums 2 cols)) (2 * (8 * (n : Int))) = mirr (lawSum (plane 0 cols ++ plane 1 cols ++ plane 2 cols)) := by
  rw [sums_cast 0 hb, sums_cast 1 hb, sums_cast 2 hb]
  rw [show (2 * (8 * (n : Int))).toNat = 2 * (8 * n) by omega, show (8 * (n : Int)).toNat = 8 * n by omega]
  rw [pow_cast, pow_cast, bx, bx, show (2 * (8 * (n : Int))) = ((2 * (8 * n) : Nat) : Int) by omega, rest_cast, join_rest (rev_lt _) (rev_lt _) (rev_lt _)]
  rw [rev_sum (planeN_lt 0 hb), rev_sum (planeN_lt 1 hb), rev_sum (planeN_lt 2 hb)]
  rw [join_alg (by rw [planeN_length, hn]) (by rw [planeN_length, hn])]
  rw [plane_cast 0 hb, plane_cast 1 hb, plane_cast 2 hb, ← List.map_append, ← List.map_append, sum_cast, mirr_cast, rev_sum]
  intro o ho
  rcases List.mem_append.mp ho with h | h
  · rcases List.mem_append.mp h with h | h
    · exact planeN_lt 0 hb o h
    · exact planeN_lt 1 hb o h
  · exact planeN_lt 2 hb o h
theorem ones1 : lawRest ((2 ^ (8 * ((1 : Nat) : Int)).toNat - 1) * 2 ^ Int.toNat 32) (8 * ((1 : Nat) : Int)) = ((VV 0 (List.replicate 1 255) : Nat) : Int) := by decide +kernel
theorem ones2 : lawRest ((2 ^ (8 * ((2 : Nat) : Int)).toNat - 1) * 2 ^ Int.toNat 32) (8 * ((2 : Nat) : Int)) = ((VV 0 (List.replicate 2 255) : Nat) : Int) := by decide +kernel
theorem ones3 : lawRest ((2 ^ (8 * ((3 : Nat) : Int)).toNat - 1) * 2 ^ Int.toNat 32) (8 * ((3 : Nat) : Int)) = ((VV 0 (List.replicate 3 255) : Nat) : Int) := by decide +kernel
theorem ones4 : lawRest ((2 ^ (8 * ((4 : Nat) : Int)).toNat - 1) * 2 ^ Int.toNat 32) (8 * ((4 : Nat) : Int)) = ((VV 0 (List.replicate 4 255) : Nat) : Int) := by decide +kernel
theorem ones5 : lawRest ((2 ^ (8 * ((5 : Nat) : Int)).toNat - 1) * 2 ^ Int.toNat 32) (8 * ((5 : Nat) : Int)) = ((VV 0 (List.replicate 5 255) : Nat) : Int) := by decide +kernel
theorem onesN {n : Nat} (h1 : 1 ≤ n) (h5 : n ≤ 5) : lawRest ((2 ^ (8 * (n : Int)).toNat - 1) * 2 ^ Int.toNat 32) (8 * (n : Int)) = ((VV 0 (List.replicate n 255) : Nat) : Int) := by
  rcases (by omega : n = 1 ∨ n = 2 ∨ n = 3 ∨ n = 4 ∨ n = 5) with rfl | rfl | rfl | rfl | rfl
  · exact ones1
  · exact ones2
  · exact ones3
  · exact ones4
  · exact ones5
theorem neg_byte : ∀ p : Nat, p < 16 → 17 * (15 - p) = (17 * p) ^^^ 255 := by decide
theorem planeN_neg {k : Nat} {cols : List Col} (hb : ∀ c ∈ cols, InB c) : planeN k (cols.map (mvCol 2)) = (planeN k cols).map (fun o => o ^^^ 255) := by
  unfold planeN plane
  rw [List.map_map, List.map_map, List.map_map, List.map_map]
  apply List.map_congr_left
  intro c hc
  have h := part_in k (hb c hc)
  simp only [Function.comp]
  have e : part k (mvCol 2 c) = 15 - part k c := by
    unfold part mvCol
    simp only [show ¬ ((2 : Int) = 0) by decide, show ¬ ((2 : Int) = 1) by decide, if_false]
    split
    · rfl
    · split <;> rfl
  rw [e]
  have h2 := neg_byte (part k c).toNat (by omega)
  rw [show (17 * (15 - part k c)).toNat = 17 * (15 - (part k c).toNat) by omega, show (17 * part k c).toNat = 17 * (part k c).toNat by omega, h2]
theorem crc_neg {k : Nat} {cols : List Col} {n : Nat} (hn : cols.length = n) (h1 : 1 ≤ n) (h5 : n ≤ 5) (hb : ∀ c ∈ cols, InB c) :
    Builtin.bitXor (sums k cols) (lawRest ((2 ^ (8 * (n : Int)).toNat - 1) * 2 ^ Int.toNat 32) (8 * (n : Int))) = sums k (cols.map (mvCol 2)) := by
  have hb' : ∀ c ∈ cols.map (mvCol 2), InB c := by
    intro c hc; obtain ⟨d, hd, rfl⟩ := List.mem_map.mp hc; exact mvCol_in (hb d hd)
  rw [onesN h1 h5, sums_cast k hb, sums_cast k hb', bx, rev_sum (planeN_lt k hb), rev_sum (planeN_lt k hb'), planeN_neg hb]
  have := VV_neg (planeN k cols) JJ 0
  rw [Nat.xor_zero, planeN_length, hn] at this
  rw [this, Nat.xor_assoc, Nat.xor_assoc, Nat.xor_comm JJ]
theorem sums_bits (k : Nat) {cols : List Col} (hb : ∀ c ∈ cols, InB c) : (sums k cols).natAbs < 2 ^ 32 := by
  rw [sums_cast k hb, Int.natAbs_natCast]; exact rev_lt _
end Mine
end
section
open PySem PySem.Float64
namespace Mine
namespace Fl
def U : Nat := 2 ^ 1025
def KK : Nat := 562949953421312
theorem S_eq : (2 : Nat) ^ 1074 = KK * U := by unfold KK U; rw [show (1074 : Nat) = 49 + 1025 from rfl, Nat.pow_add]
theorem U_pos : 0 < U := Nat.two_pow_pos _
theorem rep (j : Nat) (h : j ≤ 2 ^ 53) : ∃ t, V t = j * U := by
  by_cases h0 : j = 0
  · exact ⟨0, by rw [V_zero, h0, Nat.zero_mul]⟩
  by_cases h1 : j = 2 ^ 53
  · exact ⟨1025 * 2 ^ 52 + 2 ^ 53, by rw [V_at (Nat.le_refl _) (.inl (Nat.pow_le_pow_right (by decide) (by decide))), h1]; rfl⟩
  have hlo := Nat.log2_self_le h0
  have hhi := @Nat.lt_log2_self j
  have hL : j.log2 ≤ 52 := by
    apply Nat.le_of_not_lt
    intro hc
    have : 2 ^ 53 ≤ 2 ^ j.log2 := Nat.pow_le_pow_right (by decide) hc
    omega
  refine ⟨(1025 - (52 - j.log2)) * 2 ^ 52 + j * 2 ^ (52 - j.log2), ?_⟩
  have e1 : 2 ^ 52 = 2 ^ j.log2 * 2 ^ (52 - j.log2) := by rw [← Nat.pow_add]; congr 1; omega
  have e2 : 2 ^ 53 = 2 ^ (j.log2 + 1) * 2 ^ (52 - j.log2) := by rw [← Nat.pow_add]; congr 1; omega
  have h2 : 2 ^ 52 ≤ j * 2 ^ (52 - j.log2) := by rw [e1]; exact Nat.mul_le_mul_right _ hlo
  have h3 : j * 2 ^ (52 - j.log2) ≤ 2 ^ 53 := by rw [e2]; exact Nat.mul_le_mul_right _ (Nat.le_of_lt hhi)
  rw [V_at h3 (.inl h2), Nat.mul_assoc, ← Nat.pow_add]
  congr 1
  unfold U
  congr 1
  omega
/-- a rounded value of at most 16: its error is at most one unit -/
theorem right_err {r : UInt64} {neg : Bool} {W D : Nat} (h : Right r neg W D) (hD : 0 < D) (hW : W ≤ D * (16 * 2 ^ 1074)) :
    ∃ t m e, decode r = .fin neg m e ∧ val r = sgn neg (V t) ∧ D * V t ≤ W + D * U ∧ W ≤ D * V t + D * U := by
  obtain ⟨t, rfl, hle, hov, hnear⟩ := h
  have hlt : t < infMag := by
    rcases Nat.lt_or_eq_of_le hle with h | h
    · exact h
    · exfalso
      have h1 := hov.mp h
      have h2 : D * ((2 ^ 54 - 1) * 2 ^ 2045) ≤ D * (32 * 2 ^ 1074) := by
        refine Nat.le_trans h1 ?_
        rw [show 32 * 2 ^ 1074 = 2 * (16 * 2 ^ 1074) by omega, Nat.mul_left_comm]
        exact Nat.mul_le_mul_left 2 hW
      have h3 := Nat.le_of_mul_le_mul_left h2 hD
      have h4 : 32 * 2 ^ 1074 < (2 ^ 54 - 1) * 2 ^ 2045 := by
        rw [show (2045 : Nat) = 1074 + 971 from rfl, Nat.pow_add 2 1074 971, Nat.mul_comm 32, Nat.mul_left_comm]
        exact Nat.mul_lt_mul_of_pos_left (Nat.lt_of_lt_of_le (by decide : 32 < (2 ^ 54 - 1) * 1) (Nat.mul_le_mul_left _ (Nat.two_pow_pos _))) (Nat.two_pow_pos _)
      omega
  obtain ⟨m, e, hd, hv⟩ := decode_pack neg hlt
  refine ⟨t, m, e, hd, val_pack neg hlt, ?_⟩
  have hDU : 0 < D * U := Nat.mul_pos hD U_pos
  have hj : W / (D * U) ≤ 2 ^ 53 := by
    rw [Nat.div_le_iff_le_mul_add_pred hDU]
    refine Nat.le_trans hW ?_
    have : D * (16 * 2 ^ 1074) = (D * U) * 2 ^ 53 := by
      rw [S_eq, show (2:Nat) ^ 53 = 16 * KK from by decide]; ac_rfl
    omega
  obtain ⟨t', ht'⟩ := rep _ hj
  have hn := (hnear hlt t').1
  rw [ht'] at hn
  have e1 : D * (W / (D * U) * U) = (D * U) * (W / (D * U)) := by ac_rfl
  rw [e1] at hn
  have h5 := Nat.div_add_mod W (D * U)
  have h6 := Nat.mod_lt W hDU
  unfold dist at hn
  omega
end Fl
end Mine
end
section
open PySem PySem.Float64
namespace Mine
namespace Fl
def u : Int := (U : Int)
theorem u_pos : 0 < u := Int.ofNat_lt.mpr U_pos
def K : Int := 562949953421312
theorem S_int : ((2 ^ 1074 : Nat) : Int) = K * u := by rw [S_eq]; rfl
def Z (x : UInt64) : Int := val x / u
def Fn (x : UInt64) : Prop := isFinite x = true
theorem Fn.dec {x : UInt64} (h : Fn x) : ∃ a m e, decode x = .fin a m e := by
  unfold Fn isFinite at h
  revert h
  cases decode x with
  | nan => intro h; cases h
  | inf _ => intro h; cases h
  | fin a m e => intro _; exact ⟨a, m, e, rfl⟩
theorem Fn.of {x : UInt64} {a : Bool} {m : Nat} {e : Int} (h : decode x = .fin a m e) : Fn x := by unfold Fn isFinite; rw [h]
theorem Z_lo (x : UInt64) : u * Z x ≤ val x := Int.mul_ediv_self_le (Int.ne_of_gt u_pos)
theorem Z_hi (x : UInt64) : val x < u * Z x + u := Int.lt_mul_ediv_self_add u_pos
theorem Z_le {x : UInt64} {n : Int} (h : val x < u * (n + 1)) : Z x ≤ n := by
  have : Z x < n + 1 := (Int.ediv_lt_iff_lt_mul u_pos).mpr (by rwa [Int.mul_comm] at h)
  omega
theorem le_Z {x : UInt64} {n : Int} (h : u * n ≤ val x) : n ≤ Z x := (Int.le_ediv_iff_mul_le u_pos).mpr (by rwa [Int.mul_comm] at h)
theorem sgn_nat (w : Int) : sgn (decide (w < 0)) w.natAbs = w := by
  unfold sgn
  by_cases h : w < 0
  · simp only [h, decide_true, if_true]; omega
  · simp only [h, decide_false, Bool.false_eq_true, if_false]; omega
theorem right_int {r : UInt64} {neg : Bool} {W D : Nat} (h : Right r neg W D) (hD : 0 < D) (hW : W ≤ D * (16 * 2 ^ 1074)) :
    Fn r ∧ (D : Int) * val r ≤ sgn neg W + D * u ∧ sgn neg W ≤ D * val r + D * u ∧ (neg = false → 0 ≤ val r) ∧ (neg = true → val r ≤ 0) := by
  obtain ⟨t, m, e, hd, hv, h1, h2⟩ := right_err h hD hW
  refine ⟨Fn.of hd, ?_⟩
  have h1' : (D : Int) * (V t : Int) ≤ (W : Int) + D * u := by unfold u; exact_mod_cast h1
  have h2' : (W : Int) ≤ (D : Int) * (V t : Int) + D * u := by unfold u; exact_mod_cast h2
  rw [hv]
  unfold sgn
  cases neg
  · simp only [Bool.false_eq_true, if_false]
    exact ⟨h1', h2', fun _ => Int.natCast_nonneg _, fun h => (nomatch h)⟩
  · simp only [if_true]
    refine ⟨?_, ?_, fun h => (nomatch h), fun _ => by omega⟩
    · rw [Int.mul_neg]; omega
    · rw [Int.mul_neg]; omega
theorem zero_fn (s : Bool) : Fn (zero s) ∧ val (zero s) = 0 := by
  have h0 : 0 < infMag := by decide
  obtain ⟨m, e, hd, _⟩ := decode_pack s h0
  refine ⟨Fn.of hd, ?_⟩
  show val (pack s 0) = 0
  rw [val_pack s h0, V_zero]
  cases s <;> rfl
theorem add_val {x y : UInt64} (hx : Fn x) (hy : Fn y) (hb : (val x + val y).natAbs ≤ 16 * 2 ^ 1074) :
    Fn (add x y) ∧ val (add x y) ≤ val x + val y + u ∧ val x + val y ≤ val (add x y) + u ∧ (0 ≤ val x + val y → 0 ≤ val (add x y)) := by
  obtain ⟨a, m, e, hdx⟩ := hx.dec
  obtain ⟨b, k, f, hdy⟩ := hy.dec
  have hr := add_right hdx hdy
  have hu := u_pos
  by_cases h0 : val x + val y = 0
  · rw [hr.1 h0, h0]
    obtain ⟨hz, hv⟩ := zero_fn (a && b)
    refine ⟨hz, ?_, ?_, ?_⟩ <;> omega
  · have := right_int (hr.2 h0) (by decide) (by omega)
    rw [sgn_nat] at this
    refine ⟨this.1, by omega, by omega, fun h => this.2.2.2.1 (by simp; omega)⟩
theorem neg_fn {y : UInt64} (hy : Fn y) : Fn (neg y) ∧ val (neg y) = -val y := by
  obtain ⟨b, k, f, hdy⟩ := hy.dec
  exact ⟨Fn.of (neg_decode hdy), neg_val hdy⟩
theorem natAbs_le_of {w : Int} {n : Int} (h1 : w ≤ u * n) (h2 : -(u * n) ≤ w) (hn : n ≤ 16 * K) : w.natAbs ≤ 16 * 2 ^ 1074 := by
  have h3 : u * n ≤ u * (16 * K) := Int.mul_le_mul_of_nonneg_left hn (Int.le_of_lt u_pos)
  have h4 : ((16 * 2 ^ 1074 : Nat) : Int) = u * (16 * K) := by
    rw [Int.natCast_mul, S_int]; grind
  omega
theorem add_z {x y : UInt64} (hx : Fn x) (hy : Fn y) (h1 : Z x + Z y + 2 ≤ 16 * K) (h2 : -(15 * K) ≤ Z x + Z y) :
    Fn (add x y) ∧ Z (add x y) ≤ Z x + Z y + 2 ∧ Z x + Z y - 1 ≤ Z (add x y) := by
  have a1 := Z_lo x
  have a2 := Z_hi x
  have a3 := Z_lo y
  have a4 := Z_hi y
  have hu := u_pos
  have hK : K = 562949953421312 := rfl
  have e1 : u * (Z x + Z y + 2) = u * Z x + u * Z y + 2 * u := by grind
  have e2 : u * (Z x + Z y + 2) ≤ u * (16 * K) := Int.mul_le_mul_of_nonneg_left (by omega) (Int.le_of_lt hu)
  have e3 : u * (-(15 * K)) ≤ u * (Z x + Z y) := Int.mul_le_mul_of_nonneg_left h2 (Int.le_of_lt hu)
  have e4 : u * (Z x + Z y) = u * Z x + u * Z y := by grind
  have e5 : u * (-(15 * K)) = -(u * (15 * K)) := by grind
  have e6 : u * (16 * K) = u * (15 * K) + u * K := by grind
  have e7 : u * 1 ≤ u * K := Int.mul_le_mul_of_nonneg_left (by decide) (Int.le_of_lt hu)
  have h := add_val hx hy (natAbs_le_of (n := 16 * K) (by omega) (by omega) (by omega))
  refine ⟨h.1, Z_le ?_, le_Z ?_⟩
  · have : u * (Z x + Z y + 2 + 1) = u * Z x + u * Z y + 3 * u := by grind
    omega
  · have : u * (Z x + Z y - 1) = u * Z x + u * Z y - u := by grind
    omega
theorem neg_z {y : UInt64} (hy : Fn y) : Fn (neg y) ∧ Z (neg y) ≤ -Z y ∧ -Z y - 1 ≤ Z (neg y) := by
  have h := neg_fn hy
  have a3 := Z_lo y
  have a4 := Z_hi y
  have hu := u_pos
  refine ⟨h.1, Z_le ?_, le_Z ?_⟩
  · have : u * (-Z y + 1) = -(u * Z y) + u := by grind
    omega
  · have : u * (-Z y - 1) = -(u * Z y) - u := by grind
    omega
theorem sub_z {x y : UInt64} (hx : Fn x) (hy : Fn y) (h1 : Z x - Z y + 2 ≤ 16 * K) (h2 : -(15 * K) + 1 ≤ Z x - Z y) :
    Fn (sub x y) ∧ Z (sub x y) ≤ Z x - Z y + 2 ∧ Z x - Z y - 2 ≤ Z (sub x y) := by
  have hn := neg_z hy
  have := add_z hx hn.1 (by omega) (by omega)
  unfold sub
  exact ⟨this.1, by omega, by omega⟩
end Fl
end Mine
end
section
open PySem PySem.Float64
namespace Mine
namespace Fl
theorem val_sgn {x : UInt64} {a : Bool} {m : Nat} {e : Int} (h : decode x = .fin a m e) : val x = sgn a (val x).natAbs := by
  rw [val_natAbs h, val_eq h]
theorem sgn_prod (a b : Bool) (p q : Nat) : sgn (a != b) (p * q) = sgn a p * sgn b q := by
  unfold sgn
  cases a <;> cases b <;> simp [Int.natCast_mul, Int.mul_neg, Int.neg_mul]
theorem mul_val {x y : UInt64} (hx : Fn x) (hy : Fn y) (hb : (val x).natAbs * (val y).natAbs ≤ 2 ^ 1074 * (16 * 2 ^ 1074)) :
    Fn (mul x y) ∧ K * u * val (mul x y) ≤ val x * val y + K * u * u ∧ val x * val y ≤ K * u * val (mul x y) + K * u * u := by
  obtain ⟨a, m, e, hdx⟩ := hx.dec
  obtain ⟨b, k, f, hdy⟩ := hy.dec
  have h := right_int (mul_right hdx hdy) (Nat.two_pow_pos _) hb
  rw [sgn_prod, ← val_sgn hdx, ← val_sgn hdy, S_int] at h
  exact ⟨h.1, h.2.1, h.2.2.1⟩
theorem nat_prod_le {p q P Q N : Nat} (h1 : p ≤ P) (h2 : q ≤ Q) (h : P * Q ≤ N) : p * q ≤ N := Nat.le_trans (Nat.mul_le_mul h1 h2) h
theorem val_abs_le {x : UInt64} {A : Int} (h1 : -A ≤ Z x) (h2 : Z x ≤ A) : (val x).natAbs ≤ U * (A + 1).toNat := by
  have a1 := Z_lo x
  have a2 := Z_hi x
  have hu := u_pos
  have e1 : u * (-A) ≤ u * Z x := Int.mul_le_mul_of_nonneg_left h1 (Int.le_of_lt hu)
  have e2 : u * Z x ≤ u * A := Int.mul_le_mul_of_nonneg_left h2 (Int.le_of_lt hu)
  have e3 : u * (-A) = -(u * A) := by grind
  have e4 : ((U * (A + 1).toNat : Nat) : Int) = u * A + u := by
    rw [Int.natCast_mul, show ((A + 1).toNat : Int) = A + 1 by omega]
    show u * (A + 1) = _
    grind
  omega
theorem sq_bound (A B : Int) (hA : 0 ≤ A) (hB : 0 ≤ B) (h : (A + 1) * (B + 1) ≤ 16 * K * K) : U * (A + 1).toNat * (U * (B + 1).toNat) ≤ 2 ^ 1074 * (16 * 2 ^ 1074) := by
  have e1 : (A + 1).toNat * (B + 1).toNat ≤ 16 * KK * KK := by
    have h' : (((A + 1).toNat * (B + 1).toNat : Nat) : Int) ≤ ((16 * KK * KK : Nat) : Int) := by
      rw [Int.natCast_mul, show ((A + 1).toNat : Int) = A + 1 by omega, show ((B + 1).toNat : Int) = B + 1 by omega]
      exact h
    omega
  rw [S_eq]
  calc U * (A + 1).toNat * (U * (B + 1).toNat) = ((A + 1).toNat * (B + 1).toNat) * (U * U) := by ac_rfl
    _ ≤ (16 * KK * KK) * (U * U) := Nat.mul_le_mul_right _ e1
    _ = KK * U * (16 * (KK * U)) := by ac_rfl
theorem mul_z {x y : UInt64} (A B : Int) (hx : Fn x) (hy : Fn y) (x1 : -A ≤ Z x) (x2 : Z x ≤ A) (y1 : -B ≤ Z y) (y2 : Z y ≤ B) (hA : 0 ≤ A) (hB : 0 ≤ B) (hA2 : A ≤ 16 * K) (hB2 : B ≤ 16 * K) (h : (A + 1) * (B + 1) ≤ 16 * K * K) :
    Fn (mul x y) ∧ K * Z (mul x y) ≤ Z x * Z y + 34 * K ∧ Z x * Z y ≤ K * Z (mul x y) + 36 * K := by
  have hv := mul_val hx hy (nat_prod_le (val_abs_le x1 x2) (val_abs_le y1 y2) (sq_bound A B hA hB h))
  refine ⟨hv.1, ?_⟩
  have a1 := Z_lo x
  have a2 := Z_hi x
  have a3 := Z_lo y
  have a4 := Z_hi y
  have a5 := Z_lo (mul x y)
  have a6 := Z_hi (mul x y)
  have hu := u_pos
  have hK : (0 : Int) < K := by decide
  have hK1 : (1 : Int) ≤ K := by decide
  generalize hX : val x = X at *
  generalize hY : val y = Y at *
  generalize hR : val (mul x y) = R at *
  generalize Z x = P at *
  generalize Z y = Q at *
  generalize Z (mul x y) = T at *
  obtain ⟨ρ, rfl⟩ : ∃ ρ, X = u * P + ρ := ⟨X - u * P, by omega⟩
  obtain ⟨σ, rfl⟩ : ∃ σ, Y = u * Q + σ := ⟨Y - u * Q, by omega⟩
  have r1 : 0 ≤ ρ := by omega
  have r2 : ρ < u := by omega
  have s1 : 0 ≤ σ := by omega
  have s2 : σ < u := by omega
  have b1 : P * σ ≤ 16 * K * u := Int.le_trans (Int.mul_le_mul_of_nonneg_right (by omega : P ≤ 16 * K) s1) (Int.mul_le_mul_of_nonneg_left (Int.le_of_lt s2) (by omega))
  have b2 : -(16 * K * u) ≤ P * σ := by
    have t1 : (-(16 * K)) * σ ≤ P * σ := Int.mul_le_mul_of_nonneg_right (by omega) s1
    have t2 : (16 * K) * σ ≤ (16 * K) * u := Int.mul_le_mul_of_nonneg_left (Int.le_of_lt s2) (by omega)
    have t3 : (-(16 * K)) * σ = -((16 * K) * σ) := by grind
    omega
  have b3 : Q * ρ ≤ 16 * K * u := Int.le_trans (Int.mul_le_mul_of_nonneg_right (by omega : Q ≤ 16 * K) r1) (Int.mul_le_mul_of_nonneg_left (Int.le_of_lt r2) (by omega))
  have b4 : -(16 * K * u) ≤ Q * ρ := by
    have t1 : (-(16 * K)) * ρ ≤ Q * ρ := Int.mul_le_mul_of_nonneg_right (by omega) r1
    have t2 : (16 * K) * ρ ≤ (16 * K) * u := Int.mul_le_mul_of_nonneg_left (Int.le_of_lt r2) (by omega)
    have t3 : (-(16 * K)) * ρ = -((16 * K) * ρ) := by grind
    omega
  have b5 : 0 ≤ ρ * σ := Int.mul_nonneg r1 s1
  have b6 : ρ * σ ≤ u * u := Int.mul_le_mul (Int.le_of_lt r2) (Int.le_of_lt s2) s1 (Int.le_of_lt hu)
  have c1 : u * (P * σ) ≤ u * (16 * K * u) := Int.mul_le_mul_of_nonneg_left b1 (Int.le_of_lt hu)
  have c2 : u * (-(16 * K * u)) ≤ u * (P * σ) := Int.mul_le_mul_of_nonneg_left b2 (Int.le_of_lt hu)
  have c3 : u * (Q * ρ) ≤ u * (16 * K * u) := Int.mul_le_mul_of_nonneg_left b3 (Int.le_of_lt hu)
  have c4 : u * (-(16 * K * u)) ≤ u * (Q * ρ) := Int.mul_le_mul_of_nonneg_left b4 (Int.le_of_lt hu)
  have d1 : K * u * (u * T) ≤ K * u * R := Int.mul_le_mul_of_nonneg_left a5 (Int.le_of_lt (Int.mul_pos hK hu))
  have d2 : K * u * R ≤ K * u * (u * T + u) := Int.mul_le_mul_of_nonneg_left (Int.le_of_lt a6) (Int.le_of_lt (Int.mul_pos hK hu))
  have d3 : 1 * (u * u) ≤ K * (u * u) := Int.mul_le_mul_of_nonneg_right hK1 (Int.le_of_lt (Int.mul_pos hu hu))
  have huu : 0 < u * u := Int.mul_pos hu hu
  constructor
  · refine Int.le_of_mul_le_mul_left (a := u * u) ?_ huu
    grind
  · refine Int.le_of_mul_le_mul_left (a := u * u) ?_ huu
    grind
theorem div_val {x y : UInt64} (hx : Fn x) (hy : Fn y) (hy0 : 0 < val y) (hb : (val x).natAbs ≤ 16 * (val y).natAbs) :
    Fn (div x y) ∧ val y * val (div x y) ≤ val x * (K * u) + val y * u ∧ val x * (K * u) ≤ val y * val (div x y) + val y * u := by
  obtain ⟨a, m, e, hdx⟩ := hx.dec
  obtain ⟨b, k, f, hdy⟩ := hy.dec
  have hb0 : b = false := by
    cases b
    · rfl
    · exfalso
      rw [val_eq hdy] at hy0
      unfold sgn at hy0
      simp only [if_true] at hy0
      have := Int.natCast_nonneg (k * 2 ^ (f + 1074).toNat)
      omega
  subst hb0
  have hk : k ≠ 0 := by
    intro h; subst h; rw [val_eq hdy] at hy0; simp [sgn] at hy0
  have h := right_int (div_right hdx hdy hk) (by omega) (by
    calc (val x).natAbs * 2 ^ 1074 ≤ 16 * (val y).natAbs * 2 ^ 1074 := Nat.mul_le_mul_right _ hb
      _ = (val y).natAbs * (16 * 2 ^ 1074) := by ac_rfl)
  have e1 : sgn (a != false) ((val x).natAbs * 2 ^ 1074) = val x * (K * u) := by
    have : (a != false) = a := by cases a <;> rfl
    rw [this, sgn_mul, ← val_sgn hdx, S_int]
  have e2 : (((val y).natAbs : Nat) : Int) = val y := by omega
  rw [e1, e2] at h
  exact ⟨h.1, h.2.1, h.2.2.1⟩
theorem div_z {x y : UInt64} (hx : Fn x) (hy : Fn y) (y1 : 1 ≤ Z y) (y2 : Z y ≤ 16 * K) (h1 : Z x + 1 ≤ 16 * Z y) (h2 : -(16 * Z y) ≤ Z x) :
    Fn (div x y) ∧ Z y * Z (div x y) ≤ K * Z x + 54 * K ∧ K * Z x ≤ Z y * Z (div x y) + 54 * K ∧ Z (div x y) ≤ 16 * K + 1 ∧ -(16 * K + 2) ≤ Z (div x y) := by
  have a1 := Z_lo x
  have a2 := Z_hi x
  have a3 := Z_lo y
  have a4 := Z_hi y
  have hu := u_pos
  have hK : (0 : Int) < K := by decide
  have hK1 : (1 : Int) ≤ K := by decide
  have p1 : u * 1 ≤ u * Z y := Int.mul_le_mul_of_nonneg_left y1 (Int.le_of_lt hu)
  have p2 : u * (Z x + 1) ≤ u * (16 * Z y) := Int.mul_le_mul_of_nonneg_left h1 (Int.le_of_lt hu)
  have p3 : u * (-(16 * Z y)) ≤ u * Z x := Int.mul_le_mul_of_nonneg_left h2 (Int.le_of_lt hu)
  have p4 : u * (Z x + 1) = u * Z x + u := by grind
  have p5 : u * (16 * Z y) = 16 * (u * Z y) := by grind
  have p6 : u * (-(16 * Z y)) = -(16 * (u * Z y)) := by grind
  have hv := div_val hx hy (by omega) (by omega)
  refine ⟨hv.1, ?_⟩
  have a5 := Z_lo (div x y)
  have a6 := Z_hi (div x y)
  -- the quotient's own bound
  have hy0 : 0 < val y := by omega
  have q1 : val (div x y) ≤ 16 * (K * u) + u := by
    refine Int.le_of_mul_le_mul_left (a := val y) ?_ hy0
    have : val x * (K * u) ≤ (16 * val y) * (K * u) := Int.mul_le_mul_of_nonneg_right (by omega) (Int.le_of_lt (Int.mul_pos hK hu))
    grind
  have q2 : -(16 * (K * u) + u) ≤ val (div x y) := by
    refine Int.le_of_mul_le_mul_left (a := val y) ?_ hy0
    have : (-(16 * val y)) * (K * u) ≤ val x * (K * u) := Int.mul_le_mul_of_nonneg_right (by omega) (Int.le_of_lt (Int.mul_pos hK hu))
    grind
  have t1 : Z (div x y) ≤ 16 * K + 1 := Z_le (by have : u * (16 * K + 1 + 1) = 16 * (K * u) + 2 * u := by grind
                                                 omega)
  have t2 : -(16 * K + 2) ≤ Z (div x y) := le_Z (by have : u * (-(16 * K + 2)) = -(16 * (K * u) + 2 * u) := by grind
                                                    omega)
  refine ⟨?_, ?_, t1, t2⟩
  all_goals
    have hv1 := hv.2.1
    have hv2 := hv.2.2
    clear p1 p2 p3 p4 p5 p6 q1 q2 hv hy0
    generalize hX : val x = X at *
    generalize hY : val y = Y at *
    generalize hR : val (div x y) = R at *
    generalize Z x = P at *
    generalize Z y = Q at *
    generalize Z (div x y) = T at *
    obtain ⟨τ, rfl⟩ : ∃ τ, R = u * T + τ := ⟨R - u * T, by omega⟩
    obtain ⟨σ, rfl⟩ : ∃ σ, Y = u * Q + σ := ⟨Y - u * Q, by omega⟩
    have r1 : 0 ≤ τ := by omega
    have r2 : τ < u := by omega
    have s1 : 0 ≤ σ := by omega
    have s2 : σ < u := by omega
    have b1 : T * σ ≤ 18 * K * u := Int.le_trans (Int.mul_le_mul_of_nonneg_right (by omega : T ≤ 18 * K) s1) (Int.mul_le_mul_of_nonneg_left (Int.le_of_lt s2) (by omega))
    have b2 : -(18 * K * u) ≤ T * σ := by
      have t1 : (-(18 * K)) * σ ≤ T * σ := Int.mul_le_mul_of_nonneg_right (by omega) s1
      have t2 : (18 * K) * σ ≤ (18 * K) * u := Int.mul_le_mul_of_nonneg_left (Int.le_of_lt s2) (by omega)
      have t3 : (-(18 * K)) * σ = -((18 * K) * σ) := by grind
      omega
    have b3 : Q * τ ≤ 16 * K * u := Int.le_trans (Int.mul_le_mul_of_nonneg_right (by omega : Q ≤ 16 * K) r1) (Int.mul_le_mul_of_nonneg_left (Int.le_of_lt r2) (by omega))
    have b4 : 0 ≤ Q * τ := Int.mul_nonneg (by omega) r1
    have b5 : 0 ≤ τ * σ := Int.mul_nonneg r1 s1
    have b6 : τ * σ ≤ u * u := Int.mul_le_mul (Int.le_of_lt r2) (Int.le_of_lt s2) s1 (Int.le_of_lt hu)
    have c1 : u * (T * σ) ≤ u * (18 * K * u) := Int.mul_le_mul_of_nonneg_left b1 (Int.le_of_lt hu)
    have c2 : u * (-(18 * K * u)) ≤ u * (T * σ) := Int.mul_le_mul_of_nonneg_left b2 (Int.le_of_lt hu)
    have c3 : u * (Q * τ) ≤ u * (16 * K * u) := Int.mul_le_mul_of_nonneg_left b3 (Int.le_of_lt hu)
    have c4 : 0 ≤ u * (Q * τ) := Int.mul_nonneg (Int.le_of_lt hu) b4
    have d1 : (u * P) * (K * u) ≤ X * (K * u) := Int.mul_le_mul_of_nonneg_right a1 (Int.le_of_lt (Int.mul_pos hK hu))
    have d2 : X * (K * u) ≤ (u * P + u) * (K * u) := Int.mul_le_mul_of_nonneg_right (Int.le_of_lt a2) (Int.le_of_lt (Int.mul_pos hK hu))
    have d3 : 1 * (u * u) ≤ K * (u * u) := Int.mul_le_mul_of_nonneg_right hK1 (Int.le_of_lt (Int.mul_pos hu hu))
    have d4 : Q * (u * u) ≤ (16 * K) * (u * u) := Int.mul_le_mul_of_nonneg_right y2 (Int.le_of_lt (Int.mul_pos hu hu))
    have d5 : σ * u ≤ u * u := Int.mul_le_mul_of_nonneg_right (Int.le_of_lt s2) (Int.le_of_lt hu)
    have huu : 0 < u * u := Int.mul_pos hu hu
    refine Int.le_of_mul_le_mul_left (a := u * u) ?_ huu
    grind
end Fl
end Mine
end
section
open PySem PySem.Float64
namespace Mine
namespace Fl
theorem cmp_fn {x y : UInt64} (hx : Fn x) (hy : Fn y) : cmp x y = some (compare (val x) (val y)) := by
  obtain ⟨a, m, e, hdx⟩ := hx.dec
  obtain ⟨b, k, f, hdy⟩ := hy.dec
  exact cmp_right hdx hdy
theorem lt_iff {x y : UInt64} (hx : Fn x) (hy : Fn y) : (cmp x y == some .lt) = decide (val x < val y) := by
  rw [cmp_fn hx hy]
  by_cases h : val x < val y
  · rw [Int.compare_eq_lt.mpr h]; simp [h]
  · simp only [h, decide_false]
    cases hc : compare (val x) (val y)
    · exact absurd (Int.compare_eq_lt.mp hc) h
    · rfl
    · rfl
theorem eq_iff {x y : UInt64} (hx : Fn x) (hy : Fn y) : (cmp x y == some .eq) = decide (val x = val y) := by
  rw [cmp_fn hx hy]
  by_cases h : val x = val y
  · rw [Int.compare_eq_eq.mpr h]; simp [h]
  · simp only [h, decide_false]
    cases hc : compare (val x) (val y)
    · rfl
    · exact absurd (Int.compare_eq_eq.mp hc) h
    · rfl
theorem Z_mono {x y : UInt64} (h : val x ≤ val y) : Z x ≤ Z y := Int.ediv_le_ediv u_pos h
theorem ltF_t {x y : UInt64} (hx : Fn x) (hy : Fn y) (h : ltF x y = true) : Z x ≤ Z y := by
  unfold ltF at h; rw [lt_iff hx hy] at h; exact Z_mono (Int.le_of_lt (of_decide_eq_true h))
theorem ltF_f {x y : UInt64} (hx : Fn x) (hy : Fn y) (h : ltF x y = false) : Z y ≤ Z x := by
  unfold ltF at h; rw [lt_iff hx hy] at h; exact Z_mono (Int.not_lt.mp (of_decide_eq_false h))
theorem eqF_t {x y : UInt64} (hx : Fn x) (hy : Fn y) (h : eqF x y = true) : Z x = Z y := by
  unfold eqF at h; rw [eq_iff hx hy] at h; unfold Z; rw [of_decide_eq_true h]
theorem leF_t {x y : UInt64} (hx : Fn x) (hy : Fn y) (h : leF x y = true) : Z x ≤ Z y := by
  unfold leF at h; rw [lt_iff hx hy, eq_iff hx hy] at h
  simp only [Bool.or_eq_true, decide_eq_true_eq] at h
  exact Z_mono (by omega)
theorem leF_f {x y : UInt64} (hx : Fn x) (hy : Fn y) (h : leF x y = false) : Z y ≤ Z x := by
  unfold leF at h; rw [lt_iff hx hy, eq_iff hx hy] at h
  simp only [Bool.or_eq_false_iff, decide_eq_false_iff_not] at h
  exact Z_mono (by omega)
theorem floor_nat (m : Nat) (e : Int) (he : -1074 ≤ e) : floorOf false m e = ((m * 2 ^ (e + 1074).toNat : Nat) : Int) / ((2 ^ 1074 : Nat) : Int) := by
  unfold floorOf sgn
  simp only [Bool.false_eq_true, if_false]
  by_cases h : e ≥ 0
  · rw [if_pos h]
    have e1 : (e + 1074).toNat = e.toNat + 1074 := by omega
    rw [e1, Nat.pow_add, ← Nat.mul_assoc, ← Int.natCast_ediv, Nat.mul_div_cancel _ (Nat.two_pow_pos _)]
    push_cast; rfl
  · rw [if_neg h, Int.fdiv_eq_ediv_of_nonneg _ (Int.le_of_lt (Int.pow_pos (by decide)))]
    have e1 : (2 : Nat) ^ 1074 = 2 ^ (-e).toNat * 2 ^ (e + 1074).toNat := by rw [← Nat.pow_add]; congr 1; omega
    rw [e1, ← Int.natCast_ediv, Nat.mul_div_mul_right _ _ (Nat.two_pow_pos _)]
    push_cast; rfl
theorem iF_pos {x : UInt64} (hx : Fn x) (h : 0 ≤ val x) : iF x = Z x / K := by
  obtain ⟨a, m, e, hd⟩ := hx.dec
  have hge := decode_ge hd
  unfold iF
  rw [Flt.toInt_fin hd]
  have hv := val_eq hd
  have hz : Z x / K = val x / ((2 ^ 1074 : Nat) : Int) := by
    unfold Z
    rw [Int.ediv_ediv, if_neg (fun h => absurd h.1 (Int.not_lt.mpr (Int.le_of_lt u_pos))), Int.sub_zero, S_int, Int.mul_comm u K]
  rw [hz, hv]
  unfold truncOf ceilOf
  cases a
  · simp only [Bool.false_eq_true, if_false]
    rw [floor_nat m e hge]; rfl
  · simp only [if_true, Bool.not_true]
    rw [floor_nat m e hge]
    rw [hv] at h
    unfold sgn at h ⊢
    simp only [if_true] at h ⊢
    have h0 : ((m * 2 ^ (e + 1074).toNat : Nat) : Int) = 0 := by omega
    rw [h0]; rfl
theorem iF_neg {x : UInt64} (hx : Fn x) (h : val x < 0) (h1 : -K < Z x) : iF x = 0 := by
  obtain ⟨a, m, e, hd⟩ := hx.dec
  have hge := decode_ge hd
  unfold iF
  rw [Flt.toInt_fin hd]
  have hv := val_eq hd
  have ha : a = true := by
    cases a
    · rw [hv] at h; unfold sgn at h; simp only [Bool.false_eq_true, if_false] at h; omega
    · rfl
  subst ha
  unfold truncOf ceilOf
  simp only [if_true, Bool.not_true]
  rw [floor_nat m e hge]
  have e1 : ((m * 2 ^ (e + 1074).toNat : Nat) : Int) = -val x := by rw [hv]; unfold sgn; simp
  rw [e1]
  have a1 := Z_lo x
  have hu := u_pos
  have e2 : u * (-K + 1) ≤ u * Z x := Int.mul_le_mul_of_nonneg_left (by omega) (Int.le_of_lt hu)
  have e3 : u * (-K + 1) = -(K * u) + u := by grind
  have : -val x / ((2 ^ 1074 : Nat) : Int) = 0 := Int.ediv_eq_zero_of_lt (by omega) (by rw [S_int]; omega)
  rw [this]; rfl
/-- the whole part: where it lies -/
theorem iF_z {x : UInt64} (hx : Fn x) (h1 : -K < Z x) : (0 ≤ Z x ∧ K * iF x ≤ Z x ∧ Z x < K * iF x + K) ∨ (Z x < 0 ∧ iF x = 0) := by
  by_cases h : 0 ≤ val x
  · left
    have h0 : 0 ≤ Z x := Int.ediv_nonneg h (Int.le_of_lt u_pos)
    rw [iF_pos hx h]
    refine ⟨h0, Int.mul_ediv_self_le (by decide), Int.lt_mul_ediv_self_add (by decide)⟩
  · right
    refine ⟨?_, iF_neg hx (by omega) h1⟩
    have := Z_lo x
    have hu := u_pos
    apply Int.not_le.mp
    intro hc
    have : 0 ≤ u * Z x := Int.mul_nonneg (Int.le_of_lt hu) hc
    omega
theorem nz_of {x : UInt64} (h : 1 ≤ Z x) : isZero x = false := by
  cases hz : isZero x
  · rfl
  · exfalso
    unfold isZero at hz
    have hv : val x = 0 := by
      unfold val
      revert hz
      cases decode x with
      | nan => intro _; rfl
      | inf _ => intro _; rfl
      | fin a m e =>
        cases m with
        | zero => intro _; simp [sgn]
        | succ m => intro h; cases h
    unfold Z at h
    rw [hv] at h
    simp at h
end Fl
end Mine
end
section
open PySem PySem.Float64
namespace Mine
namespace Fl
theorem z_one : Fn 4607182418800017408 ∧ Z 4607182418800017408 = 562949953421312 := ⟨by unfold Fn; decide +kernel, by decide +kernel⟩
theorem z_two : Fn 4611686018427387904 ∧ Z 4611686018427387904 = 1125899906842624 := ⟨by unfold Fn; decide +kernel, by decide +kernel⟩
theorem z_four : Fn 4616189618054758400 ∧ Z 4616189618054758400 = 2251799813685248 := ⟨by unfold Fn; decide +kernel, by decide +kernel⟩
theorem z_six : Fn 4618441417868443648 ∧ Z 4618441417868443648 = 3377699720527872 := ⟨by unfold Fn; decide +kernel, by decide +kernel⟩
theorem z_half : Fn 4602678819172646912 ∧ Z 4602678819172646912 = 281474976710656 := ⟨by unfold Fn; decide +kernel, by decide +kernel⟩
theorem z_zero0 : Fn 0 ∧ Z 0 = 0 := ⟨by unfold Fn; decide +kernel, by decide +kernel⟩
theorem z_fift : Fn 4624633867356078080 ∧ Z 4624633867356078080 = 8444249301319680 := ⟨by unfold Fn; decide +kernel, by decide +kernel⟩
theorem z_third : Fn 4599676419421066581 ∧ Z 4599676419421066581 = 187649984473770 := ⟨by unfold Fn; decide +kernel, by decide +kernel⟩
theorem z_sixth : Fn 4595172819793696085 ∧ Z 4595172819793696085 = 93824992236885 := ⟨by unfold Fn; decide +kernel, by decide +kernel⟩
theorem z_twoth : Fn 4604180019048437077 ∧ Z 4604180019048437077 = 375299968947541 := ⟨by unfold Fn; decide +kernel, by decide +kernel⟩
theorem ofBin_right (neg : Bool) (M : Nat) (g : Int) (h : -1074 ≤ g) : Right (ofBin neg M g) neg (M * 2 ^ (g + 1074).toNat) 1 := by
  unfold ofBin
  refine ofFrac_right (shift_pos _ _ _ (by decide)) ?_ (by decide)
  have := shift_one M g 1074 (by omega)
  rw [Nat.mul_one]; exact this
theorem one_dec : decode 4607182418800017408 = .fin false (2 ^ 52) (-52) := by
  unfold decode
  have h : (4607182418800017408 : UInt64).toNat = 4607182418800017408 := by decide
  simp only [h]
  rfl
theorem fmod_one {x : UInt64} (hx : Fn x) : ∃ w : Nat, (val x).natAbs % 2 ^ 1074 = w ∧ (∃ a m e, decode x = .fin a m e ∧ Right (fmod x 4607182418800017408) a w 1) := by
  obtain ⟨a, m, e, hd⟩ := hx.dec
  have hge := decode_ge hd
  refine ⟨_, rfl, a, m, e, hd, ?_⟩
  have hf : fmod x 4607182418800017408 = ofBin a (m * 2 ^ (e - min e (-52)).toNat % (2 ^ 52 * 2 ^ (-52 - min e (-52)).toNat)) (min e (-52)) := by
    unfold fmod
    rw [hd, one_dec]
    simp only [align, sgn, Bool.false_eq_true, if_false, Int.toNat_natCast]
    rw [if_neg (by decide)]
  rw [hf]
  have h := ofBin_right a (m * 2 ^ (e - min e (-52)).toNat % (2 ^ 52 * 2 ^ (-52 - min e (-52)).toNat)) (min e (-52)) (by omega)
  have e1 : m * 2 ^ (e - min e (-52)).toNat % (2 ^ 52 * 2 ^ (-52 - min e (-52)).toNat) * 2 ^ (min e (-52) + 1074).toNat = (val x).natAbs % 2 ^ 1074 := by
    rw [← Nat.mul_mod_mul_right, val_natAbs hd, Nat.mul_assoc, Nat.mul_assoc, ← Nat.pow_add, ← Nat.pow_add, ← Nat.pow_add]
    congr 2
    · congr 1; omega
    · congr 1; omega
  rw [e1] at h
  exact h
theorem zero_dec (s : Bool) : ∃ m e, decode (zero s) = .fin s m e ∧ val (zero s) = 0 := by
  have h0 : 0 < infMag := by decide
  obtain ⟨m, e, hd, _⟩ := decode_pack s h0
  exact ⟨m, e, hd, (zero_fn s).2⟩
theorem isZero_val {x : UInt64} (hx : Fn x) (h : isZero x = true) : val x = 0 := by
  obtain ⟨a, m, e, hd⟩ := hx.dec
  unfold isZero at h
  rw [hd] at h
  cases m with
  | zero => rw [val_eq hd]; simp [sgn]
  | succ m => cases h
theorem mod_cases (x : UInt64) : (divmod x 4607182418800017408).2 = if isZero (fmod x 4607182418800017408) then 0 else if lt (fmod x 4607182418800017408) (zero false) then add (fmod x 4607182418800017408) 4607182418800017408 else fmod x 4607182418800017408 := by
  unfold divmod
  have h1 : lt 4607182418800017408 (zero false) = false := by decide +kernel
  have h2 : copysign (zero false) 4607182418800017408 = 0 := by decide +kernel
  simp only [h1, h2]
  by_cases hz : isZero (fmod x 4607182418800017408) = true
  · simp only [hz, if_true]
  · simp only [hz, Bool.false_eq_true, if_false]
    cases hl : lt (fmod x 4607182418800017408) (zero false) <;> simp
theorem z_of {n c : Int} (h : u * n ≤ u * c) : n ≤ c := Int.le_of_mul_le_mul_left h u_pos
theorem fin1 {a b c : Int} (h3 : a - 3 ≤ b + K) (h4 : b + 562949953421312 - 1 ≤ c) : a - 5 ≤ c := by
  have hK : K = 562949953421312 := rfl
  omega
theorem fin2 {a b c : Int} (h3 : b + K ≤ a + 3) (h4 : c ≤ b + 562949953421312 + 2) : c ≤ a + 5 := by
  have hK : K = 562949953421312 := rfl
  omega
theorem fin3 {b c : Int} (h3 : -K - 2 ≤ b) (h4 : b + 562949953421312 - 1 ≤ c) : -3 ≤ c := by
  have hK : K = 562949953421312 := rfl
  omega
theorem fin4 {b c : Int} (h3 : b ≤ 0) (h4 : c ≤ b + 562949953421312 + 2) : c ≤ K + 3 := by
  have hK : K = 562949953421312 := rfl
  omega
theorem fin5 {b : Int} (h3 : b ≤ 0) : b + 562949953421312 + 2 ≤ 16 * K := by
  have hK : K = 562949953421312 := rfl
  omega
theorem fin6 {b : Int} (h3 : -K - 2 ≤ b) : -(15 * K) ≤ b + 562949953421312 := by
  have hK : K = 562949953421312 := rfl
  omega
/-- the rest by one: it lies between nought and one, and apart by a whole number -/
theorem mz_lin {zx zf vx vf w q : Int} (x1 : u * zx ≤ vx) (x2 : vx < u * zx + u) (f1 : u * zf ≤ vf) (f2 : vf < u * zf + u) (hs : vx = K * u * q + w) (r1 : vf ≤ w + u) (r2 : w ≤ vf + u) :
    zx - K * q - 3 ≤ zf ∧ zf ≤ zx - K * q + 3 := by
  have hu := u_pos
  constructor
  · refine z_of ?_
    have : u * (zx - K * q - 3) = u * zx - K * u * q - 3 * u := by grind
    omega
  · refine z_of ?_
    have : u * (zx - K * q + 3) = u * zx - K * u * q + 3 * u := by grind
    omega
theorem mz_rng {zf vf w : Int} (f1 : u * zf ≤ vf) (f2 : vf < u * zf + u) (r1 : vf ≤ w + u) (r2 : -w - u ≤ vf) (hw : w < K * u) : -K - 2 ≤ zf ∧ zf ≤ K + 2 := by
  constructor
  · refine z_of ?_
    have : u * (-K - 2) = -(K * u) - 2 * u := by grind
    omega
  · refine z_of ?_
    have : u * (K + 2) = K * u + 2 * u := by grind
    omega
theorem mz_q {q : Nat} {zx vx w : Int} (h1 : -(2 * K) ≤ zx) (h2 : zx ≤ 3 * K) (x1 : u * zx ≤ vx) (x2 : vx < u * zx + u) (w0 : 0 ≤ w) (hq : (vx.natAbs : Int) = K * u * q + w) : (q : Int) ≤ 3 := by
  have hu := u_pos
  have hKu : 0 < K * u := Int.mul_pos (by decide) hu
  apply Int.not_lt.mp
  intro hc
  have t1 : K * u * 4 ≤ K * u * q := Int.mul_le_mul_of_nonneg_left (by clear hq; omega) (Int.le_of_lt hKu)
  have t2 : u * zx ≤ u * (3 * K) := Int.mul_le_mul_of_nonneg_left h2 (Int.le_of_lt hu)
  have t3 : u * (-(2 * K)) ≤ u * zx := Int.mul_le_mul_of_nonneg_left h1 (Int.le_of_lt hu)
  have t4 : u * (3 * K) = 3 * (K * u) := by grind
  have t5 : u * (-(2 * K)) = -(2 * (K * u)) := by grind
  have t6 : u * 1 ≤ u * K := Int.mul_le_mul_of_nonneg_left (by decide) (Int.le_of_lt hu)
  have t7 : u * K = K * u := by grind
  clear hc h1 h2
  omega
theorem mz_dn {a b p : Int} (h : a - K * p - 3 ≤ b) : a - K * (p - 1) - 3 ≤ b + K := by rw [Int.mul_sub K p 1]; omega
theorem mz_up {a b p : Int} (h : b ≤ a - K * p + 3) : b + K ≤ a - K * (p - 1) + 3 := by rw [Int.mul_sub K p 1]; omega
theorem le5 {a b : Int} (h : a - 3 ≤ b) : a - 5 ≤ b := by omega
theorem le5' {a b : Int} (h : b ≤ a + 3) : b ≤ a + 5 := by omega
theorem p4 {p : Int} (h1 : -3 ≤ p) (h2 : p ≤ 3) : -4 ≤ p ∧ p ≤ 4 ∧ -4 ≤ p - 1 ∧ p - 1 ≤ 4 := by omega
theorem sgn_cases (a : Bool) (n : Nat) : (a = false ∧ sgn a n = n) ∨ (a = true ∧ sgn a n = -n) := by cases a <;> simp [sgn]
theorem mod_z {x : UInt64} (hx : Fn x) (h1 : -(2 * K) ≤ Z x) (h2 : Z x ≤ 3 * K) :
    Fn (divmod x 4607182418800017408).2 ∧ -3 ≤ Z (divmod x 4607182418800017408).2 ∧ Z (divmod x 4607182418800017408).2 ≤ K + 3 ∧
      ∃ j : Int, -4 ≤ j ∧ j ≤ 4 ∧ Z x - K * j - 5 ≤ Z (divmod x 4607182418800017408).2 ∧ Z (divmod x 4607182418800017408).2 ≤ Z x - K * j + 5 := by
  obtain ⟨w, hw, a, m, e, hd, hR⟩ := fmod_one hx
  have hu := u_pos
  have hK : K = 562949953421312 := rfl
  have hS : ((2 ^ 1074 : Nat) : Int) = K * u := S_int
  have hwlt : w < 2 ^ 1074 := by rw [← hw]; exact Nat.mod_lt _ (Nat.two_pow_pos _)
  have hr := right_int hR (by decide) (by omega)
  obtain ⟨q, hq⟩ : ∃ q : Nat, (val x).natAbs = 2 ^ 1074 * q + w := ⟨(val x).natAbs / 2 ^ 1074, by rw [← hw]; exact (Nat.div_add_mod _ _).symm⟩
  have hq' : ((val x).natAbs : Int) = K * u * q + w := by
    have : (((val x).natAbs : Nat) : Int) = ((2 ^ 1074 * q + w : Nat) : Int) := by rw [hq]
    rw [this, Int.natCast_add, Int.natCast_mul, hS]
  have hwlt' : (w : Int) < K * u := by have : ((w : Nat) : Int) < ((2 ^ 1074 : Nat) : Int) := Int.ofNat_lt.mpr hwlt
                                       omega
  have x1 := Z_lo x
  have x2 := Z_hi x
  generalize hf : fmod x 4607182418800017408 = f at *
  have f1 := Z_lo f
  have f2 := Z_hi f
  have hq3 := mz_q h1 h2 x1 x2 (Int.natCast_nonneg w) hq'
  have hsg := val_sgn hd
  rw [mod_cases, hf]
  have r1 : val f ≤ sgn a w + u := by have := hr.2.1; rw [Int.natCast_one, Int.one_mul, Int.one_mul] at this; exact this
  have r2 : sgn a w ≤ val f + u := by have := hr.2.2.1; rw [Int.natCast_one, Int.one_mul, Int.one_mul] at this; exact this
  have hfn := hr.1
  clear hw hwlt hS hR hq hr hK h1 h2
  have hP : ∃ p : Int, (-3 ≤ p ∧ p ≤ 3) ∧ (Z x - K * p - 3 ≤ Z f ∧ Z f ≤ Z x - K * p + 3) ∧ (-K - 2 ≤ Z f ∧ Z f ≤ K + 2) := by
    rcases sgn_cases a w with ⟨rfl, e⟩ | ⟨rfl, e⟩
    · have e2 : sgn false (val x).natAbs = (val x).natAbs := rfl
      rw [e] at r1 r2
      rw [e2, hq'] at hsg
      exact ⟨q, by clear hsg hq' hwlt' r1 r2 x1 x2 f1 f2; omega, mz_lin x1 x2 f1 f2 hsg r1 r2, mz_rng f1 f2 r1 (by clear hsg hq' hwlt' x1 x2 f1 f2 hq3; omega) hwlt'⟩
    · have e2 : sgn true (val x).natAbs = -(val x).natAbs := rfl
      rw [e] at r1 r2
      rw [e2, hq', Int.neg_add, ← Int.mul_neg] at hsg
      exact ⟨-q, by clear hsg hq' hwlt' r1 r2 x1 x2 f1 f2; omega, mz_lin x1 x2 f1 f2 hsg r1 r2, mz_rng f1 f2 (by clear hsg hq' hwlt' x1 x2 f1 f2 hq3; omega) (by clear hsg hq' hwlt' x1 x2 f1 f2 hq3; omega) hwlt'⟩
  obtain ⟨p, hp, hl, hg⟩ := hP
  have hp4 := p4 hp.1 hp.2
  clear hsg hq' hwlt' r1 r2 x1 x2 hq3 hp
  by_cases hz : isZero f = true
  · rw [if_pos hz]
    have hv0 := isZero_val hfn hz
    have hz0 : Z f = 0 := by unfold Z; rw [hv0]; exact Int.zero_ediv _
    rw [hz0] at hl
    refine ⟨z_zero0.1, by rw [z_zero0.2]; decide, by rw [z_zero0.2]; decide, ?_⟩
    rw [z_zero0.2]
    exact ⟨p, hp4.1, hp4.2.1, le5 hl.1, le5' hl.2⟩
  · rw [if_neg hz]
    have hlt : lt f (zero false) = decide (val f < 0) := by
      unfold lt
      rw [lt_iff hfn (zero_fn false).1, (zero_fn false).2]
    rw [hlt]
    by_cases hn : val f < 0
    · simp only [hn, decide_true, if_true]
      have k1 : Z f ≤ 0 := z_of (by rw [Int.mul_zero]; exact Int.le_of_lt (Int.lt_of_le_of_lt f1 hn))
      have ha := add_z hfn z_one.1 (by rw [z_one.2]; exact fin5 k1) (by rw [z_one.2]; exact fin6 hg.1)
      rw [z_one.2] at ha
      exact ⟨ha.1, fin3 hg.1 ha.2.2, fin4 k1 ha.2.1, p - 1, hp4.2.2.1, hp4.2.2.2, fin1 (mz_dn hl.1) ha.2.2, fin2 (mz_up hl.2) ha.2.1⟩
    · simp only [hn, decide_false, Bool.false_eq_true, if_false]
      have k1 : 0 ≤ Z f := Int.ediv_nonneg (Int.not_lt.mp hn) (Int.le_of_lt hu)
      exact ⟨hfn, Int.le_trans (by decide) k1, Int.le_trans hg.2 (by decide), p, hp4.1, hp4.2.1, le5 hl.1, le5' hl.2⟩
end Fl
end Mine
end
section
open PySem PySem.Float64
namespace Mine
namespace Fl
theorem f15_tab : ∀ n : Nat, n < 16 → isFinite (F15 n) = true ∧ 15 * Z (F15 (n : Int)) ≤ 562949953421312 * (n : Int) ∧ 562949953421312 * (n : Int) ≤ 15 * Z (F15 (n : Int)) + 15 := by decide +kernel
theorem f15_z {r : Int} (h0 : 0 ≤ r) (h1 : r < 16) : Fn (F15 r) ∧ 15 * Z (F15 r) ≤ K * r ∧ K * r ≤ 15 * Z (F15 r) + 15 := by
  obtain ⟨n, rfl⟩ : ∃ n : Nat, r = n := ⟨r.toNat, by omega⟩
  exact f15_tab n (by omega)
theorem f15_lt_tab : ∀ i : Nat, i < 16 → ∀ j : Nat, j < 16 → ltF (F15 i) (F15 j) = decide (i < j) := by decide +kernel
theorem f15_eq_tab : ∀ i : Nat, i < 16 → ∀ j : Nat, j < 16 → eqF (F15 i) (F15 j) = decide (i = j) := by decide +kernel
theorem f15_lt {a b : Int} (a0 : 0 ≤ a) (a1 : a < 16) (b0 : 0 ≤ b) (b1 : b < 16) : ltF (F15 a) (F15 b) = decide (a < b) := by
  obtain ⟨i, rfl⟩ : ∃ n : Nat, a = n := ⟨a.toNat, by omega⟩
  obtain ⟨j, rfl⟩ : ∃ n : Nat, b = n := ⟨b.toNat, by omega⟩
  rw [f15_lt_tab i (by omega) j (by omega)]
  apply decide_eq_decide.mpr; omega
theorem f15_eq {a b : Int} (a0 : 0 ≤ a) (a1 : a < 16) (b0 : 0 ≤ b) (b1 : b < 16) : eqF (F15 a) (F15 b) = decide (a = b) := by
  obtain ⟨i, rfl⟩ : ∃ n : Nat, a = n := ⟨a.toNat, by omega⟩
  obtain ⟨j, rfl⟩ : ∃ n : Nat, b = n := ⟨b.toNat, by omega⟩
  rw [f15_eq_tab i (by omega) j (by omega)]
  apply decide_eq_decide.mpr; omega
theorem mx2_f {a b : Int} (a0 : 0 ≤ a) (a1 : a < 16) (b0 : 0 ≤ b) (b1 : b < 16) : mx2 (F15 a) (F15 b) = F15 (max a b) := by
  unfold mx2
  rw [f15_lt a0 a1 b0 b1]
  by_cases h : a < b
  · simp only [h, decide_true, if_true]; congr 1; omega
  · simp only [h, decide_false, Bool.false_eq_true, if_false]; congr 1; omega
theorem mn2_f {a b : Int} (a0 : 0 ≤ a) (a1 : a < 16) (b0 : 0 ≤ b) (b1 : b < 16) : mn2 (F15 a) (F15 b) = F15 (min a b) := by
  unfold mn2
  rw [f15_lt b0 b1 a0 a1]
  by_cases h : b < a
  · simp only [h, decide_true, if_true]; congr 1; omega
  · simp only [h, decide_false, Bool.false_eq_true, if_false]; congr 1; omega
theorem mul_bnd {e r A B : Int} (e1 : -A ≤ e) (e2 : e ≤ A) (r1 : -B ≤ r) (r2 : r ≤ B) (hA : 0 ≤ A) (hB : 0 ≤ B) : -(A * B) ≤ e * r ∧ e * r ≤ A * B := by
  have h : (e * r).natAbs ≤ (A * B).natAbs := by
    rw [Int.natAbs_mul, Int.natAbs_mul]
    exact Nat.mul_le_mul (by omega) (by omega)
  have h0 := Int.mul_nonneg hA hB
  omega
/-- a difference of two fifteenths -/
theorem dif_z {a b : Int} (a0 : 0 ≤ a) (a1 : a < 16) (b0 : 0 ≤ b) (b1 : b < 16) :
    Fn (sub (F15 a) (F15 b)) ∧ 15 * Z (sub (F15 a) (F15 b)) ≤ K * (a - b) + 45 ∧ K * (a - b) - 45 ≤ 15 * Z (sub (F15 a) (F15 b)) := by
  obtain ⟨fa, ha1, ha2⟩ := f15_z a0 a1
  obtain ⟨fb, hb1, hb2⟩ := f15_z b0 b1
  have hK : K = 562949953421312 := rfl
  have h := sub_z fa fb (by simp only [K] at *; omega) (by simp only [K] at *; omega)
  obtain ⟨hf, h1, h2⟩ := h
  refine ⟨hf, ?_, ?_⟩ <;> (simp only [K] at *; omega)
/-- a share of the range: D times it -/
theorem ratio_int {p q r X D : Int} (D1 : 1 ≤ D) (D15 : D ≤ 15) (_X0 : 0 ≤ X) (_X15 : X ≤ D)
    (p1 : 15 * p ≤ K * X + 45) (p2 : K * X - 45 ≤ 15 * p) (q1 : 15 * q ≤ K * D + 45) (q2 : K * D - 45 ≤ 15 * q)
    (r1 : q * r ≤ K * p + 54 * K) (r2 : K * p ≤ q * r + 54 * K) (r3 : r ≤ 16 * K + 1) (r4 : -(16 * K + 2) ≤ r) :
    D * r ≤ K * X + 2000 ∧ K * X - 2000 ≤ D * r := by
  have hK : K = 562949953421312 := rfl
  have hb := mul_bnd (e := 15 * q - K * D) (r := r) (A := 45) (B := 17 * K) (by omega) (by omega) (by simp only [K] at *; omega) (by simp only [K] at *; omega) (by decide) (by decide)
  have e1 : (15 * q - K * D) * r = 15 * (q * r) - K * (D * r) := by grind
  rw [e1] at hb
  have g1 : 15 * (K * p) ≤ K * (K * X + 45) := by
    have := Int.mul_le_mul_of_nonneg_left p1 (by decide : (0 : Int) ≤ K)
    have e : K * (15 * p) = 15 * (K * p) := by grind
    omega
  have g2 : K * (K * X - 45) ≤ 15 * (K * p) := by
    have := Int.mul_le_mul_of_nonneg_left p2 (by decide : (0 : Int) ≤ K)
    have e : K * (15 * p) = 15 * (K * p) := by grind
    omega
  have e2 : K * (K * X + 45) = K * (K * X) + 45 * K := by grind
  have e3 : K * (K * X - 45) = K * (K * X) - 45 * K := by grind
  have hB : (45 : Int) * (17 * K) = 765 * K := by decide
  constructor
  · refine Int.le_of_mul_le_mul_left (a := K) ?_ (by decide)
    have e4 : K * (K * X + 2000) = K * (K * X) + 2000 * K := by grind
    generalize K * (D * r) = a at *
    generalize K * (K * X) = b at *
    generalize K * p = c at *
    generalize q * r = d at *
    simp only [K] at *
    omega
  · refine Int.le_of_mul_le_mul_left (a := K) ?_ (by decide)
    have e4 : K * (K * X - 2000) = K * (K * X) - 2000 * K := by grind
    generalize K * (D * r) = a at *
    generalize K * (K * X) = b at *
    generalize K * p = c at *
    generalize q * r = d at *
    simp only [K] at *
    omega
end Fl
end Mine
end
section
open PySem PySem.Float64
namespace Mine
namespace Fl
theorem ratio_z {M x m : Int} (m0 : 0 ≤ m) (hmx : m ≤ x) (hxM : x ≤ M) (hM : M < 16) (hmM : m < M) :
    Fn (div (sub (F15 M) (F15 x)) (sub (F15 M) (F15 m))) ∧ (M - m) * Z (div (sub (F15 M) (F15 x)) (sub (F15 M) (F15 m))) ≤ K * (M - x) + 2000 ∧ K * (M - x) - 2000 ≤ (M - m) * Z (div (sub (F15 M) (F15 x)) (sub (F15 M) (F15 m))) := by
  obtain ⟨f1, a1, a2⟩ := dif_z (a := M) (b := x) (by omega) (by omega) (by omega) (by omega)
  obtain ⟨f2, b1, b2⟩ := dif_z (a := M) (b := m) (by omega) (by omega) (by omega) (by omega)
  obtain ⟨f3, c1, c2, c3, c4⟩ := div_z f1 f2 (by simp only [K] at *; omega) (by simp only [K] at *; omega) (by simp only [K] at *; omega) (by simp only [K] at *; omega)
  exact ⟨f3, ratio_int (by omega) (by omega) (by omega) (by omega) a1 a2 b1 b2 c1 c2 c3 c4⟩
theorem up_of {D a c : Int} (h1 : 1 ≤ D) (h : D * a ≤ c) (hc : 0 ≤ c) : a ≤ c := by
  apply Int.not_lt.mp
  intro hlt
  have : 1 * a ≤ D * a := Int.mul_le_mul_of_nonneg_right h1 (by omega)
  omega
theorem lo_of {D a c : Int} (h1 : 1 ≤ D) (h : -c ≤ D * a) (hc : 0 ≤ c) : -c ≤ a := by
  have h' : D * (-a) ≤ c := by rw [Int.mul_neg]; omega
  have := up_of h1 h' hc
  omega
/-- a share lies near nought to one -/
theorem ratio_rng {D X z : Int} (h1 : 1 ≤ D) (hX0 : 0 ≤ X) (hXD : X ≤ D) (a : D * z ≤ K * X + 2000) (b : K * X - 2000 ≤ D * z) : -2000 ≤ z ∧ z ≤ K + 2000 := by
  have e : D * (z - K) = D * z - K * D := by grind
  have t : K * X ≤ K * D := Int.mul_le_mul_of_nonneg_left hXD (by decide)
  have t0 : 0 ≤ K * X := Int.mul_nonneg (by decide) hX0
  have := up_of (D := D) (a := z - K) (c := 2000) h1 (by omega) (by decide)
  have := lo_of (D := D) (a := z) (c := 2000) h1 (by omega) (by decide)
  omega
theorem hue_int {D N z r y j : Int} (D1 : 1 ≤ D) (D15 : D ≤ 15) (a1 : D * z ≤ K * N + 5000) (a2 : K * N - 5000 ≤ D * z)
    (b1 : 6 * r ≤ z + 54) (b2 : z ≤ 6 * r + 54) (c1 : r - K * j - 5 ≤ y) (c2 : y ≤ r - K * j + 5) :
    6 * (D * y) ≤ K * N - 6 * (D * (K * j)) + 7000 ∧ K * N - 6 * (D * (K * j)) - 7000 ≤ 6 * (D * y) := by
  have g1 : D * (6 * r) ≤ D * (z + 54) := Int.mul_le_mul_of_nonneg_left b1 (by omega)
  have g2 : D * z ≤ D * (6 * r + 54) := Int.mul_le_mul_of_nonneg_left b2 (by omega)
  have g3 : D * (r - K * j - 5) ≤ D * y := Int.mul_le_mul_of_nonneg_left c1 (by omega)
  have g4 : D * y ≤ D * (r - K * j + 5) := Int.mul_le_mul_of_nonneg_left c2 (by omega)
  have e1 : D * (6 * r) = 6 * (D * r) := by grind
  have e2 : D * (z + 54) = D * z + 54 * D := by grind
  have e3 : D * (6 * r + 54) = 6 * (D * r) + 54 * D := by grind
  have e4 : D * (r - K * j - 5) = D * r - D * (K * j) - 5 * D := by grind
  have e5 : D * (r - K * j + 5) = D * r - D * (K * j) + 5 * D := by grind
  omega
theorem six_cancel {r z : Int} (h : 3377699720527872 * r ≤ K * z + 54 * K) : 6 * r ≤ z + 54 := by simp only [K] at h; omega
theorem six_cancel' {r z : Int} (h : K * z ≤ 3377699720527872 * r + 54 * K) : z ≤ 6 * r + 54 := by simp only [K] at h; omega
theorem sixth_rng {r z : Int} (h1 : 6 * r ≤ z + 54) (h2 : z ≤ 6 * r + 54) (z1 : -(7 * K) ≤ z) (z2 : z ≤ 7 * K) : -(2 * K) ≤ r ∧ r ≤ 3 * K := by simp only [K] at *; omega
theorem six_pre {z : Int} (z1 : -(7 * K) ≤ z) (z2 : z ≤ 7 * K) : z + 1 ≤ 16 * 3377699720527872 ∧ -(16 * 3377699720527872) ≤ z := by simp only [K] at *; omega
theorem hue_core {h : UInt64} {D N : Int} (fh : Fn h) (D1 : 1 ≤ D) (D15 : D ≤ 15) (a1 : D * Z h ≤ K * N + 5000) (a2 : K * N - 5000 ≤ D * Z h) (z1 : -(7 * K) ≤ Z h) (z2 : Z h ≤ 7 * K) :
    Fn (divmod (div h 4618441417868443648) 4607182418800017408).2 ∧ -3 ≤ Z (divmod (div h 4618441417868443648) 4607182418800017408).2 ∧ Z (divmod (div h 4618441417868443648) 4607182418800017408).2 ≤ K + 3 ∧
      ∃ j : Int, -4 ≤ j ∧ j ≤ 4 ∧ 6 * (D * Z (divmod (div h 4618441417868443648) 4607182418800017408).2) ≤ K * N - 6 * (D * (K * j)) + 7000 ∧ K * N - 6 * (D * (K * j)) - 7000 ≤ 6 * (D * Z (divmod (div h 4618441417868443648) 4607182418800017408).2) := by
  have hp := six_pre z1 z2
  obtain ⟨f2, c1, c2, c3, c4⟩ := div_z fh z_six.1 (by rw [z_six.2]; decide) (by rw [z_six.2]; decide) (by rw [z_six.2]; exact hp.1) (by rw [z_six.2]; exact hp.2)
  rw [z_six.2] at c1 c2
  have d1 := six_cancel c1
  have d2 := six_cancel' c2
  have hr := sixth_rng d1 d2 z1 z2
  obtain ⟨f3, e1, e2, j, j1, j2, e3, e4⟩ := mod_z f2 hr.1 hr.2
  exact ⟨f3, e1, e2, j, j1, j2, hue_int D1 D15 a1 a2 d1 d2 e3 e4⟩
end Fl
end Mine
end
section
open PySem PySem.Float64
namespace Mine
namespace Fl
def hueN (r g b M D : Int) : Int := if r = M then g - b else if g = M then 2 * D + (b - r) else 4 * D + (r - g)
/-- where the hue lies: P over six times the range -/
def HueAt (h : UInt64) (D N : Int) : Prop := Fn h ∧ -3 ≤ Z h ∧ Z h ≤ K + 3 ∧ ∃ P j : Int, -4 ≤ j ∧ j ≤ 4 ∧ P = N - 6 * (D * j) ∧ 0 ≤ P ∧ P ≤ 6 * D ∧ 6 * (D * Z h) ≤ K * P + 7000 ∧ K * P - 7000 ≤ 6 * (D * Z h)
theorem hueP_int {D P z : Int} (D1 : 1 ≤ D) (D15 : D ≤ 15) (b1 : -3 ≤ z) (b2 : z ≤ K + 3) (c1 : 6 * (D * z) ≤ K * P + 7000) (c2 : K * P - 7000 ≤ 6 * (D * z)) : 0 ≤ P ∧ P ≤ 6 * D := by
  have g1 : D * (-3) ≤ D * z := Int.mul_le_mul_of_nonneg_left b1 (by omega)
  have g2 : D * z ≤ D * (K + 3) := Int.mul_le_mul_of_nonneg_left b2 (by omega)
  have e2 : D * (K + 3) = K * D + 3 * D := by grind
  rw [e2] at g2
  generalize D * z = q at *
  simp only [K] at *
  omega
theorem hueAt_of {h : UInt64} {D N : Int} (fh : Fn h) (D1 : 1 ≤ D) (D15 : D ≤ 15) (a1 : D * Z h ≤ K * N + 5000) (a2 : K * N - 5000 ≤ D * Z h) (z1 : -(7 * K) ≤ Z h) (z2 : Z h ≤ 7 * K) :
    HueAt (divmod (div h 4618441417868443648) 4607182418800017408).2 D N := by
  obtain ⟨f, b1, b2, j, j1, j2, c1, c2⟩ := hue_core fh D1 D15 a1 a2 z1 z2
  have e : K * N - 6 * (D * (K * j)) = K * (N - 6 * (D * j)) := by grind
  rw [e] at c1 c2
  have hp := hueP_int D1 D15 b1 b2 c1 c2
  exact ⟨f, b1, b2, N - 6 * (D * j), j, j1, j2, rfl, hp.1, hp.2, c1, c2⟩
theorem pre_sub {x y : Int} (a1 : -2000 ≤ x) (a2 : x ≤ K + 2000) (b1 : -2000 ≤ y) (b2 : y ≤ K + 2000) : x - y + 2 ≤ 16 * K ∧ -(15 * K) + 1 ≤ x - y := by simp only [K] at *; omega
theorem hue0_int {D x y s X Y : Int} (D1 : 1 ≤ D) (D15 : D ≤ 15) (x1 : D * x ≤ K * X + 2000) (x2 : K * X - 2000 ≤ D * x) (y1 : D * y ≤ K * Y + 2000) (y2 : K * Y - 2000 ≤ D * y)
    (s1 : s ≤ x - y + 2) (s2 : x - y - 2 ≤ s) : D * s ≤ K * (X - Y) + 5000 ∧ K * (X - Y) - 5000 ≤ D * s := by
  have g1 : D * s ≤ D * (x - y + 2) := Int.mul_le_mul_of_nonneg_left s1 (by omega)
  have g2 : D * (x - y - 2) ≤ D * s := Int.mul_le_mul_of_nonneg_left s2 (by omega)
  have e1 : D * (x - y + 2) = D * x - D * y + 2 * D := by grind
  have e2 : D * (x - y - 2) = D * x - D * y - 2 * D := by grind
  have e3 : K * (X - Y) = K * X - K * Y := by grind
  omega
theorem hue1_int {D x y a s X Y c C : Int} (D1 : 1 ≤ D) (D15 : D ≤ 15) (hC : C = K * c) (x1 : D * x ≤ K * X + 2000) (x2 : K * X - 2000 ≤ D * x) (y1 : D * y ≤ K * Y + 2000) (y2 : K * Y - 2000 ≤ D * y)
    (a1 : a ≤ C + x + 2) (a2 : C + x - 1 ≤ a) (s1 : s ≤ a - y + 2) (s2 : a - y - 2 ≤ s) : D * s ≤ K * (c * D + (X - Y)) + 5000 ∧ K * (c * D + (X - Y)) - 5000 ≤ D * s := by
  have g1 : D * s ≤ D * (C + x - y + 4) := Int.mul_le_mul_of_nonneg_left (by omega) (by omega)
  have g2 : D * (C + x - y - 3) ≤ D * s := Int.mul_le_mul_of_nonneg_left (by omega) (by omega)
  have e1 : D * (C + x - y + 4) = K * (c * D) + D * x - D * y + 4 * D := by rw [hC]; grind
  have e2 : D * (C + x - y - 3) = K * (c * D) + D * x - D * y - 3 * D := by rw [hC]; grind
  have e3 : K * (c * D + (X - Y)) = K * (c * D) + K * X - K * Y := by grind
  omega
theorem hz_c {C c x : Int} (hC : C = K * c) (c1 : 2 ≤ c) (c4 : c ≤ 4) (a1 : -2000 ≤ x) (a2 : x ≤ K + 2000) : C + x + 2 ≤ 16 * K ∧ -(15 * K) ≤ C + x := by subst hC; simp only [K] at *; omega
theorem hz_s {C c x y a : Int} (hC : C = K * c) (c1 : 2 ≤ c) (c4 : c ≤ 4) (x1 : -2000 ≤ x) (x2 : x ≤ K + 2000) (y1 : -2000 ≤ y) (y2 : y ≤ K + 2000) (a1 : a ≤ C + x + 2) (a2 : C + x - 1 ≤ a) :
    a - y + 2 ≤ 16 * K ∧ -(15 * K) + 1 ≤ a - y := by subst hC; simp only [K] at *; omega
theorem hz_r {C c x y a s : Int} (hC : C = K * c) (c1 : 2 ≤ c) (c4 : c ≤ 4) (x1 : -2000 ≤ x) (x2 : x ≤ K + 2000) (y1 : -2000 ≤ y) (y2 : y ≤ K + 2000) (a1 : a ≤ C + x + 2) (a2 : C + x - 1 ≤ a) (s1 : s ≤ a - y + 2) (s2 : a - y - 2 ≤ s) :
    -(7 * K) ≤ s ∧ s ≤ 7 * K := by subst hC; simp only [K] at *; omega
theorem hz_0 {x y s : Int} (x1 : -2000 ≤ x) (x2 : x ≤ K + 2000) (y1 : -2000 ≤ y) (y2 : y ≤ K + 2000) (s1 : s ≤ x - y + 2) (s2 : x - y - 2 ≤ s) : -(7 * K) ≤ s ∧ s ≤ 7 * K := by simp only [K] at *; omega
theorem df {M a b : Int} : a - b = (M - b) - (M - a) := by omega
theorem sub0 {M a : Int} (h : a ≤ M) : 0 ≤ M - a := by omega
theorem sub1 {M m a : Int} (h : m ≤ a) : M - a ≤ M - m := by omega
theorem sub2 {M m : Int} (h : m < M) : 1 ≤ M - m := by omega
theorem sub3 {M m : Int} (h : 0 ≤ m) (h' : M < 16) : M - m ≤ 15 := by omega
theorem hue_z {r g b M m : Int} (m0 : 0 ≤ m) (hM : M < 16) (hmM : m < M) (r1 : m ≤ r) (r2 : r ≤ M) (g1 : m ≤ g) (g2 : g ≤ M) (b1 : m ≤ b) (b2 : b ≤ M) :
    HueAt (hueF (F15 r) (F15 g) (F15 b) (F15 M) (sub (F15 M) (F15 m))) (M - m) (hueN r g b M (M - m)) := by
  obtain ⟨fr, r3, r4⟩ := ratio_z m0 r1 r2 hM hmM
  obtain ⟨fg, g3, g4⟩ := ratio_z m0 g1 g2 hM hmM
  obtain ⟨fb, b3, b4⟩ := ratio_z m0 b1 b2 hM hmM
  obtain ⟨r5, r6⟩ := ratio_rng (sub2 hmM) (sub0 r2) (sub1 r1) r3 r4
  obtain ⟨g5, g6⟩ := ratio_rng (sub2 hmM) (sub0 g2) (sub1 g1) g3 g4
  obtain ⟨b5, b6⟩ := ratio_rng (sub2 hmM) (sub0 b2) (sub1 b1) b3 b4
  unfold hueF hueN
  have M0 := Int.le_trans m0 (Int.le_of_lt hmM)
  rw [f15_eq (Int.le_trans m0 r1) (Int.lt_of_le_of_lt r2 hM) M0 hM, f15_eq (Int.le_trans m0 g1) (Int.lt_of_le_of_lt g2 hM) M0 hM]
  generalize div (sub (F15 M) (F15 r)) (sub (F15 M) (F15 m)) = rc at *
  generalize div (sub (F15 M) (F15 g)) (sub (F15 M) (F15 m)) = gc at *
  generalize div (sub (F15 M) (F15 b)) (sub (F15 M) (F15 m)) = bc at *
  have D1 : 1 ≤ M - m := sub2 hmM
  have D15 : M - m ≤ 15 := sub3 m0 hM
  generalize hD : M - m = D at *
  by_cases hr : r = M
  · simp only [hr, decide_true, if_true]
    have hp := pre_sub b5 b6 g5 g6
    obtain ⟨fs, s1, s2⟩ := sub_z fb fg hp.1 hp.2
    have hs := hue0_int D1 D15 b3 b4 g3 g4 s1 s2
    have hz := hz_0 b5 b6 g5 g6 s1 s2
    refine hueAt_of fs D1 D15 ?_ ?_ hz.1 hz.2
    · rw [df (M := M) (a := g) (b := b)]; exact hs.1
    · rw [df (M := M) (a := g) (b := b)]; exact hs.2
  · simp only [hr, decide_false, Bool.false_eq_true, if_false]
    by_cases hg : g = M
    · simp only [hg, decide_true, if_true]
      have hC : (1125899906842624 : Int) = K * 2 := by decide
      have hc := hz_c hC (by decide) (by decide) r5 r6
      obtain ⟨fa, a1, a2⟩ := add_z z_two.1 fr (by rw [z_two.2]; exact hc.1) (by rw [z_two.2]; exact hc.2)
      rw [z_two.2] at a1 a2
      generalize add 4611686018427387904 rc = a at *
      have hq := hz_s hC (by decide) (by decide) r5 r6 b5 b6 a1 a2
      obtain ⟨fs, s1, s2⟩ := sub_z fa fb hq.1 hq.2
      have hr' := hz_r hC (by decide) (by decide) r5 r6 b5 b6 a1 a2 s1 s2
      have hs := hue1_int D1 D15 hC r3 r4 b3 b4 a1 a2 s1 s2
      refine hueAt_of fs D1 D15 ?_ ?_ ?_ ?_
      · rw [df (M := M) (a := b) (b := r)]; exact hs.1
      · rw [df (M := M) (a := b) (b := r)]; exact hs.2
      · exact hr'.1
      · exact hr'.2
    · simp only [hg, decide_false, Bool.false_eq_true, if_false]
      have hC : (2251799813685248 : Int) = K * 4 := by decide
      have hc := hz_c hC (by decide) (by decide) g5 g6
      obtain ⟨fa, a1, a2⟩ := add_z z_four.1 fg (by rw [z_four.2]; exact hc.1) (by rw [z_four.2]; exact hc.2)
      rw [z_four.2] at a1 a2
      generalize add 4616189618054758400 gc = a at *
      have hq := hz_s hC (by decide) (by decide) g5 g6 r5 r6 a1 a2
      obtain ⟨fs, s1, s2⟩ := sub_z fa fr hq.1 hq.2
      have hr' := hz_r hC (by decide) (by decide) g5 g6 r5 r6 a1 a2 s1 s2
      have hs := hue1_int D1 D15 hC g3 g4 r3 r4 a1 a2 s1 s2
      refine hueAt_of fs D1 D15 ?_ ?_ ?_ ?_
      · rw [df (M := M) (a := r) (b := g)]; exact hs.1
      · rw [df (M := M) (a := r) (b := g)]; exact hs.2
      · exact hr'.1
      · exact hr'.2
end Fl
end Mine
end
section
open PySem PySem.Float64
namespace Mine
namespace Fl
/-- shares multiply: X over A, times A over B -/
theorem prod_int {A B X x y z e e' c g : Int} (B0 : 0 ≤ B) (hc : 0 ≤ c) (he' : 0 ≤ e')
    (x1 : A * x ≤ K * X + e) (x2 : K * X - e ≤ A * x) (y1 : B * y ≤ K * A + e') (y2 : K * A - e' ≤ B * y)
    (b1 : -(c * K) ≤ x) (b2 : x ≤ c * K) (z1 : K * z ≤ x * y + g * K) (z2 : x * y ≤ K * z + g * K) :
    B * z ≤ K * X + (e' * c + e + g * B) ∧ K * X - (e' * c + e + g * B) ≤ B * z := by
  have hb := mul_bnd (e := B * y - K * A) (r := x) (A := e') (B := c * K) (by omega) (by omega) b1 b2 he' (Int.mul_nonneg hc (by decide))
  have e1 : (B * y - K * A) * x = B * (x * y) - K * (A * x) := by grind
  rw [e1] at hb
  have f1 : B * (K * z) ≤ B * (x * y + g * K) := Int.mul_le_mul_of_nonneg_left z1 B0
  have f2 : B * (x * y) ≤ B * (K * z + g * K) := Int.mul_le_mul_of_nonneg_left z2 B0
  have f3 : K * (A * x) ≤ K * (K * X + e) := Int.mul_le_mul_of_nonneg_left x1 (by decide)
  have f4 : K * (K * X - e) ≤ K * (A * x) := Int.mul_le_mul_of_nonneg_left x2 (by decide)
  have g1 : B * (x * y + g * K) = B * (x * y) + K * (g * B) := by grind
  have g2 : B * (K * z + g * K) = K * (B * z) + K * (g * B) := by grind
  have g3 : B * (K * z) = K * (B * z) := by grind
  have g4 : K * (K * X + e) = K * (K * X) + K * e := by grind
  have g5 : K * (K * X - e) = K * (K * X) - K * e := by grind
  have g6 : e' * (c * K) = K * (e' * c) := by grind
  rw [g1, g3] at f1
  rw [g2] at f2
  rw [g4] at f3
  rw [g5] at f4
  rw [g6] at hb
  have h1 : K * (K * X + (e' * c + e + g * B)) = K * (K * X) + K * (e' * c) + K * e + K * (g * B) := by grind
  have h2 : K * (K * X - (e' * c + e + g * B)) = K * (K * X) - K * (e' * c) - K * e - K * (g * B) := by grind
  constructor
  · refine Int.le_of_mul_le_mul_left (a := K) ?_ (by decide)
    rw [h1]
    clear h1 h2 g1 g2 g3 g4 g5 g6 e1 x1 x2 y1 y2 z1 z2 b1 b2
    omega
  · refine Int.le_of_mul_le_mul_left (a := K) ?_ (by decide)
    rw [h2]
    clear h1 h2 g1 g2 g3 g4 g5 g6 e1 x1 x2 y1 y2 z1 z2 b1 b2
    omega
theorem k_cancel {a b n : Int} (h : K * a ≤ (K * n) * b + 34 * K) : a ≤ n * b + 34 := by
  refine Int.le_of_mul_le_mul_left (a := K) ?_ (by decide)
  have : K * (n * b + 34) = (K * n) * b + 34 * K := by grind
  omega
theorem k_cancel' {a b n : Int} (h : (K * n) * b ≤ K * a + 36 * K) : n * b ≤ a + 36 := by
  refine Int.le_of_mul_le_mul_left (a := K) ?_ (by decide)
  have : K * (n * b) = (K * n) * b := by grind
  have : K * (a + 36) = K * a + 36 * K := by grind
  omega
theorem mul15_z {o : UInt64} (fo : Fn o) (h1 : -(K + 30000000) ≤ Z o) (h2 : Z o ≤ K + 30000000) :
    Fn (mul 4624633867356078080 o) ∧ Z (mul 4624633867356078080 o) ≤ 15 * Z o + 34 ∧ 15 * Z o ≤ Z (mul 4624633867356078080 o) + 36 := by
  obtain ⟨f, a1, a2⟩ := mul_z (15 * K) (K + 30000000) z_fift.1 fo (by rw [z_fift.2]; decide) (by rw [z_fift.2]; decide) h1 h2 (by decide) (by decide) (by decide) (by decide) (by decide)
  rw [z_fift.2, show (8444249301319680 : Int) = K * 15 from by decide] at a1 a2
  exact ⟨f, k_cancel a1, k_cancel' a2⟩
theorem mul6_z {o : UInt64} (fo : Fn o) (h1 : -(2 * K) ≤ Z o) (h2 : Z o ≤ 2 * K) :
    Fn (mul o 4618441417868443648) ∧ Z (mul o 4618441417868443648) ≤ 6 * Z o + 34 ∧ 6 * Z o ≤ Z (mul o 4618441417868443648) + 36 := by
  obtain ⟨f, a1, a2⟩ := mul_z (2 * K) (6 * K) fo z_six.1 h1 h2 (by rw [z_six.2]; decide) (by rw [z_six.2]; decide) (by decide) (by decide) (by decide) (by decide) (by decide)
  rw [z_six.2, Int.mul_comm (Z o), show (3377699720527872 : Int) = K * 6 from by decide] at a1 a2
  exact ⟨f, k_cancel a1, k_cancel' a2⟩
theorem back_pre {z Q : Int} (Q0 : 0 ≤ Q) (Q15 : Q ≤ 15) (o1 : 15 * z ≤ K * Q + 40000) (o2 : K * Q - 40000 ≤ 15 * z) : -(K + 30000000) ≤ z ∧ z ≤ K + 30000000 := by simp only [K] at *; omega
theorem back_pre2 {z a Q : Int} (Q0 : 0 ≤ Q) (Q15 : Q ≤ 15) (o1 : 15 * z ≤ K * Q + 40000) (o2 : K * Q - 40000 ≤ 15 * z) (a1 : a ≤ 15 * z + 34) (a2 : 15 * z ≤ a + 36) :
    a + 281474976710656 + 2 ≤ 16 * K ∧ -(15 * K) ≤ a + 281474976710656 := by simp only [K] at *; omega
theorem back_pre3 {z a b Q : Int} (Q0 : 0 ≤ Q) (o1 : 15 * z ≤ K * Q + 40000) (o2 : K * Q - 40000 ≤ 15 * z) (a1 : a ≤ 15 * z + 34) (a2 : 15 * z ≤ a + 36)
    (b1 : b ≤ a + 281474976710656 + 2) (b2 : a + 281474976710656 - 1 ≤ b) : 0 ≤ b ∧ K * Q ≤ b ∧ b < K * Q + K := by simp only [K] at *; omega
theorem back_end {b Q i : Int} (h1 : K * Q ≤ b) (h2 : b < K * Q + K) (h0 : 0 ≤ b) (h : (0 ≤ b ∧ K * i ≤ b ∧ b < K * i + K) ∨ (b < 0 ∧ i = 0)) : i = Q := by simp only [K] at *; omega
theorem back_z {o : UInt64} {Q : Int} (fo : Fn o) (Q0 : 0 ≤ Q) (Q15 : Q ≤ 15) (o1 : 15 * Z o ≤ K * Q + 40000) (o2 : K * Q - 40000 ≤ 15 * Z o) : Back o Q := by
  have hp := back_pre Q0 Q15 o1 o2
  obtain ⟨f1, a1, a2⟩ := mul15_z fo hp.1 hp.2
  have hp2 := back_pre2 Q0 Q15 o1 o2 a1 a2
  obtain ⟨f2, b1, b2⟩ := add_z f1 z_half.1 (by rw [z_half.2]; exact hp2.1) (by rw [z_half.2]; exact hp2.2)
  rw [z_half.2] at b1 b2
  have hp3 := back_pre3 Q0 o1 o2 a1 a2 b1 b2
  refine ⟨f2, ?_⟩
  have hi := iF_z f2 (Int.lt_of_lt_of_le (by decide) hp3.1)
  exact back_end hp3.2.1 hp3.2.2 hp3.1 hi
/-- the number of fifteenths that a float stands for -/
def At (x : UInt64) (T X e : Int) : Prop := Fn x ∧ T * Z x ≤ K * X + e ∧ K * X - e ≤ T * Z x
theorem At.wk {x : UInt64} {T X e e' : Int} (h : At x T X e) (he : e ≤ e') : At x T X e' := ⟨h.1, by have := h.2.1; omega, by have := h.2.2; omega⟩
theorem At.back {x : UInt64} {Q e : Int} (h : At x 15 Q e) (Q0 : 0 ≤ Q) (Q15 : Q ≤ 15) (he : e ≤ 40000) : Back x Q := by
  have h' := h.wk he
  exact back_z h'.1 Q0 Q15 h'.2.1 h'.2.2
theorem at_rng_int {T X z e c : Int} (T1 : 1 ≤ T) (X0 : 0 ≤ X) (XT : X ≤ c * T) (e0 : 0 ≤ e) (h1 : T * z ≤ K * X + e) (h2 : K * X - e ≤ T * z) : -e ≤ z ∧ z ≤ c * K + e := by
  have e1 : T * (z - c * K) = T * z - K * (c * T) := by grind
  have t : K * X ≤ K * (c * T) := Int.mul_le_mul_of_nonneg_left XT (by decide)
  have t0 : 0 ≤ K * X := Int.mul_nonneg (by decide) X0
  have := up_of (D := T) (a := z - c * K) (c := e) T1 (by omega) e0
  have := lo_of (D := T) (a := z) (c := e) T1 (by omega) e0
  omega
theorem At.rng {x : UInt64} {T X e : Int} (h : At x T X e) (T1 : 1 ≤ T) (X0 : 0 ≤ X) (XT : X ≤ T) (e0 : 0 ≤ e) (he : e ≤ 40000) : -40000 ≤ Z x ∧ Z x ≤ K + 40000 := by
  have := at_rng_int (c := 1) T1 X0 (by omega) e0 h.2.1 h.2.2
  omega
theorem pre_mul {z : Int} (h : -40000 ≤ z ∧ z ≤ K + 40000) : -(2 * K) ≤ z ∧ z ≤ 2 * K := by simp only [K] at *; omega
/-- a product of shares -/
theorem At.mul {x y : UInt64} {A B X e e' : Int} (hx : At x A X e) (hy : At y B A e') (A1 : 1 ≤ A) (B1 : 1 ≤ B) (B15 : B ≤ 15) (X0 : 0 ≤ X) (XA : X ≤ A) (AB : A ≤ B) (e0 : 0 ≤ e) (e0' : 0 ≤ e') (he : e ≤ 40000) (he' : e' ≤ 40000) :
    At (mul y x) B X (e' * 2 + e + 540) := by
  have rx := pre_mul (hx.rng A1 X0 XA e0 he)
  have ry := pre_mul (hy.rng B1 (by omega) AB e0' he')
  obtain ⟨f, a1, a2⟩ := mul_z (2 * K) (2 * K) hy.1 hx.1 ry.1 ry.2 rx.1 rx.2 (by decide) (by decide) (by decide) (by decide) (by decide)
  rw [Int.mul_comm (Z y)] at a1 a2
  have h := prod_int (c := 2) (g := 36) (by omega) (by decide) e0' hx.2.1 hx.2.2 hy.2.1 hy.2.2 rx.1 rx.2 (Int.le_trans a1 (by simp only [K]; omega)) a2
  exact ⟨f, by have := h.1; omega, by have := h.2; omega⟩
theorem one_sub_int {T X e z s : Int} (T1 : 1 ≤ T) (h1 : T * z ≤ K * X + e) (h2 : K * X - e ≤ T * z) (s1 : s ≤ 562949953421312 - z + 2) (s2 : 562949953421312 - z - 2 ≤ s) :
    T * s ≤ K * (T - X) + (e + 2 * T) ∧ K * (T - X) - (e + 2 * T) ≤ T * s := by
  have g1 : T * s ≤ T * (K - z + 2) := Int.mul_le_mul_of_nonneg_left s1 (by omega)
  have g2 : T * (K - z - 2) ≤ T * s := Int.mul_le_mul_of_nonneg_left s2 (by omega)
  have e1 : T * (K - z + 2) = K * T - T * z + 2 * T := by grind
  have e2 : T * (K - z - 2) = K * T - T * z - 2 * T := by grind
  have e3 : K * (T - X) = K * T - K * X := by grind
  omega
theorem one_sub_pre {z : Int} (h : -40000 ≤ z ∧ z ≤ K + 40000) : 562949953421312 - z + 2 ≤ 16 * K ∧ -(15 * K) + 1 ≤ 562949953421312 - z := by simp only [K] at *; omega
theorem At.one_sub {x : UInt64} {T X e : Int} (h : At x T X e) (T1 : 1 ≤ T) (X0 : 0 ≤ X) (XT : X ≤ T) (e0 : 0 ≤ e) (he : e ≤ 40000) : At (sub 4607182418800017408 x) T (T - X) (e + 2 * T) := by
  have hp := one_sub_pre (h.rng T1 X0 XT e0 he)
  obtain ⟨f, s1, s2⟩ := sub_z z_one.1 h.1 (by rw [z_one.2]; exact hp.1) (by rw [z_one.2]; exact hp.2)
  rw [z_one.2] at s1 s2
  exact ⟨f, one_sub_int T1 h.2.1 h.2.2 s1 s2⟩
end Fl
end Mine
end
section
open PySem PySem.Float64
namespace Mine
namespace Fl
theorem small_tab : ∀ n : Nat, n < 10 → isFinite (ofInt (n : Int)) = true ∧ Z (ofInt (n : Int)) = 562949953421312 * (n : Int) := by decide +kernel
theorem small_z {i : Int} (h0 : 0 ≤ i) (h1 : i < 10) : Fn (ofInt i) ∧ Z (ofInt i) = K * i := by
  obtain ⟨n, rfl⟩ : ∃ n : Nat, i = n := ⟨i.toNat, by omega⟩
  exact small_tab n (by omega)
theorem f15_at {r : Int} (h0 : 0 ≤ r) (h1 : r < 16) : At (F15 r) 15 r 15 := by
  obtain ⟨f, a, b⟩ := f15_z h0 h1
  exact ⟨f, by omega, by omega⟩
/-- a hue that has been moved: W over six times the range -/
structure Hue6 (h : UInt64) (D W : Int) : Prop where
  fn : Fn h
  lo : -40000 ≤ Z h
  hi : Z h ≤ 2 * K
  up : 6 * (D * Z h) ≤ K * W + 8000
  dn : K * W - 8000 ≤ 6 * (D * Z h)
theorem six_int {D W z s : Int} (D1 : 1 ≤ D) (D15 : D ≤ 15) (u1 : 6 * (D * z) ≤ K * W + 8000) (u2 : K * W - 8000 ≤ 6 * (D * z)) (a1 : s ≤ 6 * z + 34) (a2 : 6 * z ≤ s + 36) :
    D * s ≤ K * W + 9000 ∧ K * W - 9000 ≤ D * s := by
  have g1 : D * s ≤ D * (6 * z + 34) := Int.mul_le_mul_of_nonneg_left a1 (by omega)
  have g2 : D * (6 * z) ≤ D * (s + 36) := Int.mul_le_mul_of_nonneg_left a2 (by omega)
  have e1 : D * (6 * z + 34) = 6 * (D * z) + 34 * D := by grind
  have e2 : D * (6 * z) = 6 * (D * z) := by grind
  have e3 : D * (s + 36) = D * s + 36 * D := by grind
  omega
theorem six_lo {z s : Int} (h : -40000 ≤ z) (a2 : 6 * z ≤ s + 36) : -K < s := by simp only [K] at *; omega
theorem six_i {z s i : Int} (h1 : -40000 ≤ z) (h2 : z ≤ 2 * K) (a1 : s ≤ 6 * z + 34) (a2 : 6 * z ≤ s + 36) (h : (0 ≤ s ∧ K * i ≤ s ∧ s < K * i + K) ∨ (s < 0 ∧ i = 0)) :
    0 ≤ i ∧ i < 13 ∧ -300000 ≤ s - K * i ∧ s - K * i < K := by simp only [K] at *; omega
theorem six_i9 {D W s i : Int} (D1 : 1 ≤ D) (hW : W ≤ 8 * D) (D15 : D ≤ 15) (u1 : D * s ≤ K * W + 9000) (h : K * i ≤ s ∨ i = 0) : i < 10 := by
  apply Int.not_le.mp
  intro hi
  have : 10 * K ≤ s := by
    rcases h with h | h
    · simp only [K] at *; omega
    · omega
  have g : D * (10 * K) ≤ D * s := Int.mul_le_mul_of_nonneg_left this (by omega)
  have e : D * (10 * K) = 10 * (K * D) := by grind
  rw [e] at g
  generalize D * s = q at *
  simp only [K] at *
  omega
theorem f_int {D W s i z : Int} (D1 : 1 ≤ D) (D15 : D ≤ 15) (u1 : D * s ≤ K * W + 9000) (u2 : K * W - 9000 ≤ D * s) (r1 : s - K * i < K)
    (a1 : z ≤ s - K * i + 2) (a2 : s - K * i - 2 ≤ z) (r0 : D * (s - K * i) < 0 → i = 0 ∧ 0 ≤ W ∨ False) :
    (D * z ≤ K * (W - i * D) + 9100 ∧ K * (W - i * D) - 9100 ≤ D * z) ∧ 0 ≤ W - i * D ∧ W - i * D ≤ D := by
  have g1 : D * z ≤ D * (s - K * i + 2) := Int.mul_le_mul_of_nonneg_left a1 (by omega)
  have g2 : D * (s - K * i - 2) ≤ D * z := Int.mul_le_mul_of_nonneg_left a2 (by omega)
  have e1 : D * (s - K * i + 2) = D * s - K * (i * D) + 2 * D := by grind
  have e2 : D * (s - K * i - 2) = D * s - K * (i * D) - 2 * D := by grind
  have e3 : K * (W - i * D) = K * W - K * (i * D) := by grind
  have e4 : D * (s - K * i) = D * s - K * (i * D) := by grind
  have g3 : D * (s - K * i) ≤ D * (K - 1) := Int.mul_le_mul_of_nonneg_left (by omega) (by omega)
  have e5 : D * (K - 1) = K * D - D := by grind
  refine ⟨by omega, ?_, ?_⟩
  · by_cases hn : D * (s - K * i) < 0
    · rcases r0 hn with ⟨h, h'⟩ | h
      · rw [h]; omega
      · exact h.elim
    · rw [e4] at hn
      generalize i * D = iD at *
      generalize D * s = q at *
      simp only [K] at *
      omega
  · rw [e4, e5] at g3
    generalize i * D = iD at *
    generalize D * s = q at *
    simp only [K] at *
    omega
theorem f_neg {D s i : Int} (D1 : 1 ≤ D) (h : (0 ≤ s ∧ K * i ≤ s ∧ s < K * i + K) ∨ (s < 0 ∧ i = 0)) (hn : D * (s - K * i) < 0) : i = 0 := by
  rcases h with h | h
  · have : 0 ≤ D * (s - K * i) := Int.mul_nonneg (by omega) (by omega)
    omega
  · exact h.2
theorem f_pre {s i : Int} (h1 : -300000 ≤ s - K * i) (h2 : s - K * i < K) : s - K * i + 2 ≤ 16 * K ∧ -(15 * K) + 1 ≤ s - K * i := by simp only [K] at *; omega
theorem Hue6.frac {h : UInt64} {D W : Int} (H : Hue6 h D W) (D1 : 1 ≤ D) (D15 : D ≤ 15) (W0 : 0 ≤ W) (W8 : W ≤ 8 * D) :
    Fn (h6 h) ∧ 0 ≤ iF (h6 h) ∧ iF (h6 h) < 10 ∧ At (fF h) D (W - iF (h6 h) * D) 9100 ∧ 0 ≤ W - iF (h6 h) * D ∧ W - iF (h6 h) * D ≤ D := by
  have hm := pre_mul (z := 0) (by decide)
  obtain ⟨f, a1, a2⟩ := mul6_z H.fn (Int.le_trans (by decide) H.lo) H.hi
  have u := six_int D1 D15 H.up H.dn a1 a2
  have hi := iF_z f (six_lo H.lo a2)
  have r := six_i H.lo H.hi a1 a2 hi
  have i9 := six_i9 D1 W8 D15 u.1 (hi.elim (fun h => Or.inl h.2.1) (fun h => Or.inr h.2))
  have hs := small_z r.1 i9
  have hp := f_pre r.2.2.1 r.2.2.2
  obtain ⟨ff, s1, s2⟩ := sub_z f hs.1 (by rw [hs.2]; exact hp.1) (by rw [hs.2]; exact hp.2)
  rw [hs.2] at s1 s2
  have hf := f_int D1 D15 u.1 u.2 r.2.2.2 s1 s2 (fun hn => Or.inl ⟨f_neg D1 hi hn, W0⟩)
  exact ⟨f, r.1, i9, ⟨ff, hf.1⟩, hf.2⟩
/-- the saturation -/
theorem sat_at {M m : Int} (m0 : 0 ≤ m) (hM : M < 16) (hmM : m < M) : At (div (sub (F15 M) (F15 m)) (F15 M)) M (M - m) 2000 := by
  obtain ⟨f1, a1, a2⟩ := dif_z (a := M) (b := m) (by omega) (by omega) (by omega) (by omega)
  obtain ⟨f2, b1, b2⟩ := f15_z (r := M) (by omega) (by omega)
  obtain ⟨f3, c1, c2, c3, c4⟩ := div_z f1 f2 (by simp only [K] at *; omega) (by simp only [K] at *; omega) (by simp only [K] at *; omega) (by simp only [K] at *; omega)
  exact ⟨f3, ratio_int (by omega) (by omega) (by omega) (by omega) a1 a2 (by omega) (by omega) c1 c2 c3 c4⟩
section
variable {M m F : Int} {h s v : UInt64}
theorem p_at (m0 : 0 ≤ m) (hM : M < 16) (hmM : m < M) (hv : At v 15 M 15) (hs : At s M (M - m) 2000) : At (pF s v) 15 m 15000 := by
  have h1 := hs.one_sub (by omega) (by omega) (by omega) (by decide) (by decide)
  have h2 := h1.mul hv (by omega) (by decide) (by decide) (by omega) (by omega) (by omega) (by omega) (by decide) (by omega) (by decide)
  rw [show M - (M - m) = m by omega] at h2
  exact h2.wk (by omega)
theorem q_at (m0 : 0 ≤ m) (hM : M < 16) (hmM : m < M) (hv : At v 15 M 15) (hs : At s M (M - m) 2000) (hf : At (fF h) (M - m) F 9100) (F0 : 0 ≤ F) (FD : F ≤ M - m) : At (qF h s v) 15 (M - F) 15000 := by
  have h0 := hf.mul hs (by omega) (by omega) (by omega) F0 FD (by omega) (by decide) (by decide) (by decide) (by decide)
  have h1 := h0.one_sub (by omega) (by omega) (by omega) (by decide) (by decide)
  have h2 := h1.mul hv (by omega) (by decide) (by decide) (by omega) (by omega) (by omega) (by omega) (by decide) (by omega) (by decide)
  exact h2.wk (by omega)
theorem t_at (m0 : 0 ≤ m) (hM : M < 16) (hmM : m < M) (hv : At v 15 M 15) (hs : At s M (M - m) 2000) (hf : At (fF h) (M - m) F 9100) (F0 : 0 ≤ F) (FD : F ≤ M - m) : At (tF h s v) 15 (m + F) 15000 := by
  have h0 := (hf.one_sub (by omega) F0 FD (by decide) (by decide)).mul hs (by omega) (by omega) (by omega) (by omega) (by omega) (by omega) (by omega) (by decide) (by omega) (by decide)
  have h1 := h0.one_sub (by omega) (by omega) (by omega) (by omega) (by omega)
  have h2 := h1.mul hv (by omega) (by decide) (by decide) (by omega) (by omega) (by omega) (by omega) (by decide) (by omega) (by decide)
  rw [show M - (M - m - F) = m + F by omega] at h2
  exact h2.wk (by omega)
end
end Fl
end Mine
end
section
open PySem PySem.Float64
namespace Mine
namespace Fl
/-- a wave of six steps of D: up in the first, high for two, down in the fourth, low for two -/
def VOut (Q A B D R : Int) : Prop := (R ≤ D ∧ Q = A + R) ∨ (D ≤ R ∧ R ≤ 3 * D ∧ Q = B) ∨ (3 * D ≤ R ∧ R ≤ 4 * D ∧ Q = A + (4 * D - R)) ∨ (4 * D ≤ R ∧ Q = A)
/-- the wave at any place -/
def Wv (Q m M D W : Int) : Prop := ∃ S j : Int, 0 ≤ S ∧ S ≤ 6 * D ∧ W = S + 6 * (D * j) ∧ VOut Q m M D S
theorem Wv.sh {Q m M D W W' : Int} (k : Int) (h : Wv Q m M D W) (e : W' = W + 6 * (D * k)) : Wv Q m M D W' := by
  obtain ⟨S, j, h0, h6, hW, hV⟩ := h
  exact ⟨S, j + k, h0, h6, by rw [e, hW, Int.mul_add, Int.mul_add, Int.add_assoc], hV⟩
theorem vout_one {m M D S Q Q' : Int} (hD : M = m + D) (D1 : 0 < D) (h : VOut Q m M D S) (h' : VOut Q' m M D S) : Q = Q' := by
  subst hD
  rcases h with ⟨a, rfl⟩ | ⟨a, b, rfl⟩ | ⟨a, b, rfl⟩ | ⟨a, rfl⟩ <;> rcases h' with ⟨a', rfl⟩ | ⟨a', b', rfl⟩ | ⟨a', b', rfl⟩ | ⟨a', rfl⟩ <;> omega
theorem vout_zero {m M D Q : Int} (D1 : 0 < D) (h : VOut Q m M D 0) : Q = m := by
  rcases h with ⟨a, rfl⟩ | ⟨a, b, rfl⟩ | ⟨a, b, rfl⟩ | ⟨a, rfl⟩ <;> omega
theorem vout_six {m M D Q : Int} (D1 : 0 < D) (h : VOut Q m M D (6 * D)) : Q = m := by
  rcases h with ⟨a, rfl⟩ | ⟨a, b, rfl⟩ | ⟨a, b, rfl⟩ | ⟨a, rfl⟩ <;> omega
theorem per_one {D S S' j j' : Int} (D1 : 0 < D) (h0 : 0 ≤ S) (h6 : S ≤ 6 * D) (h0' : 0 ≤ S') (h6' : S' ≤ 6 * D) (e : S + 6 * (D * j) = S' + 6 * (D * j')) : S = S' ∨ (S = 0 ∧ S' = 6 * D) ∨ (S = 6 * D ∧ S' = 0) := by
  have e1 : S - S' = 6 * (D * (j' - j)) := by rw [Int.mul_sub]; omega
  clear e
  generalize j' - j = k at e1
  have k1 : k ≤ 1 := by
    refine Int.le_of_mul_le_mul_left (a := D) ?_ D1
    omega
  have k2 : -1 ≤ k := by
    refine Int.le_of_mul_le_mul_left (a := D) ?_ D1
    omega
  have hk : k = -1 ∨ k = 0 ∨ k = 1 := by clear e1 h0 h6 h0' h6' D1; omega
  rcases hk with rfl | rfl | rfl
  · exact .inr (.inl ⟨by omega, by omega⟩)
  · exact .inl (by omega)
  · exact .inr (.inr ⟨by omega, by omega⟩)
theorem Wv.one {m M D W Q Q' : Int} (hD : M = m + D) (D1 : 0 < D) (h : Wv Q m M D W) (h' : Wv Q' m M D W) : Q = Q' := by
  obtain ⟨S, j, h0, h6, hW, hV⟩ := h
  obtain ⟨S', j', h0', h6', hW', hV'⟩ := h'
  rcases per_one D1 h0 h6 h0' h6' (hW.symm.trans hW') with rfl | ⟨rfl, rfl⟩ | ⟨rfl, rfl⟩
  · exact vout_one hD D1 hV hV'
  · exact (vout_zero D1 hV).trans (vout_six D1 hV').symm
  · exact (vout_six D1 hV).trans (vout_zero D1 hV').symm
/-- the wave, read back from four steps -/
theorem vout_flip {m M D S Q : Int} (D1 : 0 < D) (h0 : 0 ≤ S) (h6 : S ≤ 6 * D) (h : VOut Q m M D S) : Wv Q m M D (4 * D - S) := by
  rcases h with ⟨a, rfl⟩ | ⟨a, b, rfl⟩ | ⟨a, b, rfl⟩ | ⟨a, rfl⟩
  · exact ⟨4 * D - S, 0, by omega, by omega, by omega, .inr (.inr (.inl ⟨by omega, by omega, by omega⟩))⟩
  · exact ⟨4 * D - S, 0, by omega, by omega, by omega, .inr (.inl ⟨by omega, by omega, rfl⟩)⟩
  · exact ⟨4 * D - S, 0, by omega, by omega, by omega, .inl ⟨by omega, rfl⟩⟩
  · exact ⟨10 * D - S, -1, by omega, by omega, by omega, .inr (.inr (.inr ⟨by omega, rfl⟩))⟩
theorem Wv.flip {m M D W Q : Int} (D1 : 0 < D) (h : Wv Q m M D W) : Wv Q m M D (4 * D - W) := by
  obtain ⟨S, j, h0, h6, rfl, hV⟩ := h
  exact (vout_flip D1 h0 h6 hV).sh (-j) (by rw [Int.mul_neg]; omega)
/-- the wave, turned about -/
theorem vout_neg {m M D R Q : Int} (hD : M = m + D) (D1 : 0 < D) (h0 : 0 ≤ R) (h6 : R ≤ 6 * D) (h : VOut Q (15 - M) (15 - m) D R) : Wv (15 - Q) m M D (R + 3 * D) := by
  subst hD
  rcases h with ⟨a, rfl⟩ | ⟨a, b, rfl⟩ | ⟨a, b, rfl⟩ | ⟨a, rfl⟩
  · exact ⟨R + 3 * D, 0, by omega, by omega, by omega, .inr (.inr (.inl ⟨by omega, by omega, by omega⟩))⟩
  · exact ⟨R + 3 * D, 0, by omega, by omega, by omega, .inr (.inr (.inr ⟨by omega, by omega⟩))⟩
  · exact ⟨R - 3 * D, 1, by omega, by omega, by omega, .inl ⟨by omega, by omega⟩⟩
  · exact ⟨R - 3 * D, 1, by omega, by omega, by omega, .inr (.inl ⟨by omega, by omega, by omega⟩)⟩
/-- three waves, two steps apart -/
structure W3 (c : Col) (m M D N : Int) : Prop where
  x : Wv c.1 m M D (N + 2 * D)
  y : Wv c.2.1 m M D N
  z : Wv c.2.2 m M D (N - 2 * D)
theorem W3.sh {c : Col} {m M D N N' : Int} (k : Int) (h : W3 c m M D N) (e : N' = N + 6 * (D * k)) : W3 c m M D N' :=
  ⟨h.x.sh k (by rw [e]; omega), h.y.sh k e, h.z.sh k (by rw [e]; omega)⟩
theorem W3.rot {x y z m M D N : Int} (h : W3 (x, y, z) m M D N) : W3 (z, x, y) m M D (N + 2 * D) :=
  ⟨h.z.sh 1 (by omega), h.x, h.y.sh 0 (by omega)⟩
theorem W3.one {c c' : Col} {m M D N : Int} (hD : M = m + D) (D1 : 0 < D) (h : W3 c m M D N) (h' : W3 c' m M D N) : c = c' :=
  Prod.ext (h.x.one hD D1 h'.x) (Prod.ext (h.y.one hD D1 h'.y) (h.z.one hD D1 h'.z))
theorem W3.flip {x y z m M D N : Int} (D1 : 0 < D) (h : W3 (x, y, z) m M D N) : W3 (x, z, y) m M D (-N) :=
  ⟨(h.x.flip D1).sh 0 (by omega), (h.z.flip D1).sh (-1) (by omega), (h.y.flip D1).sh (-1) (by omega)⟩
theorem up0 {m M D t : Int} (hD : M = m + D) (t0 : 0 ≤ t) (t1 : t ≤ D) : W3 (M, m + t, m) m M D t :=
  ⟨⟨t + 2 * D, 0, by omega, by omega, by omega, .inr (.inl ⟨by omega, by omega, rfl⟩)⟩, ⟨t, 0, by omega, by omega, by omega, .inl ⟨t1, rfl⟩⟩, ⟨t + 4 * D, -1, by omega, by omega, by omega, .inr (.inr (.inr ⟨by omega, rfl⟩))⟩⟩
theorem dn0 {m M D t : Int} (hD : M = m + D) (D1 : 0 < D) (t0 : 0 ≤ t) (t1 : t ≤ D) : W3 (M, m, m + t) m M D (-t) := (up0 hD t0 t1).flip D1
theorem w3_of {c c' : Col} {m M D N N' : Int} (h : W3 c m M D N) (e : c' = c) (e' : N' = N) : W3 c' m M D N' := by subst e e'; exact h
theorem up2 {m M D t : Int} (hD : M = m + D) (t0 : 0 ≤ t) (t1 : t ≤ D) : W3 (m, M, m + t) m M D (t + 2 * D) := (up0 hD t0 t1).rot
theorem dn2 {m M D t : Int} (hD : M = m + D) (D1 : 0 < D) (t0 : 0 ≤ t) (t1 : t ≤ D) : W3 (m + t, M, m) m M D (-t + 2 * D) := (dn0 hD D1 t0 t1).rot
theorem up4 {m M D t : Int} (hD : M = m + D) (t0 : 0 ≤ t) (t1 : t ≤ D) : W3 (m + t, m, M) m M D (t + 2 * D + 2 * D) := (up2 hD t0 t1).rot
theorem dn4 {m M D t : Int} (hD : M = m + D) (D1 : 0 < D) (t0 : 0 ≤ t) (t1 : t ≤ D) : W3 (m, m + t, M) m M D (-t + 2 * D + 2 * D) := (dn2 hD D1 t0 t1).rot
theorem max3 (r g b : Int) : r ≤ max (max r g) b ∧ g ≤ max (max r g) b ∧ b ≤ max (max r g) b ∧ (r = max (max r g) b ∨ g = max (max r g) b ∨ b = max (max r g) b) := by
  rcases Int.le_total r g with h | h
  · rw [Int.max_eq_right h]
    rcases Int.le_total g b with h' | h'
    · rw [Int.max_eq_right h']; exact ⟨Int.le_trans h h', h', Int.le_refl _, .inr (.inr rfl)⟩
    · rw [Int.max_eq_left h']; exact ⟨h, Int.le_refl _, h', .inr (.inl rfl)⟩
  · rw [Int.max_eq_left h]
    rcases Int.le_total r b with h' | h'
    · rw [Int.max_eq_right h']; exact ⟨h', Int.le_trans h h', Int.le_refl _, .inr (.inr rfl)⟩
    · rw [Int.max_eq_left h']; exact ⟨Int.le_refl _, h, h', .inl rfl⟩
theorem min3 (r g b : Int) : min (min r g) b ≤ r ∧ min (min r g) b ≤ g ∧ min (min r g) b ≤ b ∧ (r = min (min r g) b ∨ g = min (min r g) b ∨ b = min (min r g) b) := by
  rcases Int.le_total r g with h | h
  · rw [Int.min_eq_left h]
    rcases Int.le_total r b with h' | h'
    · rw [Int.min_eq_left h']; exact ⟨Int.le_refl _, h, h', .inl rfl⟩
    · rw [Int.min_eq_right h']; exact ⟨h', Int.le_trans h' h, Int.le_refl _, .inr (.inr rfl)⟩
  · rw [Int.min_eq_right h]
    rcases Int.le_total g b with h' | h'
    · rw [Int.min_eq_left h']; exact ⟨h, Int.le_refl _, h', .inr (.inl rfl)⟩
    · rw [Int.min_eq_right h']; exact ⟨Int.le_trans h' h, h', Int.le_refl _, .inr (.inr rfl)⟩
theorem cl {a b c x y z : Int} (h1 : a = x) (h2 : b = y) (h3 : c = z) : ((a, b, c) : Col) = (x, y, z) := by subst h1 h2 h3; rfl
theorem mid {m x : Int} : x = m + (x - m) := by omega
theorem mid0 {m x : Int} (h : m ≤ x) : 0 ≤ x - m := by omega
theorem mid1 {m x M D : Int} (hD : M = m + D) (h : x ≤ M) : x - m ≤ D := by omega
/-- the three parts are three waves of the hue -/
theorem hueW {r g b M m D : Int} (hM : M = max (max r g) b) (hm : m = min (min r g) b) (hD : M = m + D) (D1 : 0 < D) : W3 (r, g, b) m M D (hueN r g b M D) := by
  obtain ⟨r1, g1, b1, h1⟩ := max3 r g b
  obtain ⟨r0, g0, b0, h0⟩ := min3 r g b
  rw [← hM] at r1 g1 b1 h1
  rw [← hm] at r0 g0 b0 h0
  clear hM hm
  unfold hueN
  by_cases hr : r = M
  · rw [if_pos hr]
    by_cases hb : b = m
    · exact w3_of (up0 hD (mid0 g0) (mid1 hD g1)) (cl hr mid hb) (by rw [hb])
    · have hg : g = m := (h0.resolve_left (by rw [hr]; omega)).resolve_right hb
      exact w3_of (dn0 hD D1 (mid0 b0) (mid1 hD b1)) (cl hr hg mid) (by rw [hg]; omega)
  · rw [if_neg hr]
    by_cases hg : g = M
    · rw [if_pos hg]
      by_cases hb : b = m
      · exact w3_of (dn2 hD D1 (mid0 r0) (mid1 hD r1)) (cl mid hg hb) (by rw [hb]; omega)
      · have hr' : r = m := (h0.resolve_right fun h => h.elim (by rw [hg]; omega) hb)
        exact w3_of (up2 hD (mid0 b0) (mid1 hD b1)) (cl hr' hg mid) (by rw [hr']; omega)
    · rw [if_neg hg]
      have hb : b = M := (h1.resolve_left hr).resolve_left hg
      by_cases hr' : r = m
      · exact w3_of (dn4 hD D1 (mid0 g0) (mid1 hD g1)) (cl hr' mid hb) (by rw [hr']; omega)
      · have hg' : g = m := (h0.resolve_left hr').resolve_right (by rw [hb]; omega)
        exact w3_of (up4 hD (mid0 r0) (mid1 hD r1)) (cl mid hg' hb) (by rw [hg']; omega)
end Fl
end Mine
end
section
open PySem PySem.Float64
namespace Mine
namespace Fl
def OutI (i M m F : Int) : Col := if i.fmod 6 = 0 then (M, m + F, m) else if i.fmod 6 = 1 then (M - F, M, m) else if i.fmod 6 = 2 then (m, M, m + F) else
  if i.fmod 6 = 3 then (m, M - F, M) else if i.fmod 6 = 4 then (m + F, m, M) else (M, m, M - F)
theorem six_parts {i : Int} : ∃ q e : Int, i.fmod 6 = e ∧ i = 6 * q + e ∧ (e = 0 ∨ e = 1 ∨ e = 2 ∨ e = 3 ∨ e = 4 ∨ e = 5) :=
  ⟨i.fdiv 6, i.fmod 6, rfl, (Int.mul_fdiv_add_fmod i 6).symm, by have h1 := Int.fmod_nonneg_of_pos i (show (0 : Int) < 6 by decide); have h2 := Int.fmod_lt_of_pos i (show (0 : Int) < 6 by decide); omega⟩
theorem F_neg {m M D F : Int} (hD : M = m + D) : M - F = m + (D - F) := by omega
/-- what the told colour is: three waves too -/
theorem outW {i M m D F : Int} (hD : M = m + D) (D1 : 0 < D) (F0 : 0 ≤ F) (F1 : F ≤ D) : W3 (OutI i M m F) m M D (i * D + F) := by
  obtain ⟨q, e, he, hi, h⟩ := six_parts (i := i)
  have hs : ∀ {c : Col} {N : Int}, W3 c m M D N → N = e * D + F → W3 c m M D (i * D + F) := fun w hN => w.sh q (by rw [hN, hi, Int.add_mul, Int.mul_assoc, Int.mul_comm q D]; omega)
  unfold OutI
  rw [he]
  have g0 : 0 ≤ D - F := by omega
  have g1 : D - F ≤ D := by omega
  clear hi he
  rcases h with rfl | rfl | rfl | rfl | rfl | rfl
  · exact hs (up0 hD F0 F1) (by omega)
  · exact hs (w3_of (dn2 hD D1 g0 g1) (cl (F_neg hD) rfl rfl) rfl) (by omega)
  · exact hs (up2 hD F0 F1) (by omega)
  · exact hs (w3_of (dn4 hD D1 g0 g1) (cl rfl (F_neg hD) rfl) rfl) (by omega)
  · exact hs (up4 hD F0 F1) (by omega)
  · refine hs (w3_of ((dn0 hD D1 g0 g1).sh 1 rfl) (cl rfl rfl (F_neg hD)) rfl) (by omega)
theorem out0 {r g b M m P i j : Int} (hM : M = max (max r g) b) (hm : m = min (min r g) b) (hD : m < M)
    (hP : P = hueN r g b M (M - m) - 6 * ((M - m) * j))
    (F0 : 0 ≤ (P + 2 * (M - m)) - i * (M - m)) (F1 : (P + 2 * (M - m)) - i * (M - m) ≤ M - m) : OutI i M m ((P + 2 * (M - m)) - i * (M - m)) = (b, r, g) := by
  have hE : M = m + (M - m) := by omega
  have D1 : 0 < M - m := by omega
  have h1 := outW (i := i) hE D1 F0 F1
  have h2 := (hueW hM hm hE D1).rot.sh (N' := i * (M - m) + (P + 2 * (M - m) - i * (M - m))) (-j) (by rw [hP, Int.mul_neg]; omega)
  exact h1.one hE D1 h2
theorem out1 {r g b M m P i j : Int} (hM : M = max (max r g) b) (hm : m = min (min r g) b) (hD : m < M)
    (hP : P = hueN r g b M (M - m) - 6 * ((M - m) * j))
    (F0 : 0 ≤ (6 * (M - m) - P) - i * (M - m)) (F1 : (6 * (M - m) - P) - i * (M - m) ≤ M - m) : OutI i M m ((6 * (M - m) - P) - i * (M - m)) = (r, b, g) := by
  have hE : M = m + (M - m) := by omega
  have D1 : 0 < M - m := by omega
  have h1 := outW (i := i) hE D1 F0 F1
  have h2 := ((hueW hM hm hE D1).flip D1).sh (N' := i * (M - m) + (6 * (M - m) - P - i * (M - m))) (1 + j) (by rw [hP, Int.mul_add]; omega)
  exact h1.one hE D1 h2
end Fl
end Mine
end
section
open PySem PySem.Float64
namespace Mine
namespace Fl
theorem third_int {D P z s : Int} (D1 : 1 ≤ D) (D15 : D ≤ 15) (u1 : 6 * (D * z) ≤ K * P + 7000) (u2 : K * P - 7000 ≤ 6 * (D * z)) (a1 : s ≤ z + 187649984473770 + 2) (a2 : z + 187649984473770 - 1 ≤ s) :
    6 * (D * s) ≤ K * (P + 2 * D) + 8000 ∧ K * (P + 2 * D) - 8000 ≤ 6 * (D * s) := by
  have g1 : D * (3 * s) ≤ D * (3 * z + K + 6) := Int.mul_le_mul_of_nonneg_left (by simp only [K] at *; omega) (by omega)
  have g2 : D * (3 * z + K - 6) ≤ D * (3 * s) := Int.mul_le_mul_of_nonneg_left (by simp only [K] at *; omega) (by omega)
  have e1 : D * (3 * z + K + 6) = 3 * (D * z) + K * D + 6 * D := by grind
  have e2 : D * (3 * z + K - 6) = 3 * (D * z) + K * D - 6 * D := by grind
  have e3 : D * (3 * s) = 3 * (D * s) := by grind
  have e4 : K * (P + 2 * D) = K * P + 2 * (K * D) := by grind
  omega
theorem flip_int {D P z s : Int} (D1 : 1 ≤ D) (D15 : D ≤ 15) (u1 : 6 * (D * z) ≤ K * P + 7000) (u2 : K * P - 7000 ≤ 6 * (D * z)) (a1 : s ≤ 562949953421312 - z + 2) (a2 : 562949953421312 - z - 2 ≤ s) :
    6 * (D * s) ≤ K * (6 * D - P) + 8000 ∧ K * (6 * D - P) - 8000 ≤ 6 * (D * s) := by
  have g1 : D * s ≤ D * (K - z + 2) := Int.mul_le_mul_of_nonneg_left a1 (by omega)
  have g2 : D * (K - z - 2) ≤ D * s := Int.mul_le_mul_of_nonneg_left a2 (by omega)
  have e1 : D * (K - z + 2) = K * D - D * z + 2 * D := by grind
  have e2 : D * (K - z - 2) = K * D - D * z - 2 * D := by grind
  have e4 : K * (6 * D - P) = 6 * (K * D) - K * P := by grind
  omega
theorem third_pre {z : Int} (h1 : -3 ≤ z) (h2 : z ≤ K + 3) : z + 187649984473770 + 2 ≤ 16 * K ∧ -(15 * K) ≤ z + 187649984473770 := by simp only [K] at *; omega
theorem third_post {z s : Int} (h1 : -3 ≤ z) (h2 : z ≤ K + 3) (a1 : s ≤ z + 187649984473770 + 2) (a2 : z + 187649984473770 - 1 ≤ s) : -40000 ≤ s ∧ s ≤ 2 * K := by simp only [K] at *; omega
theorem flip_pre {z : Int} (h1 : -3 ≤ z) (h2 : z ≤ K + 3) : 562949953421312 - z + 2 ≤ 16 * K ∧ -(15 * K) + 1 ≤ 562949953421312 - z := by simp only [K] at *; omega
theorem flip_post {z s : Int} (h1 : -3 ≤ z) (h2 : z ≤ K + 3) (a1 : s ≤ 562949953421312 - z + 2) (a2 : 562949953421312 - z - 2 ≤ s) : -40000 ≤ s ∧ s ≤ 2 * K := by simp only [K] at *; omega
theorem hue_third {h : UInt64} {D P : Int} (D1 : 1 ≤ D) (D15 : D ≤ 15) (f : Fn h) (h1 : -3 ≤ Z h) (h2 : Z h ≤ K + 3) (u1 : 6 * (D * Z h) ≤ K * P + 7000) (u2 : K * P - 7000 ≤ 6 * (D * Z h)) : Hue6 (add h 4599676419421066581) D (P + 2 * D) := by
  have hp := third_pre h1 h2
  obtain ⟨f', a1, a2⟩ := add_z f z_third.1 (by rw [z_third.2]; exact hp.1) (by rw [z_third.2]; exact hp.2)
  rw [z_third.2] at a1 a2
  have hq := third_post h1 h2 a1 a2
  have hr := third_int D1 D15 u1 u2 a1 a2
  exact ⟨f', hq.1, hq.2, hr.1, hr.2⟩
theorem hue_flip {h : UInt64} {D P : Int} (D1 : 1 ≤ D) (D15 : D ≤ 15) (f : Fn h) (h1 : -3 ≤ Z h) (h2 : Z h ≤ K + 3) (u1 : 6 * (D * Z h) ≤ K * P + 7000) (u2 : K * P - 7000 ≤ 6 * (D * Z h)) : Hue6 (sub 4607182418800017408 h) D (6 * D - P) := by
  have hp := flip_pre h1 h2
  obtain ⟨f', a1, a2⟩ := sub_z z_one.1 f (by rw [z_one.2]; exact hp.1) (by rw [z_one.2]; exact hp.2)
  rw [z_one.2] at a1 a2
  have hq := flip_post h1 h2 a1 a2
  have hr := flip_int D1 D15 u1 u2 a1 a2
  exact ⟨f', hq.1, hq.2, hr.1, hr.2⟩
end Fl
end Mine
end
section
open PySem PySem.Float64
namespace Mine
namespace Fl
theorem sat_nz_int {M D z : Int} (D1 : 1 ≤ D) (h2 : K * D - 2000 ≤ M * z) (h : z = 0) : False := by
  subst h
  simp only [K] at *
  omega
theorem sat_nz {s : UInt64} {M m : Int} (hmM : m < M) (hs : At s M (M - m) 2000) : eqF s 0 = false := by
  cases h : eqF s 0
  · rfl
  · have := eqF_t hs.1 z_zero0.1 h
    rw [z_zero0.2] at this
    exact (sat_nz_int (by omega) hs.2.2 this).elim
theorem hsv_back {h s v : UInt64} {M m W : Int} (m0 : 0 ≤ m) (hM : M < 16) (hmM : m < M) (hv : At v 15 M 15) (hs : At s M (M - m) 2000) (H : Hue6 h (M - m) W) (W0 : 0 ≤ W) (W8 : W ≤ 8 * (M - m)) :
    Fn (h6 h) ∧ 0 ≤ iF (h6 h) ∧ iF (h6 h) < 10 ∧ 0 ≤ W - iF (h6 h) * (M - m) ∧ W - iF (h6 h) * (M - m) ≤ M - m ∧ BackT (ofHsv h s v) (OutI (iF (h6 h)) M m (W - iF (h6 h) * (M - m))) := by
  obtain ⟨f, i0, i1, hf, F0, F1⟩ := H.frac (by omega) (by omega) W0 W8
  refine ⟨f, i0, i1, F0, F1, ?_⟩
  have bp := (p_at m0 hM hmM hv hs).back m0 (by omega) (by decide)
  have bq := (q_at m0 hM hmM hv hs hf F0 F1).back (by omega) (by omega) (by decide)
  have bt := (t_at m0 hM hmM hv hs hf F0 F1).back (by omega) (by omega) (by decide)
  have bv := hv.back (by omega) (by omega) (by decide)
  unfold ofHsv OutI
  rw [sat_nz hmM hs]
  simp only [Bool.false_eq_true, if_false]
  generalize iF (h6 h) = i at *
  generalize W - i * (M - m) = F at *
  split
  · exact ⟨bv, bt, bp⟩
  · split
    · exact ⟨bq, bv, bp⟩
    · split
      · exact ⟨bp, bv, bt⟩
      · split
        · exact ⟨bp, bq, bv⟩
        · split
          · exact ⟨bt, bp, bv⟩
          · exact ⟨bv, bp, bq⟩
theorem mx3_f {r g b : Int} (r0 : 0 ≤ r) (r1 : r < 16) (g0 : 0 ≤ g) (g1 : g < 16) (b0 : 0 ≤ b) (b1 : b < 16) : mx2 (mx2 (F15 r) (F15 g)) (F15 b) = F15 (max (max r g) b) := by
  rw [mx2_f r0 r1 g0 g1, mx2_f (by omega) (by omega) b0 b1]
theorem mn3_f {r g b : Int} (r0 : 0 ≤ r) (r1 : r < 16) (g0 : 0 ≤ g) (g1 : g < 16) (b0 : 0 ≤ b) (b1 : b < 16) : mn2 (mn2 (F15 r) (F15 g)) (F15 b) = F15 (min (min r g) b) := by
  rw [mn2_f r0 r1 g0 g1, mn2_f (by omega) (by omega) b0 b1]
theorem nz_dif {M m : Int} (m0 : 0 ≤ m) (hM : M < 16) (h : m < M) : isZero (sub (F15 M) (F15 m)) = false := by
  obtain ⟨f1, a1, a2⟩ := dif_z (a := M) (b := m) (by omega) (by omega) (by omega) (by omega)
  refine nz_of ?_
  generalize Z (sub (F15 M) (F15 m)) = q at *
  simp only [K] at *
  omega
theorem nz_top {M : Int} (hM : M < 16) (h : 0 < M) : isZero (F15 M) = false := by
  obtain ⟨f1, a1, a2⟩ := f15_z (r := M) (by omega) (by omega)
  refine nz_of ?_
  generalize Z (F15 M) = q at *
  simp only [K] at *
  omega
theorem bmm {r g b : Int} (r0 : 0 ≤ r) (r1 : r < 16) (g0 : 0 ≤ g) (g1 : g < 16) (b0 : 0 ≤ b) (b1 : b < 16) : 0 ≤ min (min r g) b ∧ min (min r g) b < 16 ∧ 0 ≤ max (max r g) b ∧ max (max r g) b < 16 ∧ min (min r g) b ≤ max (max r g) b := by
  obtain ⟨p1, p2, p3, p4⟩ := max3 r g b
  obtain ⟨q1, q2, q3, q4⟩ := min3 r g b
  refine ⟨?_, Int.lt_of_le_of_lt q1 r1, Int.le_trans r0 p1, ?_, Int.le_trans q1 p1⟩
  · rcases q4 with h | h | h
    · exact h ▸ r0
    · exact h ▸ g0
    · exact h ▸ b0
  · rcases p4 with h | h | h
    · exact h ▸ r1
    · exact h ▸ g1
    · exact h ▸ b1
theorem eq_mm {r g b : Int} (r0 : 0 ≤ r) (r1 : r < 16) (g0 : 0 ≤ g) (g1 : g < 16) (b0 : 0 ≤ b) (b1 : b < 16) : eqF (F15 (min (min r g) b)) (F15 (max (max r g) b)) = decide (min (min r g) b = max (max r g) b) := by
  have B := bmm r0 r1 g0 g1 b0 b1
  exact f15_eq B.1 B.2.1 B.2.2.1 B.2.2.2.1
structure Mm (r g b M m : Int) : Prop where
  m0 : 0 ≤ m
  hM : M < 16
  lt : m < M
  r0 : m ≤ r
  r1 : r ≤ M
  g0 : m ≤ g
  g1 : g ≤ M
  b0 : m ≤ b
  b1 : b ≤ M
theorem mm_of {r g b M m : Int} (r0 : 0 ≤ r) (r1 : r < 16) (g0 : 0 ≤ g) (g1 : g < 16) (b0 : 0 ≤ b) (b1 : b < 16) (hM : M = max (max r g) b) (hm : m = min (min r g) b) (h : ¬ m = M) : Mm r g b M m := by
  have B := bmm r0 r1 g0 g1 b0 b1
  have p := max3 r g b
  have q := min3 r g b
  rw [← hM, ← hm] at B
  rw [← hM] at p
  rw [← hm] at q
  exact ⟨B.1, B.2.2.2.1, Int.lt_iff_le_and_ne.mpr ⟨B.2.2.2.2, h⟩, q.1, p.1, q.2.1, p.2.1, q.2.2.1, p.2.2.1⟩
theorem gray_eq {r g b : Int} (h : min (min r g) b = max (max r g) b) : g = r ∧ b = r ∧ max (max r g) b = r ∧ min (min r g) b = r := by
  have p := max3 r g b
  have q := min3 r g b
  have e : min (min r g) b = r := Int.le_antisymm q.1 (h ▸ p.1)
  exact ⟨Int.le_antisymm (Int.le_trans (h ▸ p.2.1) (Int.le_of_eq e)) (e ▸ q.2.1), Int.le_antisymm (Int.le_trans (h ▸ p.2.2.1) (Int.le_of_eq e)) (e ▸ q.2.2.1), h ▸ e, e⟩
theorem D_of {M m : Int} (h : m < M) : 1 ≤ M - m := by omega
theorem D_15 {M m : Int} (h0 : 0 ≤ m) (h1 : M < 16) : M - m ≤ 15 := by omega
theorem nzHsv_f {r g b : Int} (r0 : 0 ≤ r) (r1 : r < 16) (g0 : 0 ≤ g) (g1 : g < 16) (b0 : 0 ≤ b) (b1 : b < 16) : nzHsv (F15 r) (F15 g) (F15 b) := by
  unfold nzHsv
  rw [mx3_f r0 r1 g0 g1 b0 b1, mn3_f r0 r1 g0 g1 b0 b1]
  intro h
  have h' : eqF (F15 (min (min r g) b)) (F15 (max (max r g) b)) = false := h
  rw [eq_mm r0 r1 g0 g1 b0 b1] at h'
  have A := mm_of r0 r1 g0 g1 b0 b1 rfl rfl (of_decide_eq_false h')
  exact ⟨nz_dif A.m0 A.hM A.lt, nz_top A.hM (Int.lt_of_le_of_lt A.m0 A.lt)⟩
theorem hsvT_gray {r g b : Int} (r0 : 0 ≤ r) (r1 : r < 16) (g0 : 0 ≤ g) (g1 : g < 16) (b0 : 0 ≤ b) (b1 : b < 16) (h : min (min r g) b = max (max r g) b) :
    hsvT (F15 r) (F15 g) (F15 b) = (0, 0, F15 r) := by
  unfold hsvT mx3 mn3
  rw [mx3_f r0 r1 g0 g1 b0 b1, mn3_f r0 r1 g0 g1 b0 b1, eq_mm r0 r1 g0 g1 b0 b1, decide_eq_true h, if_pos rfl, (gray_eq h).2.2.1]
theorem hsvT_col {r g b : Int} (r0 : 0 ≤ r) (r1 : r < 16) (g0 : 0 ≤ g) (g1 : g < 16) (b0 : 0 ≤ b) (b1 : b < 16) (h : ¬ min (min r g) b = max (max r g) b) :
    hsvT (F15 r) (F15 g) (F15 b) = (hueF (F15 r) (F15 g) (F15 b) (F15 (max (max r g) b)) (sub (F15 (max (max r g) b)) (F15 (min (min r g) b))), div (sub (F15 (max (max r g) b)) (F15 (min (min r g) b))) (F15 (max (max r g) b)), F15 (max (max r g) b)) := by
  unfold hsvT rn3 mx3 mn3
  rw [mx3_f r0 r1 g0 g1 b0 b1, mn3_f r0 r1 g0 g1 b0 b1, eq_mm r0 r1 g0 g1 b0 b1, decide_eq_false h, if_neg (by decide)]
theorem eq00 : eqF 0 0 = true := by decide +kernel
theorem g0a : isFinite (mul (add 0 4599676419421066581) 4618441417868443648) = true ∧ (iF (mul (add 0 4599676419421066581) 4618441417868443648)).natAbs < 2 ^ 62 := by decide +kernel
theorem g1a : isFinite (mul (sub 4607182418800017408 0) 4618441417868443648) = true ∧ (iF (mul (sub 4607182418800017408 0) 4618441417868443648)).natAbs < 2 ^ 62 := by decide +kernel
theorem ofHsv_gray (h v : UInt64) : ofHsv h 0 v = (v, v, v) := by unfold ofHsv; rw [eq00, if_pos rfl]
theorem gray_back {r : Int} (r0 : 0 ≤ r) (r1 : r < 16) : Back (F15 r) r := (f15_at r0 r1).back r0 (by omega) (by decide)
theorem nat62 {i : Int} (h0 : 0 ≤ i) (h1 : i < 10) : i.natAbs < 2 ^ 62 := Nat.lt_of_lt_of_le (by omega : i.natAbs < 10) (by decide)
theorem W_t0 {M m P : Int} (h : m < M) (P0 : 0 ≤ P) : 0 ≤ P + 2 * (M - m) := by omega
theorem W_t8 {M m P : Int} (P6 : P ≤ 6 * (M - m)) : P + 2 * (M - m) ≤ 8 * (M - m) := by omega
theorem W_f0 {M m P : Int} (P6 : P ≤ 6 * (M - m)) : 0 ≤ 6 * (M - m) - P := by omega
theorem W_f8 {M m P : Int} (h : m < M) (P0 : 0 ≤ P) : 6 * (M - m) - P ≤ 8 * (M - m) := by omega
theorem ok_0 {r g b : Int} (r0 : 0 ≤ r) (r1 : r < 16) (g0 : 0 ≤ g) (g1 : g < 16) (b0 : 0 ≤ b) (b1 : b < 16) : Ok01 (add (hsvC (r, g, b)).1 4599676419421066581) (r, g, b) (b, r, g) := by
  refine ⟨nzHsv_f r0 r1 g0 g1 b0 b1, ?_⟩
  unfold hsvC
  simp only
  by_cases h : min (min r g) b = max (max r g) b
  · rw [hsvT_gray r0 r1 g0 g1 b0 b1 h]
    simp only
    refine ⟨g0a.1, g0a.2, ?_⟩
    rw [ofHsv_gray]
    obtain ⟨e1, e2, _⟩ := gray_eq h
    subst e1 e2
    exact ⟨gray_back r0 r1, gray_back r0 r1, gray_back r0 r1⟩
  · rw [hsvT_col r0 r1 g0 g1 b0 b1 h]
    simp only
    obtain ⟨M, hM⟩ : ∃ M, M = max (max r g) b := ⟨_, rfl⟩
    obtain ⟨m, hm⟩ : ∃ m, m = min (min r g) b := ⟨_, rfl⟩
    rw [← hm, ← hM] at h
    rw [← hM, ← hm]
    have A := mm_of r0 r1 g0 g1 b0 b1 hM hm h
    clear r0 r1 g0 g1 b0 b1
    obtain ⟨fh, z1, z2, P, j, _, _, eP, P0, P6, u1, u2⟩ := hue_z A.m0 A.hM A.lt A.r0 A.r1 A.g0 A.g1 A.b0 A.b1
    have H := hue_third (D_of A.lt) (D_15 A.m0 A.hM) fh z1 z2 u1 u2
    obtain ⟨f, i0, i1, F0, F1, B⟩ := hsv_back A.m0 A.hM A.lt (f15_at (Int.le_of_lt (Int.lt_of_le_of_lt A.m0 A.lt)) A.hM) (sat_at A.m0 A.hM A.lt) H (W_t0 A.lt P0) (W_t8 P6)
    refine ⟨f, nat62 i0 i1, ?_⟩
    rw [out0 hM hm A.lt eP F0 F1] at B
    exact B
theorem ok_1 {r g b : Int} (r0 : 0 ≤ r) (r1 : r < 16) (g0 : 0 ≤ g) (g1 : g < 16) (b0 : 0 ≤ b) (b1 : b < 16) : Ok01 (sub 4607182418800017408 (hsvC (r, g, b)).1) (r, g, b) (r, b, g) := by
  refine ⟨nzHsv_f r0 r1 g0 g1 b0 b1, ?_⟩
  unfold hsvC
  simp only
  by_cases h : min (min r g) b = max (max r g) b
  · rw [hsvT_gray r0 r1 g0 g1 b0 b1 h]
    simp only
    refine ⟨g1a.1, g1a.2, ?_⟩
    rw [ofHsv_gray]
    obtain ⟨e1, e2, _⟩ := gray_eq h
    subst e1 e2
    exact ⟨gray_back r0 r1, gray_back r0 r1, gray_back r0 r1⟩
  · rw [hsvT_col r0 r1 g0 g1 b0 b1 h]
    simp only
    obtain ⟨M, hM⟩ : ∃ M, M = max (max r g) b := ⟨_, rfl⟩
    obtain ⟨m, hm⟩ : ∃ m, m = min (min r g) b := ⟨_, rfl⟩
    rw [← hm, ← hM] at h
    rw [← hM, ← hm]
    have A := mm_of r0 r1 g0 g1 b0 b1 hM hm h
    clear r0 r1 g0 g1 b0 b1
    obtain ⟨fh, z1, z2, P, j, _, _, eP, P0, P6, u1, u2⟩ := hue_z A.m0 A.hM A.lt A.r0 A.r1 A.g0 A.g1 A.b0 A.b1
    have H := hue_flip (D_of A.lt) (D_15 A.m0 A.hM) fh z1 z2 u1 u2
    obtain ⟨f, i0, i1, F0, F1, B⟩ := hsv_back A.m0 A.hM A.lt (f15_at (Int.le_of_lt (Int.lt_of_le_of_lt A.m0 A.lt)) A.hM) (sat_at A.m0 A.hM A.lt) H (W_f0 P6) (W_f8 A.lt P0)
    refine ⟨f, nat62 i0 i1, ?_⟩
    rw [out1 hM hm A.lt eP F0 F1] at B
    exact B
end Fl
end Mine
end
section
open PySem PySem.Float64
namespace Mine
namespace Fl
def lF (M m : UInt64) : UInt64 := div (add M m) 4611686018427387904
def sF (M m : UInt64) : UInt64 := if leF (lF M m) 4602678819172646912 then div (sub M m) (add M m) else div (sub M m) (sub (sub 4611686018427387904 M) m)
def lsOk (M m : Int) : Bool :=
  let l := sub 4607182418800017408 (lF (F15 M) (F15 m))
  let s := sF (F15 M) (F15 m)
  let m2 := m2F l s
  let m1 := m1F l s
  isFinite m1 && isFinite m2 && decide (15 * Z m1 ≤ 562949953421312 * (15 - M) + 300) && decide (562949953421312 * (15 - M) - 300 ≤ 15 * Z m1) && decide (15 * Z m2 ≤ 562949953421312 * (15 - m) + 300) && decide (562949953421312 * (15 - m) - 300 ≤ 15 * Z m2)
    && (eqF s 0 == false) && (isZero (add (F15 M) (F15 m)) == false) && (isZero (sub (sub 4611686018427387904 (F15 M)) (F15 m)) == false)
theorem ls_row1 : ∀ b : Nat, b < 1 → lsOk (1 : Int) (b : Int) = true := by decide +kernel
theorem ls_row2 : ∀ b : Nat, b < 2 → lsOk (2 : Int) (b : Int) = true := by decide +kernel
theorem ls_row3 : ∀ b : Nat, b < 3 → lsOk (3 : Int) (b : Int) = true := by decide +kernel
theorem ls_row4 : ∀ b : Nat, b < 4 → lsOk (4 : Int) (b : Int) = true := by decide +kernel
theorem ls_row5 : ∀ b : Nat, b < 5 → lsOk (5 : Int) (b : Int) = true := by decide +kernel
theorem ls_row6 : ∀ b : Nat, b < 6 → lsOk (6 : Int) (b : Int) = true := by decide +kernel
theorem ls_row7 : ∀ b : Nat, b < 7 → lsOk (7 : Int) (b : Int) = true := by decide +kernel
theorem ls_row8 : ∀ b : Nat, b < 8 → lsOk (8 : Int) (b : Int) = true := by decide +kernel
theorem ls_row9 : ∀ b : Nat, b < 9 → lsOk (9 : Int) (b : Int) = true := by decide +kernel
theorem ls_row10 : ∀ b : Nat, b < 10 → lsOk (10 : Int) (b : Int) = true := by decide +kernel
theorem ls_row11 : ∀ b : Nat, b < 11 → lsOk (11 : Int) (b : Int) = true := by decide +kernel
theorem ls_row12 : ∀ b : Nat, b < 12 → lsOk (12 : Int) (b : Int) = true := by decide +kernel
theorem ls_row13 : ∀ b : Nat, b < 13 → lsOk (13 : Int) (b : Int) = true := by decide +kernel
theorem ls_row14 : ∀ b : Nat, b < 14 → lsOk (14 : Int) (b : Int) = true := by decide +kernel
theorem ls_row15 : ∀ b : Nat, b < 15 → lsOk (15 : Int) (b : Int) = true := by decide +kernel
theorem ls_tab : ∀ a : Nat, a < 16 → ∀ b : Nat, b < a → lsOk (a : Int) (b : Int) = true := by
  intro a ha
  match a, ha with
  | 0, _ => exact fun _ h => absurd h (Nat.not_lt_zero _)
  | 1, _ => exact ls_row1
  | 2, _ => exact ls_row2
  | 3, _ => exact ls_row3
  | 4, _ => exact ls_row4
  | 5, _ => exact ls_row5
  | 6, _ => exact ls_row6
  | 7, _ => exact ls_row7
  | 8, _ => exact ls_row8
  | 9, _ => exact ls_row9
  | 10, _ => exact ls_row10
  | 11, _ => exact ls_row11
  | 12, _ => exact ls_row12
  | 13, _ => exact ls_row13
  | 14, _ => exact ls_row14
  | 15, _ => exact ls_row15
  | n + 16, h => exact absurd h (by omega)
def lgOk (M : Int) : Bool :=
  let l := sub 4607182418800017408 (lF (F15 M) (F15 M))
  isFinite l && decide (15 * Z l ≤ 562949953421312 * (15 - M) + 300) && decide (562949953421312 * (15 - M) - 300 ≤ 15 * Z l)
theorem lg_tab : ∀ a : Nat, a < 16 → lgOk (a : Int) = true := by decide +kernel
structure LsOk (M m : Int) : Prop where
  a1 : At (m1F (sub 4607182418800017408 (lF (F15 M) (F15 m))) (sF (F15 M) (F15 m))) 15 (15 - M) 300
  a2 : At (m2F (sub 4607182418800017408 (lF (F15 M) (F15 m))) (sF (F15 M) (F15 m))) 15 (15 - m) 300
  nz : eqF (sF (F15 M) (F15 m)) 0 = false
  z1 : isZero (add (F15 M) (F15 m)) = false
  z2 : isZero (sub (sub 4611686018427387904 (F15 M)) (F15 m)) = false
theorem ls_ok {M m : Int} (m0 : 0 ≤ m) (hM : M < 16) (h : m < M) : LsOk M m := by
  obtain ⟨a, rfl⟩ : ∃ n : Nat, M = n := ⟨M.toNat, by omega⟩
  obtain ⟨b, rfl⟩ : ∃ n : Nat, m = n := ⟨m.toNat, by omega⟩
  have t := ls_tab a (by omega) b (by omega)
  unfold lsOk at t
  simp only [Bool.and_eq_true, decide_eq_true_eq, beq_iff_eq] at t
  obtain ⟨⟨⟨⟨⟨⟨⟨⟨t1, t2⟩, t3⟩, t4⟩, t5⟩, t6⟩, t7⟩, t8⟩, t9⟩ := t
  exact ⟨⟨t1, t3, t4⟩, ⟨t2, t5, t6⟩, t7, t8, t9⟩
theorem lg_ok {M : Int} (m0 : 0 ≤ M) (hM : M < 16) : At (sub 4607182418800017408 (lF (F15 M) (F15 M))) 15 (15 - M) 300 := by
  obtain ⟨a, rfl⟩ : ∃ n : Nat, M = n := ⟨M.toNat, by omega⟩
  have t := lg_tab a (by omega)
  unfold lgOk at t
  simp only [Bool.and_eq_true, decide_eq_true_eq] at t
  exact ⟨t.1.1, t.1.2, t.2⟩
end Fl
end Mine
end
section
open PySem PySem.Float64
namespace Mine
namespace Fl
theorem slope_pre {D z R : Int} (h1 : -(K + 10) ≤ z) (h2 : z ≤ K + 10) : -(7 * K) ≤ 6 * z ∧ 6 * z ≤ 7 * K ∧ -(2 * K) ≤ z ∧ z ≤ 2 * K := by simp only [K] at *; omega
theorem dm_int {D a b s A B : Int} (a1 : 15 * a ≤ K * A + 300) (a2 : K * A - 300 ≤ 15 * a) (b1 : 15 * b ≤ K * B + 300) (b2 : K * B - 300 ≤ 15 * b) (s1 : s ≤ b - a + 2) (s2 : b - a - 2 ≤ s) (hD : D = B - A) :
    15 * s ≤ K * D + 630 ∧ K * D - 630 ≤ 15 * s := by
  have : K * D = K * B - K * A := by rw [hD]; grind
  omega
theorem dm_pre {a b A B : Int} (A0 : 0 ≤ A) (A15 : A ≤ 15) (B0 : 0 ≤ B) (B15 : B ≤ 15) (a1 : 15 * a ≤ K * A + 300) (a2 : K * A - 300 ≤ 15 * a) (b1 : 15 * b ≤ K * B + 300) (b2 : K * B - 300 ≤ 15 * b) : b - a + 2 ≤ 16 * K ∧ -(15 * K) + 1 ≤ b - a := by
  simp only [K] at *; omega
theorem z_pre {z R : Int} (R0 : 0 ≤ R) (R15 : R ≤ 15) (h1 : 15 * (6 * z) ≤ K * R + 17000) (h2 : K * R - 17000 ≤ 15 * (6 * z)) : -(2 * K) ≤ z ∧ z ≤ 2 * K := by simp only [K] at *; omega
theorem o_pre {a w z A R : Int} (A0 : 0 ≤ A) (R0 : 0 ≤ R) (AR : A + R ≤ 15) (a1 : 15 * a ≤ K * A + 300) (a2 : K * A - 300 ≤ 15 * a) (h1 : 15 * (6 * z) ≤ K * R + 17000) (h2 : K * R - 17000 ≤ 15 * (6 * z))
    (w1 : w ≤ 6 * z + 34) (w2 : 6 * z ≤ w + 36) : a + w + 2 ≤ 16 * K ∧ -(15 * K) ≤ a + w := by simp only [K] at *; omega
theorem o_int {a w z o A R : Int} (a1 : 15 * a ≤ K * A + 300) (a2 : K * A - 300 ≤ 15 * a) (h1 : 15 * (6 * z) ≤ K * R + 17000) (h2 : K * R - 17000 ≤ 15 * (6 * z))
    (w1 : w ≤ 6 * z + 34) (w2 : 6 * z ≤ w + 36) (o1 : o ≤ a + w + 2) (o2 : a + w - 1 ≤ o) : 15 * o ≤ K * (A + R) + 20000 ∧ K * (A + R) - 20000 ≤ 15 * o := by
  have : K * (A + R) = K * A + K * R := by grind
  omega
theorem slope {m1 m2 y : UInt64} {A B D R : Int} (hD : D = B - A) (A0 : 0 ≤ A) (D1 : 1 ≤ D) (B15 : B ≤ 15) (h1 : At m1 15 A 300) (h2 : At m2 15 B 300) (fy : Fn y) (y1 : -(K + 10) ≤ Z y) (y2 : Z y ≤ K + 10)
    (u1 : 6 * (D * Z y) ≤ K * R + 9000) (u2 : K * R - 9000 ≤ 6 * (D * Z y)) (R0 : 0 ≤ R) (RD : R ≤ D) : At (add m1 (mul (mul (sub m2 m1) y) 4618441417868443648)) 15 (A + R) 20000 := by
  have hp := dm_pre A0 (by omega) (by omega) B15 h1.2.1 h1.2.2 h2.2.1 h2.2.2
  obtain ⟨fs, s1, s2⟩ := sub_z h2.1 h1.1 hp.1 hp.2
  have hs := dm_int h1.2.1 h1.2.2 h2.2.1 h2.2.2 s1 s2 hD
  have sAt : At (sub m2 m1) 15 D 630 := ⟨fs, hs⟩
  have rs := pre_mul (sAt.rng (by decide) (by omega) (by omega) (by decide) (by decide))
  have ry := slope_pre (D := D) (R := R) y1 y2
  obtain ⟨fz, z1, z2⟩ := mul_z (2 * K) (2 * K) fs fy rs.1 rs.2 ry.2.2.1 ry.2.2.2 (by decide) (by decide) (by decide) (by decide) (by decide)
  have e1 : D * (6 * Z y) = 6 * (D * Z y) := by grind
  have e2 : K * (6 * Z (mul (sub m2 m1) y)) = 6 * (K * Z (mul (sub m2 m1) y)) := by grind
  have e3 : (6 * Z y) * Z (sub m2 m1) = 6 * (Z (sub m2 m1) * Z y) := by grind
  have hz := prod_int (A := D) (B := 15) (X := R) (x := 6 * Z y) (y := Z (sub m2 m1)) (z := 6 * Z (mul (sub m2 m1) y)) (e := 9000) (e' := 630) (c := 7) (g := 216) (by decide) (by decide) (by decide)
    (by rw [e1]; exact u1) (by rw [e1]; exact u2) hs.1 hs.2 ry.1 ry.2.1 (by rw [e2, e3]; simp only [K] at z1 ⊢; omega) (by rw [e2, e3]; simp only [K] at z2 ⊢; omega)
  have hz1 : 15 * (6 * Z (mul (sub m2 m1) y)) ≤ K * R + 17000 := by have := hz.1; omega
  have hz2 : K * R - 17000 ≤ 15 * (6 * Z (mul (sub m2 m1) y)) := by have := hz.2; omega
  have hq := z_pre R0 (by omega) hz1 hz2
  obtain ⟨fw, w1, w2⟩ := mul6_z fz hq.1 hq.2
  have hr := o_pre A0 R0 (by omega) h1.2.1 h1.2.2 hz1 hz2 w1 w2
  obtain ⟨fo, o1, o2⟩ := add_z h1.1 fw hr.1 hr.2
  exact ⟨fo, o_int h1.2.1 h1.2.2 hz1 hz2 w1 w2 o1 o2⟩
theorem cmp_le {D R z c n : Int} (D1 : 1 ≤ D) (D15 : D ≤ 15) (u2 : K * R - 8000 ≤ 6 * (D * z)) (h : z ≤ c) (hc : 6 * c ≤ K * n + 6) : R ≤ n * D := by
  have g1 : D * (6 * z) ≤ D * (K * n + 6) := Int.mul_le_mul_of_nonneg_left (by omega) (by omega)
  have e1 : D * (6 * z) = 6 * (D * z) := by grind
  have e2 : D * (K * n + 6) = K * (n * D) + 6 * D := by grind
  rw [e1, e2] at g1
  clear e1 e2 h hc
  generalize n * D = nD at *
  generalize D * z = q at *
  simp only [K] at *
  omega
theorem cmp_ge {D R z c n : Int} (D1 : 1 ≤ D) (D15 : D ≤ 15) (u1 : 6 * (D * z) ≤ K * R + 8000) (h : c ≤ z) (hc : K * n - 6 ≤ 6 * c) : n * D ≤ R := by
  have g1 : D * (K * n - 6) ≤ D * (6 * z) := Int.mul_le_mul_of_nonneg_left (by omega) (by omega)
  have e1 : D * (6 * z) = 6 * (D * z) := by grind
  have e2 : D * (K * n - 6) = K * (n * D) - 6 * D := by grind
  rw [e1, e2] at g1
  clear e1 e2 h hc
  generalize n * D = nD at *
  generalize D * z = q at *
  simp only [K] at *
  omega
theorem y_pre {z : Int} (h1 : -3 ≤ z) (h2 : z ≤ K + 3) : -(K + 10) ≤ z ∧ z ≤ K + 10 := by simp only [K] at *; omega
theorem ty_pre {z : Int} (h1 : -3 ≤ z) (h2 : z ≤ K + 3) : 375299968947541 - z + 2 ≤ 16 * K ∧ -(15 * K) + 1 ≤ 375299968947541 - z := by simp only [K] at *; omega
theorem ty_post {z s : Int} (h1 : -3 ≤ z) (h2 : z ≤ K + 3) (s1 : s ≤ 375299968947541 - z + 2) (s2 : 375299968947541 - z - 2 ≤ s) : -(K + 10) ≤ s ∧ s ≤ K + 10 := by simp only [K] at *; omega
theorem ty_int {D R z s : Int} (D1 : 1 ≤ D) (D15 : D ≤ 15) (u1 : 6 * (D * z) ≤ K * R + 8000) (u2 : K * R - 8000 ≤ 6 * (D * z)) (s1 : s ≤ 375299968947541 - z + 2) (s2 : 375299968947541 - z - 2 ≤ s) :
    6 * (D * s) ≤ K * (4 * D - R) + 9000 ∧ K * (4 * D - R) - 9000 ≤ 6 * (D * s) := by
  have g1 : D * (3 * s) ≤ D * (2 * K - 3 * z + 6) := Int.mul_le_mul_of_nonneg_left (by simp only [K] at *; omega) (by omega)
  have g2 : D * (2 * K - 3 * z - 8) ≤ D * (3 * s) := Int.mul_le_mul_of_nonneg_left (by simp only [K] at *; omega) (by omega)
  have e1 : D * (2 * K - 3 * z + 6) = 2 * (K * D) - 3 * (D * z) + 6 * D := by grind
  have e2 : D * (2 * K - 3 * z - 8) = 2 * (K * D) - 3 * (D * z) - 8 * D := by grind
  have e3 : D * (3 * s) = 3 * (D * s) := by grind
  have e4 : K * (4 * D - R) = 4 * (K * D) - K * R := by grind
  omega
theorem v_at {m1 m2 hue : UInt64} {A B D R : Int} (hD : D = B - A) (A0 : 0 ≤ A) (D1 : 1 ≤ D) (B15 : B ≤ 15) (h1 : At m1 15 A 300) (h2 : At m2 15 B 300) (fy : Fn (divmod hue 4607182418800017408).2)
    (y1 : -3 ≤ Z (divmod hue 4607182418800017408).2) (y2 : Z (divmod hue 4607182418800017408).2 ≤ K + 3)
    (u1 : 6 * (D * Z (divmod hue 4607182418800017408).2) ≤ K * R + 8000) (u2 : K * R - 8000 ≤ 6 * (D * Z (divmod hue 4607182418800017408).2)) (R0 : 0 ≤ R) (R6 : R ≤ 6 * D) :
    ∃ Q, VOut Q A B D R ∧ At (vF m1 m2 hue) 15 Q 20000 ∧ 0 ≤ Q ∧ Q ≤ 15 := by
  unfold vF
  generalize (divmod hue 4607182418800017408).2 = y at *
  have hy := y_pre y1 y2
  cases c1 : ltF y 4595172819793696085
  · have d1 := ltF_f fy z_sixth.1 c1
    rw [z_sixth.2] at d1
    have r1 := cmp_ge (n := 1) D1 (by omega) u1 d1 (by decide)
    cases c2 : ltF y 4602678819172646912
    · have d2 := ltF_f fy z_half.1 c2
      rw [z_half.2] at d2
      have r2 := cmp_ge (n := 3) D1 (by omega) u1 d2 (by decide)
      cases c3 : ltF y 4604180019048437077
      · have d3 := ltF_f fy z_twoth.1 c3
        rw [z_twoth.2] at d3
        have r3 := cmp_ge (n := 4) D1 (by omega) u1 d3 (by decide)
        exact ⟨A, Or.inr (Or.inr (Or.inr ⟨r3, rfl⟩)), h1.wk (by decide), by omega, by omega⟩
      · have d3 := ltF_t fy z_twoth.1 c3
        rw [z_twoth.2] at d3
        have r3 := cmp_le (n := 4) D1 (by omega) u2 d3 (by decide)
        have hp := ty_pre y1 y2
        obtain ⟨fs, s1, s2⟩ := sub_z z_twoth.1 fy (by rw [z_twoth.2]; exact hp.1) (by rw [z_twoth.2]; exact hp.2)
        rw [z_twoth.2] at s1 s2
        have hs := ty_post y1 y2 s1 s2
        have ht := ty_int D1 (by omega) u1 u2 s1 s2
        have := slope hD A0 D1 B15 h1 h2 fs hs.1 hs.2 ht.1 ht.2 (by omega) (by omega)
        exact ⟨A + (4 * D - R), Or.inr (Or.inr (Or.inl ⟨r2, r3, rfl⟩)), this, by omega, by omega⟩
    · have d2 := ltF_t fy z_half.1 c2
      rw [z_half.2] at d2
      have r2 := cmp_le (n := 3) D1 (by omega) u2 d2 (by decide)
      exact ⟨B, Or.inr (Or.inl ⟨by omega, r2, rfl⟩), h2.wk (by decide), by omega, by omega⟩
  · have d1 := ltF_t fy z_sixth.1 c1
    rw [z_sixth.2] at d1
    have r1 := cmp_le (n := 1) D1 (by omega) u2 d1 (by decide)
    have := slope hD A0 D1 B15 h1 h2 fy hy.1 hy.2 (by omega) (by omega) R0 (by omega)
    exact ⟨A + R, Or.inl ⟨by omega, rfl⟩, this, by omega, by omega⟩
end Fl
end Mine
end
section
open PySem PySem.Float64
namespace Mine
namespace Fl
structure Hue (h : UInt64) (D W e : Int) : Prop where
  fn : Fn h
  lo : -(2 * K) ≤ Z h
  hi : Z h ≤ 3 * K
  up : 6 * (D * Z h) ≤ K * W + e
  dn : K * W - e ≤ 6 * (D * Z h)
theorem half_int {D P z s : Int} (D1 : 1 ≤ D) (D15 : D ≤ 15) (u1 : 6 * (D * z) ≤ K * P + 7000) (u2 : K * P - 7000 ≤ 6 * (D * z)) (a1 : s ≤ z + 281474976710656 + 2) (a2 : z + 281474976710656 - 1 ≤ s) :
    6 * (D * s) ≤ K * (P + 3 * D) + 7200 ∧ K * (P + 3 * D) - 7200 ≤ 6 * (D * s) := by
  have g1 : D * (2 * s) ≤ D * (2 * z + K + 4) := Int.mul_le_mul_of_nonneg_left (by simp only [K] at *; omega) (by omega)
  have g2 : D * (2 * z + K - 4) ≤ D * (2 * s) := Int.mul_le_mul_of_nonneg_left (by simp only [K] at *; omega) (by omega)
  have e1 : D * (2 * z + K + 4) = 2 * (D * z) + K * D + 4 * D := by grind
  have e2 : D * (2 * z + K - 4) = 2 * (D * z) + K * D - 4 * D := by grind
  have e3 : D * (2 * s) = 2 * (D * s) := by grind
  have e4 : K * (P + 3 * D) = K * P + 3 * (K * D) := by grind
  omega
theorem half_pre {z : Int} (h1 : -3 ≤ z) (h2 : z ≤ K + 3) : z + 281474976710656 + 2 ≤ 16 * K ∧ -(15 * K) ≤ z + 281474976710656 := by simp only [K] at *; omega
theorem half_post {z s : Int} (h1 : -3 ≤ z) (h2 : z ≤ K + 3) (a1 : s ≤ z + 281474976710656 + 2) (a2 : z + 281474976710656 - 1 ≤ s) : -40000 ≤ s ∧ s ≤ 2 * K := by simp only [K] at *; omega
theorem add3_int {D P z s : Int} (D1 : 1 ≤ D) (D15 : D ≤ 15) (u1 : 6 * (D * z) ≤ K * P + 7200) (u2 : K * P - 7200 ≤ 6 * (D * z)) (a1 : s ≤ z + 187649984473770 + 2) (a2 : z + 187649984473770 - 1 ≤ s) :
    6 * (D * s) ≤ K * (P + 2 * D) + 7500 ∧ K * (P + 2 * D) - 7500 ≤ 6 * (D * s) := by
  have g1 : D * (3 * s) ≤ D * (3 * z + K + 6) := Int.mul_le_mul_of_nonneg_left (by simp only [K] at *; omega) (by omega)
  have g2 : D * (3 * z + K - 6) ≤ D * (3 * s) := Int.mul_le_mul_of_nonneg_left (by simp only [K] at *; omega) (by omega)
  have e1 : D * (3 * z + K + 6) = 3 * (D * z) + K * D + 6 * D := by grind
  have e2 : D * (3 * z + K - 6) = 3 * (D * z) + K * D - 6 * D := by grind
  have e3 : D * (3 * s) = 3 * (D * s) := by grind
  have e4 : K * (P + 2 * D) = K * P + 2 * (K * D) := by grind
  omega
theorem sub3_int {D P z s : Int} (D1 : 1 ≤ D) (D15 : D ≤ 15) (u1 : 6 * (D * z) ≤ K * P + 7200) (u2 : K * P - 7200 ≤ 6 * (D * z)) (a1 : s ≤ z - 187649984473770 + 2) (a2 : z - 187649984473770 - 2 ≤ s) :
    6 * (D * s) ≤ K * (P - 2 * D) + 7500 ∧ K * (P - 2 * D) - 7500 ≤ 6 * (D * s) := by
  have g1 : D * (3 * s) ≤ D * (3 * z - K + 8) := Int.mul_le_mul_of_nonneg_left (by simp only [K] at *; omega) (by omega)
  have g2 : D * (3 * z - K - 8) ≤ D * (3 * s) := Int.mul_le_mul_of_nonneg_left (by simp only [K] at *; omega) (by omega)
  have e1 : D * (3 * z - K + 8) = 3 * (D * z) - K * D + 8 * D := by grind
  have e2 : D * (3 * z - K - 8) = 3 * (D * z) - K * D - 8 * D := by grind
  have e3 : D * (3 * s) = 3 * (D * s) := by grind
  have e4 : K * (P - 2 * D) = K * P - 2 * (K * D) := by grind
  omega
theorem a3_pre {z : Int} (h1 : -40000 ≤ z) (h2 : z ≤ 2 * K) : z + 187649984473770 + 2 ≤ 16 * K ∧ -(15 * K) ≤ z + 187649984473770 := by simp only [K] at *; omega
theorem a3_post {z s : Int} (h1 : -40000 ≤ z) (h2 : z ≤ 2 * K) (a1 : s ≤ z + 187649984473770 + 2) (a2 : z + 187649984473770 - 1 ≤ s) : -(2 * K) ≤ s ∧ s ≤ 3 * K := by simp only [K] at *; omega
theorem s3_pre {z : Int} (h1 : -40000 ≤ z) (h2 : z ≤ 2 * K) : z - 187649984473770 + 2 ≤ 16 * K ∧ -(15 * K) + 1 ≤ z - 187649984473770 := by simp only [K] at *; omega
theorem s3_post {z s : Int} (h1 : -40000 ≤ z) (h2 : z ≤ 2 * K) (a1 : s ≤ z - 187649984473770 + 2) (a2 : z - 187649984473770 - 2 ≤ s) : -(2 * K) ≤ s ∧ s ≤ 3 * K := by simp only [K] at *; omega
theorem z0_post {z : Int} (h1 : -40000 ≤ z) (h2 : z ≤ 2 * K) : -(2 * K) ≤ z ∧ z ≤ 3 * K := by simp only [K] at *; omega
theorem hues {h : UInt64} {D P : Int} (D1 : 1 ≤ D) (D15 : D ≤ 15) (f : Fn h) (h1 : -3 ≤ Z h) (h2 : Z h ≤ K + 3) (u1 : 6 * (D * Z h) ≤ K * P + 7000) (u2 : K * P - 7000 ≤ 6 * (D * Z h)) :
    Hue (add (add h 4602678819172646912) 4599676419421066581) D (P + 3 * D + 2 * D) 7500 ∧ Hue (add h 4602678819172646912) D (P + 3 * D) 7500 ∧ Hue (sub (add h 4602678819172646912) 4599676419421066581) D (P + 3 * D - 2 * D) 7500 := by
  have hp := half_pre h1 h2
  obtain ⟨f', a1, a2⟩ := add_z f z_half.1 (by rw [z_half.2]; exact hp.1) (by rw [z_half.2]; exact hp.2)
  rw [z_half.2] at a1 a2
  have hq := half_post h1 h2 a1 a2
  have hr := half_int D1 D15 u1 u2 a1 a2
  have ap := a3_pre hq.1 hq.2
  have sp := s3_pre hq.1 hq.2
  obtain ⟨fa, b1, b2⟩ := add_z f' z_third.1 (by rw [z_third.2]; exact ap.1) (by rw [z_third.2]; exact ap.2)
  obtain ⟨fs, c1, c2⟩ := sub_z f' z_third.1 (by rw [z_third.2]; exact sp.1) (by rw [z_third.2]; exact sp.2)
  rw [z_third.2] at b1 b2 c1 c2
  have p1 := a3_post hq.1 hq.2 b1 b2
  have p2 := s3_post hq.1 hq.2 c1 c2
  have p3 := z0_post hq.1 hq.2
  have q1 := add3_int D1 D15 hr.1 hr.2 b1 b2
  have q2 := sub3_int D1 D15 hr.1 hr.2 c1 c2
  exact ⟨⟨fa, p1.1, p1.2, q1.1, q1.2⟩, ⟨f', p3.1, p3.2, by have := hr.1; omega, by have := hr.2; omega⟩, ⟨fs, p2.1, p2.2, q2.1, q2.2⟩⟩
theorem hmod_int {D W z y j : Int} (D1 : 1 ≤ D) (D15 : D ≤ 15) (u1 : 6 * (D * z) ≤ K * W + 7500) (u2 : K * W - 7500 ≤ 6 * (D * z)) (c1 : z - K * j - 5 ≤ y) (c2 : y ≤ z - K * j + 5) :
    6 * (D * y) ≤ K * (W - 6 * (D * j)) + 8000 ∧ K * (W - 6 * (D * j)) - 8000 ≤ 6 * (D * y) := by
  have g3 : D * (z - K * j - 5) ≤ D * y := Int.mul_le_mul_of_nonneg_left c1 (by omega)
  have g4 : D * y ≤ D * (z - K * j + 5) := Int.mul_le_mul_of_nonneg_left c2 (by omega)
  have e4 : D * (z - K * j - 5) = D * z - K * (D * j) - 5 * D := by grind
  have e5 : D * (z - K * j + 5) = D * z - K * (D * j) + 5 * D := by grind
  have e6 : K * (W - 6 * (D * j)) = K * W - 6 * (K * (D * j)) := by grind
  omega
theorem hueP8 {D P z : Int} (D1 : 1 ≤ D) (D15 : D ≤ 15) (b1 : -3 ≤ z) (b2 : z ≤ K + 3) (c1 : 6 * (D * z) ≤ K * P + 8000) (c2 : K * P - 8000 ≤ 6 * (D * z)) : 0 ≤ P ∧ P ≤ 6 * D := by
  have g1 : D * (-3) ≤ D * z := Int.mul_le_mul_of_nonneg_left b1 (by omega)
  have g2 : D * z ≤ D * (K + 3) := Int.mul_le_mul_of_nonneg_left b2 (by omega)
  have e2 : D * (K + 3) = K * D + 3 * D := by grind
  rw [e2] at g2
  generalize D * z = q at *
  simp only [K] at *
  omega
theorem Hue.v {m1 m2 hue : UInt64} {M m W : Int} (H : Hue hue (M - m) W 7500) (m0 : 0 ≤ m) (lt : m < M) (hM : M < 16) (h1 : At m1 15 (15 - M) 300) (h2 : At m2 15 (15 - m) 300) :
    ∃ Q, Wv (15 - Q) m M (M - m) (W + 3 * (M - m)) ∧ Back (vF m1 m2 hue) Q := by
  obtain ⟨fy, y1, y2, j, _, _, c1, c2⟩ := mod_z H.fn H.lo H.hi
  have D1 := D_of lt
  have D15 := D_15 m0 hM
  have hu := hmod_int D1 D15 H.up H.dn c1 c2
  have hR := hueP8 D1 D15 y1 y2 hu.1 hu.2
  obtain ⟨Q, hV, hA, Q0, Q15⟩ := v_at (by omega) (by omega) D1 (by omega) h1 h2 fy y1 y2 hu.1 hu.2 hR.1 hR.2
  exact ⟨Q, (vout_neg (by omega) D1 hR.1 hR.2 hV).sh j (by omega), hA.back Q0 Q15 (by decide)⟩
theorem sh_x {D N P j : Int} (e : P = N - 6 * (D * j)) : P + 3 * D + 2 * D + 3 * D = N + 2 * D + 6 * (D * (1 - j)) := by rw [e, Int.mul_sub D 1 j]; omega
theorem sh_y {D N P j : Int} (e : P = N - 6 * (D * j)) : P + 3 * D + 3 * D = N + 6 * (D * (1 - j)) := by rw [e, Int.mul_sub D 1 j]; omega
theorem sh_z {D N P j : Int} (e : P = N - 6 * (D * j)) : P + 3 * D - 2 * D + 3 * D = N - 2 * D + 6 * (D * (1 - j)) := by rw [e, Int.mul_sub D 1 j]; omega
theorem of15 {Q r : Int} (h : 15 - Q = r) : Q = 15 - r := by omega
theorem nzHls_f {r g b : Int} (r0 : 0 ≤ r) (r1 : r < 16) (g0 : 0 ≤ g) (g1 : g < 16) (b0 : 0 ≤ b) (b1 : b < 16) : nzHls (F15 r) (F15 g) (F15 b) := by
  unfold nzHls
  rw [mx3_f r0 r1 g0 g1 b0 b1, mn3_f r0 r1 g0 g1 b0 b1]
  intro h
  have h' : eqF (F15 (min (min r g) b)) (F15 (max (max r g) b)) = false := h
  rw [eq_mm r0 r1 g0 g1 b0 b1] at h'
  have A := mm_of r0 r1 g0 g1 b0 b1 rfl rfl (of_decide_eq_false h')
  have L := ls_ok A.m0 A.hM A.lt
  exact ⟨nz_dif A.m0 A.hM A.lt, L.z1, L.z2⟩
theorem hlsT_gray {r g b : Int} (r0 : 0 ≤ r) (r1 : r < 16) (g0 : 0 ≤ g) (g1 : g < 16) (b0 : 0 ≤ b) (b1 : b < 16) (h : min (min r g) b = max (max r g) b) :
    hlsT (F15 r) (F15 g) (F15 b) = (0, lF (F15 r) (F15 r), 0) := by
  unfold hlsT mx3 mn3 lF
  rw [mx3_f r0 r1 g0 g1 b0 b1, mn3_f r0 r1 g0 g1 b0 b1, eq_mm r0 r1 g0 g1 b0 b1, decide_eq_true h, if_pos rfl, (gray_eq h).2.2.1, (gray_eq h).2.2.2]
theorem hlsT_col {r g b : Int} (r0 : 0 ≤ r) (r1 : r < 16) (g0 : 0 ≤ g) (g1 : g < 16) (b0 : 0 ≤ b) (b1 : b < 16) (h : ¬ min (min r g) b = max (max r g) b) :
    hlsT (F15 r) (F15 g) (F15 b) = (hueF (F15 r) (F15 g) (F15 b) (F15 (max (max r g) b)) (sub (F15 (max (max r g) b)) (F15 (min (min r g) b))), lF (F15 (max (max r g) b)) (F15 (min (min r g) b)), sF (F15 (max (max r g) b)) (F15 (min (min r g) b))) := by
  unfold hlsT rn3 mx3 mn3
  rw [mx3_f r0 r1 g0 g1 b0 b1, mn3_f r0 r1 g0 g1 b0 b1, eq_mm r0 r1 g0 g1 b0 b1, decide_eq_false h, if_neg (by decide)]
  unfold sF lF
  split <;> rfl
theorem ofHls_gray (h l : UInt64) : ofHls h l 0 = (l, l, l) := by unfold ofHls; rw [eq00, if_pos rfl]
theorem ofHls_col {h l s : UInt64} (hs : eqF s 0 = false) : ofHls h l s = (vF (m1F l s) (m2F l s) (add h 4599676419421066581), vF (m1F l s) (m2F l s) h, vF (m1F l s) (m2F l s) (sub h 4599676419421066581)) := by
  unfold ofHls; rw [hs, if_neg (by decide)]
theorem ok_2 {r g b : Int} (r0 : 0 ≤ r) (r1 : r < 16) (g0 : 0 ≤ g) (g1 : g < 16) (b0 : 0 ≤ b) (b1 : b < 16) : Ok2 (r, g, b) (15 - r, 15 - g, 15 - b) := by
  refine ⟨nzHls_f r0 r1 g0 g1 b0 b1, ?_⟩
  unfold hlsC
  simp only
  by_cases h : min (min r g) b = max (max r g) b
  · rw [hlsT_gray r0 r1 g0 g1 b0 b1 h]
    simp only
    rw [ofHls_gray]
    obtain ⟨e1, e2, _⟩ := gray_eq h
    subst e1 e2
    have k := (lg_ok r0 r1).back (by omega) (by omega) (by decide)
    exact ⟨k, k, k⟩
  · rw [hlsT_col r0 r1 g0 g1 b0 b1 h]
    simp only
    obtain ⟨M, hM⟩ : ∃ M, M = max (max r g) b := ⟨_, rfl⟩
    obtain ⟨m, hm⟩ : ∃ m, m = min (min r g) b := ⟨_, rfl⟩
    rw [← hm, ← hM] at h
    rw [← hM, ← hm]
    have A := mm_of r0 r1 g0 g1 b0 b1 hM hm h
    clear r0 r1 g0 g1 b0 b1
    have L := ls_ok A.m0 A.hM A.lt
    rw [ofHls_col L.nz]
    obtain ⟨fh, z1, z2, P, j, _, _, eP, _, _, u1, u2⟩ := hue_z A.m0 A.hM A.lt A.r0 A.r1 A.g0 A.g1 A.b0 A.b1
    obtain ⟨H1, H2, H3⟩ := hues (D_of A.lt) (D_15 A.m0 A.hM) fh z1 z2 u1 u2
    obtain ⟨Q1, x1, x5⟩ := H1.v A.m0 A.lt A.hM L.a1 L.a2
    obtain ⟨Q2, y1, y5⟩ := H2.v A.m0 A.lt A.hM L.a1 L.a2
    obtain ⟨Q3, w1, w5⟩ := H3.v A.m0 A.lt A.hM L.a1 L.a2
    have hE : M = m + (M - m) := by clear eP; omega
    have D1 : 0 < M - m := D_of A.lt
    have w := hueW hM hm hE D1
    rw [of15 (x1.one hE D1 (w.x.sh (1 - j) (sh_x eP)))] at x5
    rw [of15 (y1.one hE D1 (w.y.sh (1 - j) (sh_y eP)))] at y5
    rw [of15 (w1.one hE D1 (w.z.sh (1 - j) (sh_z eP)))] at w5
    exact ⟨x5, y5, w5⟩
end Fl
theorem move_ok {k : Int} (hk : k = 0 ∨ k = 1 ∨ k = 2) {c : Col} (hc : InB c) : MoveOk k c (mvCol k c) := by
  obtain ⟨r, g, b⟩ := c
  obtain ⟨⟨r0, r1⟩, ⟨g0, g1⟩, b0, b1⟩ := hc
  unfold MoveOk mvCol
  rcases hk with rfl | rfl | rfl
  · exact Fl.ok_0 r0 r1 g0 g1 b0 b1
  · exact Fl.ok_1 r0 r1 g0 g1 b0 b1
  · exact Fl.ok_2 r0 r1 g0 g1 b0 b1
end Mine
end
section
open PySem PySem.W PyProof.Rows
namespace Mine
abbrev nm (s : String) : Str := Str.ofString s
def LwJ (D2 : Addr) (ys2 : List Value) (n : Nat) (i : Nat) (m : Str → Option Value) (nx : List (Addr × Obj)) : Prop :=
  ∃ pic ysP kP cols t1 t2 t3 t4 t5, (D2, listOf ys2.toArray ys2.length) ∈ nx ∧ (pic, listOf ysP.toArray kP) ∈ nx ∧ Cols nx ysP cols ∧ cols.length = n ∧ (∀ c ∈ cols, InB c) ∧
    m (nm "picture") = some (.ref pic) ∧ m (nm "first") = some (.int (sums 0 cols) t1) ∧ m (nm "second") = some (.int (sums 1 cols) t2) ∧ m (nm "third") = some (.int (sums 2 cols) t3) ∧
    m (nm "bits") = some (.int (8 * (n : Int)) t4) ∧ m (nm "ones") = some (.int (lawRest ((2 ^ (8 * (n : Int)).toNat - 1) * 2 ^ Int.toNat 32) (8 * (n : Int))) t5)
theorem ColAt.drop {n1 n2 : List (Addr × Obj)} {I : Addr} {oI : Obj} {v : Value} {c : Col} (hI : oI.cls = .type "list_iterator") (h : ColAt (n1 ++ (I, oI) :: n2) v c) : ColAt (n1 ++ n2) v c := by
  obtain ⟨a, t1, t2, t3, k, e, hm⟩ := h
  refine ⟨a, t1, t2, t3, k, e, ?_⟩
  rcases List.mem_append.mp hm with h | h
  · exact List.mem_append.mpr (.inl h)
  · rcases List.mem_cons.mp h with h | h
    · have := (Prod.mk.inj h).2
      rw [← this] at hI
      exact absurd (Value.type.inj hI) (by decide)
    · exact List.mem_append.mpr (.inr h)
theorem Cols.drop {n1 n2 : List (Addr × Obj)} {I : Addr} {oI : Obj} (hI : oI.cls = .type "list_iterator") : ∀ {vs : List Value} {cs : List Col}, Cols (n1 ++ (I, oI) :: n2) vs cs → Cols (n1 ++ n2) vs cs
  | _, _, .nil => .nil
  | _, _, .cons h r => .cons (h.drop hI) (Cols.drop hI r)
theorem turn_fin {h₀ h : Heap} {L : Addr} {s : Shared} {m : Str → Option Value} {NW nx tl : List (Addr × Obj)} {I x D2 : Addr} {oI : Obj} {ys ys2 : List Value} {cols : List Col} {n k i tk : Nat} {t1 t2 t3 t4 t5 : Tok}
    (F : Fr h₀ L h m) (N : News h₀ L h NW) (hI : oI.cls = .type "list_iterator") (offI : ∀ p ∈ nx, p.1 ≠ I) (hT : ∀ p ∈ tl, ∀ q ∈ (I, oI) :: nx, p.1 ≠ q.1) (hX : ∀ q ∈ tl ++ (I, oI) :: nx, q.1 ≠ x) (hc : Cols (tl ++ (I, oI) :: nx) ys cols)
    (hr : (D2, listOf ys2.toArray ys2.length) ∈ nx) (hn : cols.length = n) (hb : ∀ c ∈ cols, InB c) (hsub : ∀ p ∈ (x, listOf ys.toArray k) :: (tl ++ (I, oI) :: nx), p ∈ NW)
    (m1 : m (nm "picture") = some (.ref x)) (m2 : m (nm "first") = some (.int (sums 0 cols) t1)) (m3 : m (nm "second") = some (.int (sums 1 cols) t2)) (m4 : m (nm "third") = some (.int (sums 2 cols) t3))
    (m5 : m (nm "bits") = some (.int (8 * (n : Int)) t4)) (m6 : m (nm "ones") = some (.int (lawRest ((2 ^ (8 * (n : Int)).toNat - 1) * 2 ^ Int.toNat 32) (8 * (n : Int))) t5)) :
    TurnNext h₀ L I oI (LwJ D2 ys2 n i) s { s with heap := h, toks := tk } := by
  refine ⟨_, _, m, (x, listOf ys.toArray k) :: (tl ++ nx), rfl, F, ?_, ?_, x, ys, k, cols, t1, t2, t3, t4, t5, .tail _ (List.mem_append.mpr (.inr hr)), .head _, (hc.drop hI).mono (fun p hp => .tail _ hp), hn, hb, m1, m2, m3, m4, m5, m6⟩
  · refine cb_drop N (fun p hp => hsub p ?_)
    simp only [List.mem_cons, List.mem_append] at hp ⊢
    rcases hp with h | h | h | h <;> simp only [h, true_or, or_true]
  · intro p hp
    rcases List.mem_cons.mp hp with rfl | hp
    · exact Ne.symm (hX (I, oI) (List.mem_append.mpr (.inr (List.Mem.head _))))
    · rcases List.mem_append.mp hp with h | h
      · exact hT p h (I, oI) (List.Mem.head _)
      · exact offI p h
theorem lw_map {m₁ : Str → Option Value} {v a b c d e f : Value} (h1 : m₁ (Str.ofString "picture") = some a) (h2 : m₁ (Str.ofString "first") = some b) (h3 : m₁ (Str.ofString "second") = some c) (h4 : m₁ (Str.ofString "third") = some d) (h5 : m₁ (Str.ofString "bits") = some e) (h6 : m₁ (Str.ofString "ones") = some f) :
    (fun y => if y = Str.ofString "x" then some v else m₁ y) = fun y => if y = Str.ofString "x" then some v else if y = Str.ofString "picture" then some a else if y = Str.ofString "first" then some b else if y = Str.ofString "second" then some c else if y = Str.ofString "third" then some d else if y = Str.ofString "bits" then some e else if y = Str.ofString "ones" then some f else m₁ y := by
  funext y
  by_cases e0 : y = Str.ofString "x"
  · rw [if_pos e0, if_pos e0]
  · rw [if_neg e0, if_neg e0]
    by_cases e1 : y = Str.ofString "picture"
    · rw [if_pos e1, e1, h1]
    · rw [if_neg e1]
      by_cases e2 : y = Str.ofString "first"
      · rw [if_pos e2, e2, h2]
      · rw [if_neg e2]
        by_cases e3 : y = Str.ofString "second"
        · rw [if_pos e3, e3, h3]
        · rw [if_neg e3]
          by_cases e4 : y = Str.ofString "third"
          · rw [if_pos e4, e4, h4]
          · rw [if_neg e4]
            by_cases e5 : y = Str.ofString "bits"
            · rw [if_pos e5, e5, h5]
            · rw [if_neg e5]
              by_cases e6 : y = Str.ofString "ones"
              · rw [if_pos e6, e6, h6]
              · rw [if_neg e6]
end Mine
end
section
open PySem PySem.W PyProof.Rows
namespace Mine
section
local macro_rules | `(tactic| walk_at "binaryOp Add ref ref") => `(tactic| (k_here; k_dflt (refine' add_led ?F ?N ?a ?b ?i ?j ?z ?_; (case F => k_asm); (case N => k_asm); (case a => kcf_m); (case b => kcf_m); (case i => assumption); (case j => assumption); (case z => simp only [List.length_append, plane_length]; omega); intro D' us' h' F' N' hI')))
local macro_rules | `(tactic| walk_at "binaryOp Pow int int") => `(tactic| (refine pow_int_small (by omega) (by omega) (by decide) ?_))
local macro_rules | `(tactic| walk_at "binaryOp Mult int int") => `(tactic| first | (refine' mul_int ?_ ?hm; (case hm => exact IntMulOk.of_left (by decide))) | (refine' mul_int ?_ ?hm; (case hm => exact IntMulOk.of_left (Nat.le_trans (intBits_le (sums_bits _ (by assumption))) (by decide)))))
set_option maxHeartbeats 8000000 in
theorem fin : PySem.Challenge.rw_mr0141_01.Holds := hd (by
  k_with_none
  k_go0; (all_goals try k_fold)
  repeat' ((fail_if_success (with_reducible show wpAny _ _ (exec (Stmt.Assign _ _ _) _) _ _ _)); (first | (k_unfold; (try dsimp only)) | (with_reducible (first | (k_here; (with_reducible show wpAny _ _ (call (Value.ref 73) [Value.int _ _, Value.int _ _]) _ _ _); k_dflt (refine rest_call (by k_asm) (by k_asm) (by k_asm) (by k_asm) (by k_asm) (by first | exact rfl | assumption) (by ktr_room) (by ktr_units) (by omega) (by omega) ?_; intro _ _ _ _ _; (try dsimp only); (try k_fold))) | (k_here; (with_reducible show wpAny _ _ (call (Value.ref 68) [Value.int _ _]) _ _ _); k_dflt (refine mirr_call (by k_asm) (by k_asm) (by k_asm) (by k_asm) (by k_asm) (by first | exact rfl | assumption) (by ktr_room) (by ktr_units) ?_; intro _ _ _ _ _; (try dsimp only); (try k_fold))) | (k_here; (with_reducible show wpAny _ _ (call (Value.ref 63) [Value.ref _]) _ _ _); k_dflt (refine sum_call (by k_asm) (by k_asm) (by k_asm) (by k_asm) (by k_asm) (by first | exact rfl | assumption) (by ktr_room) (by ktr_units) (by kcf_m) (by assumption) (by first | assumption | omega | (simp only [List.length_append, plane_length]; omega)) ?_; intro _ _ _ _ _; (try dsimp only); (try k_fold))) | (k_here; (with_reducible show wpAny _ _ (call (Value.ref 83) [Value.ref _]) _ _ _); k_dflt (refine planes_call (by k_asm) (by k_asm) (by k_asm) (by k_asm) (by k_asm) (by first | exact rfl | assumption) (by ktr_room) (by ktr_units) (by kcf_m) (by first | assumption | (refine Cols.mono ?_ (by assumption); kcf_all)) (by assumption) ?_; intro _ _ _ _ _ _ _ _ _ _ _ _ _ _; (try dsimp only); (try k_fold))) | (k_here; (with_reducible show wpAny _ _ (call (Value.ref 78) [Value.ref _, Value.int _ _]) _ _ _); k_dflt (refine moved_call (by k_asm) (by k_asm) (by k_asm) (by k_asm) (by k_asm) (by first | exact rfl | assumption) (by ktr_room) (by ktr_units) (by kcf_m) (by first | assumption | (refine Cols.mono ?_ (by assumption); kcf_all)) (by assumption) (by assumption) (by assumption) (by assumption) (by assumption) ?_; intro _ _ _ _ _ _ _ _ _ _ _; (try dsimp only); (try k_fold))))) | walk1 | (dsimp only; walk1)))
  rename Fr _ _ _ _ => F0
  rename News _ _ _ _ => N0
  (refine LCg.Assign_ListComp_U (cl := []) F0 ?ka ?kb ?kc ?kd ?ke ?kf ?kg ?kh ?ki ?kj ?kk)
  case ka => rfl
  case kb => with_unfolding_all rfl
  case kc => with_unfolding_all rfl
  case kd => decide
  case ke => rfl
  case kf => decide
  case kg => rfl
  case kh => rfl
  case ki => rfl
  case kk => intro _; rfl
  case kj =>
    refine src_cut F0 ?src (fun v s₁ hsrc => ?_)
    case src =>
      repeat' ((fail_if_success (with_reducible show SrcPost _ _ _ _ _ _)); (first | (k_unfold; (try dsimp only)) | (with_reducible (first | (k_here; (with_reducible show wpAny _ _ (call (Value.ref 73) [Value.int _ _, Value.int _ _]) _ _ _); k_dflt (refine rest_call (by k_asm) (by k_asm) (by k_asm) (by k_asm) (by k_asm) (by first | exact rfl | assumption) (by ktr_room) (by ktr_units) (by omega) (by omega) ?_; intro _ _ _ _ _; (try dsimp only); (try k_fold))) | (k_here; (with_reducible show wpAny _ _ (call (Value.ref 68) [Value.int _ _]) _ _ _); k_dflt (refine mirr_call (by k_asm) (by k_asm) (by k_asm) (by k_asm) (by k_asm) (by first | exact rfl | assumption) (by ktr_room) (by ktr_units) ?_; intro _ _ _ _ _; (try dsimp only); (try k_fold))) | (k_here; (with_reducible show wpAny _ _ (call (Value.ref 63) [Value.ref _]) _ _ _); k_dflt (refine sum_call (by k_asm) (by k_asm) (by k_asm) (by k_asm) (by k_asm) (by first | exact rfl | assumption) (by ktr_room) (by ktr_units) (by kcf_m) (by assumption) (by first | assumption | omega | (simp only [List.length_append, plane_length]; omega)) ?_; intro _ _ _ _ _; (try dsimp only); (try k_fold))) | (k_here; (with_reducible show wpAny _ _ (call (Value.ref 83) [Value.ref _]) _ _ _); k_dflt (refine planes_call (by k_asm) (by k_asm) (by k_asm) (by k_asm) (by k_asm) (by first | exact rfl | assumption) (by ktr_room) (by ktr_units) (by kcf_m) (by first | assumption | (refine Cols.mono ?_ (by assumption); kcf_all)) (by assumption) ?_; intro _ _ _ _ _ _ _ _ _ _ _ _ _ _; (try dsimp only); (try k_fold))) | (k_here; (with_reducible show wpAny _ _ (call (Value.ref 78) [Value.ref _, Value.int _ _]) _ _ _); k_dflt (refine moved_call (by k_asm) (by k_asm) (by k_asm) (by k_asm) (by k_asm) (by first | exact rfl | assumption) (by ktr_room) (by ktr_units) (by kcf_m) (by first | assumption | (refine Cols.mono ?_ (by assumption); kcf_all)) (by assumption) (by assumption) (by assumption) (by assumption) (by assumption) ?_; intro _ _ _ _ _ _ _ _ _ _ _; (try dsimp only); (try k_fold))))) | walk1 | (dsimp only; walk1)))
      · exact ⟨_, _, _, _, _, _, rfl, rfl, by k_asm, by k_asm, by assumption, by omega, by omega⟩
      · exact ⟨_, _, _, [_, _, _], [3844, 12275, 240], _, rfl, rfl, by k_asm, cb_drop (by k_asm) (by kcf_all), .cons _ _ (.cons _ _ (.cons _ _ .nil)), by decide, by decide⟩
    obtain ⟨h, tk, l, ys, xs, k, rfl, rfl, F1, N1, hi, hx1, hx5⟩ := hsrc
    have hyl := hi.length
    refine LCg.CompSrc.ledger rfl F1 N1 (List.Mem.head _) (by rw [List.size_toArray, hyl, sizeLine_eq]; omega) fun g1 => ?_
    refine rest_ints (gs := xs.map fun x : Int => x.fmod 12288) (by rw [List.size_toArray, List.length_map, hyl]) ?_ ?_
    · intro i2 v2 r2 I2 oI2 C2 oC2 D2 m2 ys2 h2 tk2 E2 hv2 hr2 hC2 hx2 F2 N2 off2 ne2
      obtain ⟨k2, t2, rfl, hk2⟩ := IntsAre.at hi i2 v2 (by simpa using hv2)
      have hr2' : r2 = k2.fmod 12288 := by rw [List.getElem?_map, hk2] at hr2; simpa using hr2.symm
      subst hr2'
      repeat' ((fail_if_success (with_reducible show LCg.CompEnd _ _ _ _ _ _ _ _ _ _ _ _ _ _)); (first | (k_unfold; (try dsimp only)) | (with_reducible (first | (k_here; (with_reducible show wpAny _ _ (call (Value.ref 73) [Value.int _ _, Value.int _ _]) _ _ _); k_dflt (refine rest_call (by k_asm) (by k_asm) (by k_asm) (by k_asm) (by k_asm) (by first | exact rfl | assumption) (by ktr_room) (by ktr_units) (by omega) (by omega) ?_; intro _ _ _ _ _; (try dsimp only); (try k_fold))) | (k_here; (with_reducible show wpAny _ _ (call (Value.ref 68) [Value.int _ _]) _ _ _); k_dflt (refine mirr_call (by k_asm) (by k_asm) (by k_asm) (by k_asm) (by k_asm) (by first | exact rfl | assumption) (by ktr_room) (by ktr_units) ?_; intro _ _ _ _ _; (try dsimp only); (try k_fold))) | (k_here; (with_reducible show wpAny _ _ (call (Value.ref 63) [Value.ref _]) _ _ _); k_dflt (refine sum_call (by k_asm) (by k_asm) (by k_asm) (by k_asm) (by k_asm) (by first | exact rfl | assumption) (by ktr_room) (by ktr_units) (by kcf_m) (by assumption) (by first | assumption | omega | (simp only [List.length_append, plane_length]; omega)) ?_; intro _ _ _ _ _; (try dsimp only); (try k_fold))) | (k_here; (with_reducible show wpAny _ _ (call (Value.ref 83) [Value.ref _]) _ _ _); k_dflt (refine planes_call (by k_asm) (by k_asm) (by k_asm) (by k_asm) (by k_asm) (by first | exact rfl | assumption) (by ktr_room) (by ktr_units) (by kcf_m) (by first | assumption | (refine Cols.mono ?_ (by assumption); kcf_all)) (by assumption) ?_; intro _ _ _ _ _ _ _ _ _ _ _ _ _ _; (try dsimp only); (try k_fold))) | (k_here; (with_reducible show wpAny _ _ (call (Value.ref 78) [Value.ref _, Value.int _ _]) _ _ _); k_dflt (refine moved_call (by k_asm) (by k_asm) (by k_asm) (by k_asm) (by k_asm) (by first | exact rfl | assumption) (by ktr_room) (by ktr_units) (by kcf_m) (by first | assumption | (refine Cols.mono ?_ (by assumption); kcf_all)) (by assumption) (by assumption) (by assumption) (by assumption) (by assumption) ?_; intro _ _ _ _ _ _ _ _ _ _ _; (try dsimp only); (try k_fold))))) | walk1 | (dsimp only; walk1)))
      exact ⟨_, _, _, rfl, F2, N2, off2, .inr ⟨_, by kcf_m, rfl, _, rfl⟩, rfl, _, rfl⟩
    intro ys2 hi2 D2 h2 tk2 F2 N2 off2
    have hb2 := mod_bounds (xs := xs)
    have hn1 : 1 ≤ (xs.map fun x : Int => x.fmod 12288).length := by rw [List.length_map]; exact hx1
    have hn5 : (xs.map fun x : Int => x.fmod 12288).length ≤ 5 := by rw [List.length_map]; exact hx5
    generalize (xs.map fun x : Int => x.fmod 12288) = row at *
    have hyl2 := hi2.length
    clear F0 N0 F1 N1 hi hyl hx1 hx5 off2
    have N3 := cb_drop (news := [(D2, LCg.lst ys2)]) N2 (by kcf_all)
    clear N2
    repeat' ((fail_if_success (with_reducible show wpAny _ _ (eval (Expr.ListComp _ _ _ _) _) _ _ _)); (fail_if_success (with_reducible show wpAny _ _ (exec (Stmt.Assign _ (Expr.ListComp _ _ _ _) _) _) _ _ _)); (first | (k_unfold; (try dsimp only)) | (with_reducible (first | (k_here; (with_reducible show wpAny _ _ (call (Value.ref 73) [Value.int _ _, Value.int _ _]) _ _ _); k_dflt (refine rest_call (by k_asm) (by k_asm) (by k_asm) (by k_asm) (by k_asm) (by first | exact rfl | assumption) (by ktr_room) (by ktr_units) (by omega) (by omega) ?_; intro _ _ _ _ _; (try dsimp only); (try k_fold))) | (k_here; (with_reducible show wpAny _ _ (call (Value.ref 68) [Value.int _ _]) _ _ _); k_dflt (refine mirr_call (by k_asm) (by k_asm) (by k_asm) (by k_asm) (by k_asm) (by first | exact rfl | assumption) (by ktr_room) (by ktr_units) ?_; intro _ _ _ _ _; (try dsimp only); (try k_fold))) | (k_here; (with_reducible show wpAny _ _ (call (Value.ref 63) [Value.ref _]) _ _ _); k_dflt (refine sum_call (by k_asm) (by k_asm) (by k_asm) (by k_asm) (by k_asm) (by first | exact rfl | assumption) (by ktr_room) (by ktr_units) (by kcf_m) (by assumption) (by first | assumption | omega | (simp only [List.length_append, plane_length]; omega)) ?_; intro _ _ _ _ _; (try dsimp only); (try k_fold))) | (k_here; (with_reducible show wpAny _ _ (call (Value.ref 83) [Value.ref _]) _ _ _); k_dflt (refine planes_call (by k_asm) (by k_asm) (by k_asm) (by k_asm) (by k_asm) (by first | exact rfl | assumption) (by ktr_room) (by ktr_units) (by kcf_m) (by first | assumption | (refine Cols.mono ?_ (by assumption); kcf_all)) (by assumption) ?_; intro _ _ _ _ _ _ _ _ _ _ _ _ _ _; (try dsimp only); (try k_fold))) | (k_here; (with_reducible show wpAny _ _ (call (Value.ref 78) [Value.ref _, Value.int _ _]) _ _ _); k_dflt (refine moved_call (by k_asm) (by k_asm) (by k_asm) (by k_asm) (by k_asm) (by first | exact rfl | assumption) (by ktr_room) (by ktr_units) (by kcf_m) (by first | assumption | (refine Cols.mono ?_ (by assumption); kcf_all)) (by assumption) (by assumption) (by assumption) (by assumption) (by assumption) ?_; intro _ _ _ _ _ _ _ _ _ _ _; (try dsimp only); (try k_fold))))) | walk1 | (dsimp only; walk1)))
    rename Fr _ _ _ _ => F3
    rename News _ _ _ _ => N4
    (refine LCg.Assign_ListComp_U (cl := []) F3 ?ka ?kb ?kc ?kd ?ke ?kf ?kg ?kh ?ki ?kj ?kk)
    case ka => rfl
    case kb => with_unfolding_all rfl
    case kc => with_unfolding_all rfl
    case kd => decide
    case ke => rfl
    case kf => decide
    case kg => rfl
    case kh => rfl
    case ki => rfl
    case kk => intro _; rfl
    case kj =>
      walk1
      refine LCg.CompSrc.ledger rfl F3 N4 (by kcf_m) (by rw [List.size_toArray, hyl2, sizeLine_eq]; omega) fun g1 => ?_
      refine rest_grow (PicJ [(D2, LCg.lst ys2)] row) ?_ ?_ ⟨[], rfl, .nil⟩
      · intro i5 v5 I5 oI5 C5 oC5 D5 m5 ys5 nw5 h5 tk5 E5 hlt5 hv5 hyl5 hJ5 hC5 hx5 F5 N5 off5
        obtain ⟨k5, t5, rfl, hk5⟩ := IntsAre.at hi2 i5 v5 (by simpa using hv5)
        obtain ⟨tl, rfl, hcols⟩ := hJ5
        generalize hnw : tl ++ [(D2, LCg.lst ys2)] = nw at *
        repeat' ((fail_if_success (with_reducible show LCg.CompEnd _ _ _ _ _ _ _ _ _ _ _ _ _ _)); (first | (k_unfold; (try dsimp only)) | (with_reducible (first | (k_here; (with_reducible show wpAny _ _ (call (Value.ref 73) [Value.int _ _, Value.int _ _]) _ _ _); k_dflt (refine rest_call (by k_asm) (by k_asm) (by k_asm) (by k_asm) (by k_asm) (by first | exact rfl | assumption) (by ktr_room) (by ktr_units) (by omega) (by omega) ?_; intro _ _ _ _ _; (try dsimp only); (try k_fold))) | (k_here; (with_reducible show wpAny _ _ (call (Value.ref 68) [Value.int _ _]) _ _ _); k_dflt (refine mirr_call (by k_asm) (by k_asm) (by k_asm) (by k_asm) (by k_asm) (by first | exact rfl | assumption) (by ktr_room) (by ktr_units) ?_; intro _ _ _ _ _; (try dsimp only); (try k_fold))) | (k_here; (with_reducible show wpAny _ _ (call (Value.ref 63) [Value.ref _]) _ _ _); k_dflt (refine sum_call (by k_asm) (by k_asm) (by k_asm) (by k_asm) (by k_asm) (by first | exact rfl | assumption) (by ktr_room) (by ktr_units) (by kcf_m) (by assumption) (by first | assumption | omega | (simp only [List.length_append, plane_length]; omega)) ?_; intro _ _ _ _ _; (try dsimp only); (try k_fold))) | (k_here; (with_reducible show wpAny _ _ (call (Value.ref 83) [Value.ref _]) _ _ _); k_dflt (refine planes_call (by k_asm) (by k_asm) (by k_asm) (by k_asm) (by k_asm) (by first | exact rfl | assumption) (by ktr_room) (by ktr_units) (by kcf_m) (by first | assumption | (refine Cols.mono ?_ (by assumption); kcf_all)) (by assumption) ?_; intro _ _ _ _ _ _ _ _ _ _ _ _ _ _; (try dsimp only); (try k_fold))) | (k_here; (with_reducible show wpAny _ _ (call (Value.ref 78) [Value.ref _, Value.int _ _]) _ _ _); k_dflt (refine moved_call (by k_asm) (by k_asm) (by k_asm) (by k_asm) (by k_asm) (by first | exact rfl | assumption) (by ktr_room) (by ktr_units) (by kcf_m) (by first | assumption | (refine Cols.mono ?_ (by assumption); kcf_all)) (by assumption) (by assumption) (by assumption) (by assumption) (by assumption) ?_; intro _ _ _ _ _ _ _ _ _ _ _; (try dsimp only); (try k_fold))))) | walk1 | (dsimp only; walk1)))
        rename Fr _ _ _ _ => F6
        rename News _ _ _ _ => N6
        rename _ < _ ∧ _ => l6
        have hD2 : (D2, LCg.lst ys2) ∈ nw := hnw ▸ List.mem_append.mpr (.inr (List.Mem.head _))
        refine ⟨_, _, _ :: nw, rfl, F6, news_rot N6, ⟨⟨by k_ne, by k_ne, by k_ne⟩, off5⟩, .inr ⟨_, .tail _ hD2, rfl, _, rfl⟩, _ :: tl, by rw [List.cons_append, hnw], ?_⟩
        rw [List.take_add_one, List.getElem?_map, hk5]
        exact Cols.snoc (c := colOf k5) ⟨_, _, _, _, _, rfl, List.Mem.head _⟩ (hcols.mono fun p hp => .tail _ hp)
      · intro ys6 nw6 hyl6 hJ6 D6 h6 tk6 F6 N6 off6
        obtain ⟨tl6, hnw6, hcols6⟩ := hJ6
        have hD2 : (D2, LCg.lst ys2) ∈ nw6 := hnw6 ▸ List.mem_append.mpr (.inr (List.Mem.head _))
        rw [List.take_of_length_le (by rw [List.length_map, List.size_toArray]; exact Nat.le_of_eq hyl2.symm)] at hcols6
        have hlen6 : (row.map colOf).length < 100 := by rw [List.length_map]; omega
        have hlen6' : ∀ k, (plane k (row.map colOf)).length < 100 := fun k => by rw [plane_length]; exact hlen6
        clear F3 N4 off6
        repeat' ((fail_if_success (with_reducible show wpAny _ _ (eval (Expr.ListComp _ _ _ _) _) _ _ _)); (first | (k_unfold; (try dsimp only)) | (with_reducible (first | (k_here; (with_reducible show wpAny _ _ (call (Value.ref 73) [Value.int _ _, Value.int _ _]) _ _ _); k_dflt (refine rest_call (by k_asm) (by k_asm) (by k_asm) (by k_asm) (by k_asm) (by first | exact rfl | assumption) (by ktr_room) (by ktr_units) (by omega) (by omega) ?_; intro _ _ _ _ _; (try dsimp only); (try k_fold))) | (k_here; (with_reducible show wpAny _ _ (call (Value.ref 68) [Value.int _ _]) _ _ _); k_dflt (refine mirr_call (by k_asm) (by k_asm) (by k_asm) (by k_asm) (by k_asm) (by first | exact rfl | assumption) (by ktr_room) (by ktr_units) ?_; intro _ _ _ _ _; (try dsimp only); (try k_fold))) | (k_here; (with_reducible show wpAny _ _ (call (Value.ref 63) [Value.ref _]) _ _ _); k_dflt (refine sum_call (by k_asm) (by k_asm) (by k_asm) (by k_asm) (by k_asm) (by first | exact rfl | assumption) (by ktr_room) (by ktr_units) (by kcf_m) (by assumption) (by first | assumption | omega | (simp only [List.length_append, plane_length]; omega)) ?_; intro _ _ _ _ _; (try dsimp only); (try k_fold))) | (k_here; (with_reducible show wpAny _ _ (call (Value.ref 83) [Value.ref _]) _ _ _); k_dflt (refine planes_call (by k_asm) (by k_asm) (by k_asm) (by k_asm) (by k_asm) (by first | exact rfl | assumption) (by ktr_room) (by ktr_units) (by kcf_m) (by first | assumption | (refine Cols.mono ?_ (by assumption); kcf_all)) (by assumption) ?_; intro _ _ _ _ _ _ _ _ _ _ _ _ _ _; (try dsimp only); (try k_fold))) | (k_here; (with_reducible show wpAny _ _ (call (Value.ref 78) [Value.ref _, Value.int _ _]) _ _ _); k_dflt (refine moved_call (by k_asm) (by k_asm) (by k_asm) (by k_asm) (by k_asm) (by first | exact rfl | assumption) (by ktr_room) (by ktr_units) (by kcf_m) (by first | assumption | (refine Cols.mono ?_ (by assumption); kcf_all)) (by assumption) (by assumption) (by assumption) (by assumption) (by assumption) ?_; intro _ _ _ _ _ _ _ _ _ _ _; (try dsimp only); (try k_fold))))) | walk1 | (dsimp only; walk1)))
        rename Fr _ _ _ _ => F7
        rename News _ _ _ _ => N7
        (refine LCg.ListComp_U (cl := []) F7 ?ka ?kb ?kc ?kd ?ke ?kf ?kg)
        case ka => with_unfolding_all rfl
        case kb => decide
        case kc => rfl
        case kd => decide
        case ke => rfl
        case kg => intro _; rfl
        case kf =>
          repeat' ((fail_if_success (with_reducible show LCg.CompSrc _ _ _ _ _ _ _ _ _ _ _ _ _ _)); (first | (k_unfold; (try dsimp only)) | (with_reducible (first | (k_here; (with_reducible show wpAny _ _ (call (Value.ref 73) [Value.int _ _, Value.int _ _]) _ _ _); k_dflt (refine rest_call (by k_asm) (by k_asm) (by k_asm) (by k_asm) (by k_asm) (by first | exact rfl | assumption) (by ktr_room) (by ktr_units) (by omega) (by omega) ?_; intro _ _ _ _ _; (try dsimp only); (try k_fold))) | (k_here; (with_reducible show wpAny _ _ (call (Value.ref 68) [Value.int _ _]) _ _ _); k_dflt (refine mirr_call (by k_asm) (by k_asm) (by k_asm) (by k_asm) (by k_asm) (by first | exact rfl | assumption) (by ktr_room) (by ktr_units) ?_; intro _ _ _ _ _; (try dsimp only); (try k_fold))) | (k_here; (with_reducible show wpAny _ _ (call (Value.ref 63) [Value.ref _]) _ _ _); k_dflt (refine sum_call (by k_asm) (by k_asm) (by k_asm) (by k_asm) (by k_asm) (by first | exact rfl | assumption) (by ktr_room) (by ktr_units) (by kcf_m) (by assumption) (by first | assumption | omega | (simp only [List.length_append, plane_length]; omega)) ?_; intro _ _ _ _ _; (try dsimp only); (try k_fold))) | (k_here; (with_reducible show wpAny _ _ (call (Value.ref 83) [Value.ref _]) _ _ _); k_dflt (refine planes_call (by k_asm) (by k_asm) (by k_asm) (by k_asm) (by k_asm) (by first | exact rfl | assumption) (by ktr_room) (by ktr_units) (by kcf_m) (by first | assumption | (refine Cols.mono ?_ (by assumption); kcf_all)) (by assumption) ?_; intro _ _ _ _ _ _ _ _ _ _ _ _ _ _; (try dsimp only); (try k_fold))) | (k_here; (with_reducible show wpAny _ _ (call (Value.ref 78) [Value.ref _, Value.int _ _]) _ _ _); k_dflt (refine moved_call (by k_asm) (by k_asm) (by k_asm) (by k_asm) (by k_asm) (by first | exact rfl | assumption) (by ktr_room) (by ktr_units) (by kcf_m) (by first | assumption | (refine Cols.mono ?_ (by assumption); kcf_all)) (by assumption) (by assumption) (by assumption) (by assumption) (by assumption) ?_; intro _ _ _ _ _ _ _ _ _ _ _; (try dsimp only); (try k_fold))))) | walk1 | (dsimp only; walk1)))
          rename Fr _ _ _ _ => F8
          rename News _ _ _ _ => N8
          rename_i x8 q0 q1 q2 zs0 zs1 zs2 h8 tk8 hI0 hI1 hI2
          refine LCg.CompSrc.ledger rfl F8 N8 (List.Mem.head _) (by show 3 ≤ sizeLine; rw [sizeLine_eq]; decide) fun g8 => ?_
          refine rest_rel (fun i y => ∃ t, y = .int (sums i (row.map colOf)) t) ?_ ?_
          · intro i9 v9 I9 oI9 C9 oC9 D9 m9 ys9 h9 tk9 E9 hlt9 hv9 hC9 hx9 F9 N9 off9
            have hl0 := hlen6' 0
            have hl1 := hlen6' 1
            have hl2 := hlen6' 2
            have hi9 : i9 = 0 ∨ i9 = 1 ∨ i9 = 2 := by simp at hlt9; omega
            clear F8 N8 F7 N7
            rcases hi9 with rfl | rfl | rfl
            · simp at hv9; subst hv9
              repeat' ((fail_if_success (with_reducible show LCg.CompEnd _ _ _ _ _ _ _ _ _ _ _ _ _ _)); (first | (k_unfold; (try dsimp only)) | (with_reducible (first | (k_here; (with_reducible show wpAny _ _ (call (Value.ref 73) [Value.int _ _, Value.int _ _]) _ _ _); k_dflt (refine rest_call (by k_asm) (by k_asm) (by k_asm) (by k_asm) (by k_asm) (by first | exact rfl | assumption) (by ktr_room) (by ktr_units) (by omega) (by omega) ?_; intro _ _ _ _ _; (try dsimp only); (try k_fold))) | (k_here; (with_reducible show wpAny _ _ (call (Value.ref 68) [Value.int _ _]) _ _ _); k_dflt (refine mirr_call (by k_asm) (by k_asm) (by k_asm) (by k_asm) (by k_asm) (by first | exact rfl | assumption) (by ktr_room) (by ktr_units) ?_; intro _ _ _ _ _; (try dsimp only); (try k_fold))) | (k_here; (with_reducible show wpAny _ _ (call (Value.ref 63) [Value.ref _]) _ _ _); k_dflt (refine sum_call (by k_asm) (by k_asm) (by k_asm) (by k_asm) (by k_asm) (by first | exact rfl | assumption) (by ktr_room) (by ktr_units) (by kcf_m) (by assumption) (by first | assumption | omega | (simp only [List.length_append, plane_length]; omega)) ?_; intro _ _ _ _ _; (try dsimp only); (try k_fold))) | (k_here; (with_reducible show wpAny _ _ (call (Value.ref 83) [Value.ref _]) _ _ _); k_dflt (refine planes_call (by k_asm) (by k_asm) (by k_asm) (by k_asm) (by k_asm) (by first | exact rfl | assumption) (by ktr_room) (by ktr_units) (by kcf_m) (by first | assumption | (refine Cols.mono ?_ (by assumption); kcf_all)) (by assumption) ?_; intro _ _ _ _ _ _ _ _ _ _ _ _ _ _; (try dsimp only); (try k_fold))) | (k_here; (with_reducible show wpAny _ _ (call (Value.ref 78) [Value.ref _, Value.int _ _]) _ _ _); k_dflt (refine moved_call (by k_asm) (by k_asm) (by k_asm) (by k_asm) (by k_asm) (by first | exact rfl | assumption) (by ktr_room) (by ktr_units) (by kcf_m) (by first | assumption | (refine Cols.mono ?_ (by assumption); kcf_all)) (by assumption) (by assumption) (by assumption) (by assumption) (by assumption) ?_; intro _ _ _ _ _ _ _ _ _ _ _; (try dsimp only); (try k_fold))))) | walk1 | (dsimp only; walk1)))
              exact ⟨_, _, _, rfl, by k_asm, by k_asm, off9, .inr ⟨_, by kcf_m, rfl, _, rfl⟩, rfl, _, rfl⟩
            · simp at hv9; subst hv9
              repeat' ((fail_if_success (with_reducible show LCg.CompEnd _ _ _ _ _ _ _ _ _ _ _ _ _ _)); (first | (k_unfold; (try dsimp only)) | (with_reducible (first | (k_here; (with_reducible show wpAny _ _ (call (Value.ref 73) [Value.int _ _, Value.int _ _]) _ _ _); k_dflt (refine rest_call (by k_asm) (by k_asm) (by k_asm) (by k_asm) (by k_asm) (by first | exact rfl | assumption) (by ktr_room) (by ktr_units) (by omega) (by omega) ?_; intro _ _ _ _ _; (try dsimp only); (try k_fold))) | (k_here; (with_reducible show wpAny _ _ (call (Value.ref 68) [Value.int _ _]) _ _ _); k_dflt (refine mirr_call (by k_asm) (by k_asm) (by k_asm) (by k_asm) (by k_asm) (by first | exact rfl | assumption) (by ktr_room) (by ktr_units) ?_; intro _ _ _ _ _; (try dsimp only); (try k_fold))) | (k_here; (with_reducible show wpAny _ _ (call (Value.ref 63) [Value.ref _]) _ _ _); k_dflt (refine sum_call (by k_asm) (by k_asm) (by k_asm) (by k_asm) (by k_asm) (by first | exact rfl | assumption) (by ktr_room) (by ktr_units) (by kcf_m) (by assumption) (by first | assumption | omega | (simp only [List.length_append, plane_length]; omega)) ?_; intro _ _ _ _ _; (try dsimp only); (try k_fold))) | (k_here; (with_reducible show wpAny _ _ (call (Value.ref 83) [Value.ref _]) _ _ _); k_dflt (refine planes_call (by k_asm) (by k_asm) (by k_asm) (by k_asm) (by k_asm) (by first | exact rfl | assumption) (by ktr_room) (by ktr_units) (by kcf_m) (by first | assumption | (refine Cols.mono ?_ (by assumption); kcf_all)) (by assumption) ?_; intro _ _ _ _ _ _ _ _ _ _ _ _ _ _; (try dsimp only); (try k_fold))) | (k_here; (with_reducible show wpAny _ _ (call (Value.ref 78) [Value.ref _, Value.int _ _]) _ _ _); k_dflt (refine moved_call (by k_asm) (by k_asm) (by k_asm) (by k_asm) (by k_asm) (by first | exact rfl | assumption) (by ktr_room) (by ktr_units) (by kcf_m) (by first | assumption | (refine Cols.mono ?_ (by assumption); kcf_all)) (by assumption) (by assumption) (by assumption) (by assumption) (by assumption) ?_; intro _ _ _ _ _ _ _ _ _ _ _; (try dsimp only); (try k_fold))))) | walk1 | (dsimp only; walk1)))
              exact ⟨_, _, _, rfl, by k_asm, by k_asm, off9, .inr ⟨_, by kcf_m, rfl, _, rfl⟩, rfl, _, rfl⟩
            · simp at hv9; subst hv9
              repeat' ((fail_if_success (with_reducible show LCg.CompEnd _ _ _ _ _ _ _ _ _ _ _ _ _ _)); (first | (k_unfold; (try dsimp only)) | (with_reducible (first | (k_here; (with_reducible show wpAny _ _ (call (Value.ref 73) [Value.int _ _, Value.int _ _]) _ _ _); k_dflt (refine rest_call (by k_asm) (by k_asm) (by k_asm) (by k_asm) (by k_asm) (by first | exact rfl | assumption) (by ktr_room) (by ktr_units) (by omega) (by omega) ?_; intro _ _ _ _ _; (try dsimp only); (try k_fold))) | (k_here; (with_reducible show wpAny _ _ (call (Value.ref 68) [Value.int _ _]) _ _ _); k_dflt (refine mirr_call (by k_asm) (by k_asm) (by k_asm) (by k_asm) (by k_asm) (by first | exact rfl | assumption) (by ktr_room) (by ktr_units) ?_; intro _ _ _ _ _; (try dsimp only); (try k_fold))) | (k_here; (with_reducible show wpAny _ _ (call (Value.ref 63) [Value.ref _]) _ _ _); k_dflt (refine sum_call (by k_asm) (by k_asm) (by k_asm) (by k_asm) (by k_asm) (by first | exact rfl | assumption) (by ktr_room) (by ktr_units) (by kcf_m) (by assumption) (by first | assumption | omega | (simp only [List.length_append, plane_length]; omega)) ?_; intro _ _ _ _ _; (try dsimp only); (try k_fold))) | (k_here; (with_reducible show wpAny _ _ (call (Value.ref 83) [Value.ref _]) _ _ _); k_dflt (refine planes_call (by k_asm) (by k_asm) (by k_asm) (by k_asm) (by k_asm) (by first | exact rfl | assumption) (by ktr_room) (by ktr_units) (by kcf_m) (by first | assumption | (refine Cols.mono ?_ (by assumption); kcf_all)) (by assumption) ?_; intro _ _ _ _ _ _ _ _ _ _ _ _ _ _; (try dsimp only); (try k_fold))) | (k_here; (with_reducible show wpAny _ _ (call (Value.ref 78) [Value.ref _, Value.int _ _]) _ _ _); k_dflt (refine moved_call (by k_asm) (by k_asm) (by k_asm) (by k_asm) (by k_asm) (by first | exact rfl | assumption) (by ktr_room) (by ktr_units) (by kcf_m) (by first | assumption | (refine Cols.mono ?_ (by assumption); kcf_all)) (by assumption) (by assumption) (by assumption) (by assumption) (by assumption) ?_; intro _ _ _ _ _ _ _ _ _ _ _; (try dsimp only); (try k_fold))))) | walk1 | (dsimp only; walk1)))
              exact ⟨_, _, _, rfl, by k_asm, by k_asm, off9, .inr ⟨_, by kcf_m, rfl, _, rfl⟩, rfl, _, rfl⟩
          · intro ys10 hl10 hR10
            obtain ⟨z0, z1, z2, rfl⟩ := three hl10
            obtain ⟨w0, rfl⟩ := hR10 0 _ rfl
            obtain ⟨w1, rfl⟩ := hR10 1 _ rfl
            obtain ⟨w2, rfl⟩ := hR10 2 _ rfl
            clear hR10 hl10 F8 F7 N7
            intro D10 h10 tk10 F10 N10 off10
            have N11 := cb_drop (news := (D10, _) :: (D6, LCg.lst ys6) :: nw6) N10 (by kcf_all)
            clear N10 N8 off10
            repeat' ((fail_if_success (with_reducible show wpAny _ _ (exec (Stmt.For _ _ _ _ _) _) _ _ _)); (first | (k_unfold; (try dsimp only)) | (with_reducible (first | (k_here; (with_reducible show wpAny _ _ (call (Value.ref 73) [Value.int _ _, Value.int _ _]) _ _ _); k_dflt (refine rest_call (by k_asm) (by k_asm) (by k_asm) (by k_asm) (by k_asm) (by first | exact rfl | assumption) (by ktr_room) (by ktr_units) (by omega) (by omega) ?_; intro _ _ _ _ _; (try dsimp only); (try k_fold))) | (k_here; (with_reducible show wpAny _ _ (call (Value.ref 68) [Value.int _ _]) _ _ _); k_dflt (refine mirr_call (by k_asm) (by k_asm) (by k_asm) (by k_asm) (by k_asm) (by first | exact rfl | assumption) (by ktr_room) (by ktr_units) ?_; intro _ _ _ _ _; (try dsimp only); (try k_fold))) | (k_here; (with_reducible show wpAny _ _ (call (Value.ref 63) [Value.ref _]) _ _ _); k_dflt (refine sum_call (by k_asm) (by k_asm) (by k_asm) (by k_asm) (by k_asm) (by first | exact rfl | assumption) (by ktr_room) (by ktr_units) (by kcf_m) (by assumption) (by first | assumption | omega | (simp only [List.length_append, plane_length]; omega)) ?_; intro _ _ _ _ _; (try dsimp only); (try k_fold))) | (k_here; (with_reducible show wpAny _ _ (call (Value.ref 83) [Value.ref _]) _ _ _); k_dflt (refine planes_call (by k_asm) (by k_asm) (by k_asm) (by k_asm) (by k_asm) (by first | exact rfl | assumption) (by ktr_room) (by ktr_units) (by kcf_m) (by first | assumption | (refine Cols.mono ?_ (by assumption); kcf_all)) (by assumption) ?_; intro _ _ _ _ _ _ _ _ _ _ _ _ _ _; (try dsimp only); (try k_fold))) | (k_here; (with_reducible show wpAny _ _ (call (Value.ref 78) [Value.ref _, Value.int _ _]) _ _ _); k_dflt (refine moved_call (by k_asm) (by k_asm) (by k_asm) (by k_asm) (by k_asm) (by first | exact rfl | assumption) (by ktr_room) (by ktr_units) (by kcf_m) (by first | assumption | (refine Cols.mono ?_ (by assumption); kcf_all)) (by assumption) (by assumption) (by assumption) (by assumption) (by assumption) ?_; intro _ _ _ _ _ _ _ _ _ _ _; (try dsimp only); (try k_fold))))) | walk1 | (dsimp only; walk1)))
            rename Fr _ _ _ _ => F12
            rename News _ _ _ _ => N12
            with_unfolding_all refine' For_invVF F12 ?k1 ?k2 ?_; (case k1 => exact rfl); (case k2 => exact rfl)
            walk1
            refine iterJ (LwJ D2 ys2 row.length) rfl (.tail _ (.tail _ hD2)) F12 N12 ?hj ?hJl ?turn ?done
            case hj => exact ⟨D6, ys6, _, row.map colOf, _, _, _, _, _, .tail _ (.tail _ hD2), .tail _ (.head _), hcols6.mono (fun p hp => .tail _ (.tail _ hp)), by rw [List.length_map], (fun c hc => by obtain ⟨x, _, rfl⟩ := List.mem_map.mp hc; exact colOf_in x), rfl, rfl, rfl, rfl, rfl, rfl⟩
            case hJl =>
              rintro i m nx ⟨pic, ysP, kP, cols, t1, t2, t3, t4, t5, h1, _⟩
              exact h1
            case turn =>
              intro i v m₁ nx h tk I oI hcI hv hJ offI F13 N13
              obtain ⟨pic, ysP, kP, cols, t1, t2, t3, t4, t5, hr1, hp1, hc1, hn1', hb1, m1, m2, m3, m4, m5, m6⟩ := hJ
              obtain ⟨xk, tx, rfl, hxk⟩ := IntsAre.at hi2 i v hv
              rw [lw_map m1 m2 m3 m4 m5 m6] at F13
              have hlc : cols.length < 100 := by omega
              have hb1' : ∀ c ∈ cols, (0 ≤ c.1 ∧ c.1 < 16) ∧ (0 ≤ c.2.1 ∧ c.2.1 < 16) ∧ (0 ≤ c.2.2 ∧ c.2.2 < 16) := hb1
              have hmv : xk.fmod 3 = 0 ∨ xk.fmod 3 = 1 ∨ xk.fmod 3 = 2 := by rw [Int.fmod_eq_emod_of_nonneg xk (by decide)]; omega
              obtain ⟨cols', hcd⟩ : ∃ cols', cols' = cols.map (mvCol (xk.fmod 3)) := ⟨_, rfl⟩
              have hl' : cols'.length = cols.length := by rw [hcd, List.length_map]
              have hok : ∀ (i : Nat) c c', cols[i]? = some c → cols'[i]? = some c' → MoveOk (xk.fmod 3) c c' := by
                intro j c c' h1 h2
                rw [hcd, List.getElem?_map, h1] at h2
                obtain rfl : mvCol (xk.fmod 3) c = c' := by simpa using h2
                exact move_ok hmv (hb1 c (List.mem_of_getElem? h1))
              have hb2' : ∀ c ∈ cols', InB c := by
                rw [hcd]; intro c hc; obtain ⟨d, hd1, rfl⟩ := List.mem_map.mp hc; exact mvCol_in (hb1 d hd1)
              have hlc' : cols'.length < 100 := by omega
              have hlp : ∀ k, (plane k cols').length < 100 := fun k => by rw [plane_length]; exact hlc'
              clear F12 N12 m1 m2 m3 m4 m5 m6 hcols6 hI0 hI1 hI2 hlen6 hlen6'
              repeat' ((fail_if_success (with_reducible show wpAny _ _ (exec (Stmt.If _ _ _ _) _) _ _ _)); (first | (k_unfold; (try dsimp only)) | (with_reducible (first | (k_here; (with_reducible show wpAny _ _ (call (Value.ref 73) [Value.int _ _, Value.int _ _]) _ _ _); k_dflt (refine rest_call (by k_asm) (by k_asm) (by k_asm) (by k_asm) (by k_asm) (by first | exact rfl | assumption) (by ktr_room) (by ktr_units) (by omega) (by omega) ?_; intro _ _ _ _ _; (try dsimp only); (try k_fold))) | (k_here; (with_reducible show wpAny _ _ (call (Value.ref 68) [Value.int _ _]) _ _ _); k_dflt (refine mirr_call (by k_asm) (by k_asm) (by k_asm) (by k_asm) (by k_asm) (by first | exact rfl | assumption) (by ktr_room) (by ktr_units) ?_; intro _ _ _ _ _; (try dsimp only); (try k_fold))) | (k_here; (with_reducible show wpAny _ _ (call (Value.ref 63) [Value.ref _]) _ _ _); k_dflt (refine sum_call (by k_asm) (by k_asm) (by k_asm) (by k_asm) (by k_asm) (by first | exact rfl | assumption) (by ktr_room) (by ktr_units) (by kcf_m) (by assumption) (by first | assumption | omega | (simp only [List.length_append, plane_length]; omega)) ?_; intro _ _ _ _ _; (try dsimp only); (try k_fold))) | (k_here; (with_reducible show wpAny _ _ (call (Value.ref 83) [Value.ref _]) _ _ _); k_dflt (refine planes_call (by k_asm) (by k_asm) (by k_asm) (by k_asm) (by k_asm) (by first | exact rfl | assumption) (by ktr_room) (by ktr_units) (by kcf_m) (by first | assumption | (refine Cols.mono ?_ (by assumption); kcf_all)) (by assumption) ?_; intro _ _ _ _ _ _ _ _ _ _ _ _ _ _; (try dsimp only); (try k_fold))) | (k_here; (with_reducible show wpAny _ _ (call (Value.ref 78) [Value.ref _, Value.int _ _]) _ _ _); k_dflt (refine moved_call (by k_asm) (by k_asm) (by k_asm) (by k_asm) (by k_asm) (by first | exact rfl | assumption) (by ktr_room) (by ktr_units) (by kcf_m) (by first | assumption | (refine Cols.mono ?_ (by assumption); kcf_all)) (by assumption) (by assumption) (by assumption) (by assumption) (by assumption) ?_; intro _ _ _ _ _ _ _ _ _ _ _; (try dsimp only); (try k_fold))))) | walk1 | (dsimp only; walk1)))
              rename Cols _ _ cols' => hc9
              rename ∀ q ∈ _ ++ (I, oI) :: nx, _ ≠ _ => hX9
              rename ∀ p ∈ _, ∀ q ∈ (I, oI) :: nx, _ ≠ _ => hT9
              repeat' ((fail_if_success (with_reducible show wpAny _ _ (exec (Stmt.Assign _ (Expr.Call _ _ _ _) _) _) _ _ _)); (first | (k_unfold; (try dsimp only)) | (with_reducible (first | (k_here; (with_reducible show wpAny _ _ (call (Value.ref 73) [Value.int _ _, Value.int _ _]) _ _ _); k_dflt (refine rest_call (by k_asm) (by k_asm) (by k_asm) (by k_asm) (by k_asm) (by first | exact rfl | assumption) (by ktr_room) (by ktr_units) (by omega) (by omega) ?_; intro _ _ _ _ _; (try dsimp only); (try k_fold))) | (k_here; (with_reducible show wpAny _ _ (call (Value.ref 68) [Value.int _ _]) _ _ _); k_dflt (refine mirr_call (by k_asm) (by k_asm) (by k_asm) (by k_asm) (by k_asm) (by first | exact rfl | assumption) (by ktr_room) (by ktr_units) ?_; intro _ _ _ _ _; (try dsimp only); (try k_fold))) | (k_here; (with_reducible show wpAny _ _ (call (Value.ref 63) [Value.ref _]) _ _ _); k_dflt (refine sum_call (by k_asm) (by k_asm) (by k_asm) (by k_asm) (by k_asm) (by first | exact rfl | assumption) (by ktr_room) (by ktr_units) (by kcf_m) (by assumption) (by first | assumption | omega | (simp only [List.length_append, plane_length]; omega)) ?_; intro _ _ _ _ _; (try dsimp only); (try k_fold))) | (k_here; (with_reducible show wpAny _ _ (call (Value.ref 83) [Value.ref _]) _ _ _); k_dflt (refine planes_call (by k_asm) (by k_asm) (by k_asm) (by k_asm) (by k_asm) (by first | exact rfl | assumption) (by ktr_room) (by ktr_units) (by kcf_m) (by first | assumption | (refine Cols.mono ?_ (by assumption); kcf_all)) (by assumption) ?_; intro _ _ _ _ _ _ _ _ _ _ _ _ _ _; (try dsimp only); (try k_fold))) | (k_here; (with_reducible show wpAny _ _ (call (Value.ref 78) [Value.ref _, Value.int _ _]) _ _ _); k_dflt (refine moved_call (by k_asm) (by k_asm) (by k_asm) (by k_asm) (by k_asm) (by first | exact rfl | assumption) (by ktr_room) (by ktr_units) (by kcf_m) (by first | assumption | (refine Cols.mono ?_ (by assumption); kcf_all)) (by assumption) (by assumption) (by assumption) (by assumption) (by assumption) ?_; intro _ _ _ _ _ _ _ _ _ _ _; (try dsimp only); (try k_fold))))) | walk1 | (dsimp only; walk1)))
              · have e3 : xk.fmod 3 = 0 := by assumption
                rename Fr _ _ _ _ => F14
                rename News _ _ _ _ => N14
                have s0 : sums 2 cols = sums 0 cols' := by rw [hcd, e3]; unfold sums; rw [(plane_mv0 cols).1]
                have s1 : sums 0 cols = sums 1 cols' := by rw [hcd, e3]; unfold sums; rw [(plane_mv0 cols).2.1]
                have s2 : sums 1 cols = sums 2 cols' := by rw [hcd, e3]; unfold sums; rw [(plane_mv0 cols).2.2]
                rw [s0, s1, s2] at F14
                have N15 := cb_drop (news := _ :: (_ ++ (I, oI) :: nx)) N14 (fun p hp => .tail _ hp)
                clear N14 s0 s1 s2 hc1 hb1 hb1' hok hcd hp1
                repeat' ((fail_if_success (with_reducible show TurnEnd _ _ _ _ _ _ _ _ _)); (first | (k_unfold; (try dsimp only)) | (with_reducible (first | (k_here; (with_reducible show wpAny _ _ (call (Value.ref 73) [Value.int _ _, Value.int _ _]) _ _ _); k_dflt (refine rest_call (by k_asm) (by k_asm) (by k_asm) (by k_asm) (by k_asm) (by first | exact rfl | assumption) (by ktr_room) (by ktr_units) (by omega) (by omega) ?_; intro _ _ _ _ _; (try dsimp only); (try k_fold))) | (k_here; (with_reducible show wpAny _ _ (call (Value.ref 68) [Value.int _ _]) _ _ _); k_dflt (refine mirr_call (by k_asm) (by k_asm) (by k_asm) (by k_asm) (by k_asm) (by first | exact rfl | assumption) (by ktr_room) (by ktr_units) ?_; intro _ _ _ _ _; (try dsimp only); (try k_fold))) | (k_here; (with_reducible show wpAny _ _ (call (Value.ref 63) [Value.ref _]) _ _ _); k_dflt (refine sum_call (by k_asm) (by k_asm) (by k_asm) (by k_asm) (by k_asm) (by first | exact rfl | assumption) (by ktr_room) (by ktr_units) (by kcf_m) (by assumption) (by first | assumption | omega | (simp only [List.length_append, plane_length]; omega)) ?_; intro _ _ _ _ _; (try dsimp only); (try k_fold))) | (k_here; (with_reducible show wpAny _ _ (call (Value.ref 83) [Value.ref _]) _ _ _); k_dflt (refine planes_call (by k_asm) (by k_asm) (by k_asm) (by k_asm) (by k_asm) (by first | exact rfl | assumption) (by ktr_room) (by ktr_units) (by kcf_m) (by first | assumption | (refine Cols.mono ?_ (by assumption); kcf_all)) (by assumption) ?_; intro _ _ _ _ _ _ _ _ _ _ _ _ _ _; (try dsimp only); (try k_fold))) | (k_here; (with_reducible show wpAny _ _ (call (Value.ref 78) [Value.ref _, Value.int _ _]) _ _ _); k_dflt (refine moved_call (by k_asm) (by k_asm) (by k_asm) (by k_asm) (by k_asm) (by first | exact rfl | assumption) (by ktr_room) (by ktr_units) (by kcf_m) (by first | assumption | (refine Cols.mono ?_ (by assumption); kcf_all)) (by assumption) (by assumption) (by assumption) (by assumption) (by assumption) ?_; intro _ _ _ _ _ _ _ _ _ _ _; (try dsimp only); (try k_fold))))) | walk1 | (dsimp only; walk1)))
                · exact absurd (crc_join (by rw [hl', hn1']) hb2').symm (by assumption)
                show TurnNext _ _ _ _ _ _ _
                exact turn_fin (by k_asm) (by k_asm) hcI offI hT9 hX9 hc9 hr1 (by rw [hl', hn1']) hb2' (by kcf_all) rfl rfl rfl rfl rfl rfl
              · have e3 : xk.fmod 3 = 1 := by assumption
                rename Fr _ _ _ _ => F14
                rename News _ _ _ _ => N14
                have s0 : sums 0 cols = sums 0 cols' := by rw [hcd, e3]; unfold sums; rw [(plane_mv1 cols).1]
                have s1 : sums 2 cols = sums 1 cols' := by rw [hcd, e3]; unfold sums; rw [(plane_mv1 cols).2.1]
                have s2 : sums 1 cols = sums 2 cols' := by rw [hcd, e3]; unfold sums; rw [(plane_mv1 cols).2.2]
                rw [s0, s1, s2] at F14
                have N15 := cb_drop (news := _ :: (_ ++ (I, oI) :: nx)) N14 (fun p hp => .tail _ hp)
                clear N14 s0 s1 s2 hc1 hb1 hb1' hok hcd hp1
                repeat' ((fail_if_success (with_reducible show TurnEnd _ _ _ _ _ _ _ _ _)); (first | (k_unfold; (try dsimp only)) | (with_reducible (first | (k_here; (with_reducible show wpAny _ _ (call (Value.ref 73) [Value.int _ _, Value.int _ _]) _ _ _); k_dflt (refine rest_call (by k_asm) (by k_asm) (by k_asm) (by k_asm) (by k_asm) (by first | exact rfl | assumption) (by ktr_room) (by ktr_units) (by omega) (by omega) ?_; intro _ _ _ _ _; (try dsimp only); (try k_fold))) | (k_here; (with_reducible show wpAny _ _ (call (Value.ref 68) [Value.int _ _]) _ _ _); k_dflt (refine mirr_call (by k_asm) (by k_asm) (by k_asm) (by k_asm) (by k_asm) (by first | exact rfl | assumption) (by ktr_room) (by ktr_units) ?_; intro _ _ _ _ _; (try dsimp only); (try k_fold))) | (k_here; (with_reducible show wpAny _ _ (call (Value.ref 63) [Value.ref _]) _ _ _); k_dflt (refine sum_call (by k_asm) (by k_asm) (by k_asm) (by k_asm) (by k_asm) (by first | exact rfl | assumption) (by ktr_room) (by ktr_units) (by kcf_m) (by assumption) (by first | assumption | omega | (simp only [List.length_append, plane_length]; omega)) ?_; intro _ _ _ _ _; (try dsimp only); (try k_fold))) | (k_here; (with_reducible show wpAny _ _ (call (Value.ref 83) [Value.ref _]) _ _ _); k_dflt (refine planes_call (by k_asm) (by k_asm) (by k_asm) (by k_asm) (by k_asm) (by first | exact rfl | assumption) (by ktr_room) (by ktr_units) (by kcf_m) (by first | assumption | (refine Cols.mono ?_ (by assumption); kcf_all)) (by assumption) ?_; intro _ _ _ _ _ _ _ _ _ _ _ _ _ _; (try dsimp only); (try k_fold))) | (k_here; (with_reducible show wpAny _ _ (call (Value.ref 78) [Value.ref _, Value.int _ _]) _ _ _); k_dflt (refine moved_call (by k_asm) (by k_asm) (by k_asm) (by k_asm) (by k_asm) (by first | exact rfl | assumption) (by ktr_room) (by ktr_units) (by kcf_m) (by first | assumption | (refine Cols.mono ?_ (by assumption); kcf_all)) (by assumption) (by assumption) (by assumption) (by assumption) (by assumption) ?_; intro _ _ _ _ _ _ _ _ _ _ _; (try dsimp only); (try k_fold))))) | walk1 | (dsimp only; walk1)))
                · exact absurd (crc_join (by rw [hl', hn1']) hb2').symm (by assumption)
                show TurnNext _ _ _ _ _ _ _
                exact turn_fin (by k_asm) (by k_asm) hcI offI hT9 hX9 hc9 hr1 (by rw [hl', hn1']) hb2' (by kcf_all) rfl rfl rfl rfl rfl rfl
              · have e3 : xk.fmod 3 = 2 := by omega
                rename Fr _ _ _ _ => F14
                rename News _ _ _ _ => N14
                have hn1n := hn1'
                have s0 := crc_neg (k := 0) hn1' hn1 hn5 hb1
                have s1 := crc_neg (k := 1) hn1' hn1 hn5 hb1
                have s2 := crc_neg (k := 2) hn1' hn1 hn5 hb1
                rw [e3] at hcd
                rw [← hcd] at s0 s1 s2
                rw [s0, s1, s2] at F14
                have N15 := cb_drop (news := _ :: (_ ++ (I, oI) :: nx)) N14 (fun p hp => .tail _ hp)
                clear N14 s0 s1 s2 hc1 hb1 hb1' hok hcd hp1
                repeat' ((fail_if_success (with_reducible show TurnEnd _ _ _ _ _ _ _ _ _)); (first | (k_unfold; (try dsimp only)) | (with_reducible (first | (k_here; (with_reducible show wpAny _ _ (call (Value.ref 73) [Value.int _ _, Value.int _ _]) _ _ _); k_dflt (refine rest_call (by k_asm) (by k_asm) (by k_asm) (by k_asm) (by k_asm) (by first | exact rfl | assumption) (by ktr_room) (by ktr_units) (by omega) (by omega) ?_; intro _ _ _ _ _; (try dsimp only); (try k_fold))) | (k_here; (with_reducible show wpAny _ _ (call (Value.ref 68) [Value.int _ _]) _ _ _); k_dflt (refine mirr_call (by k_asm) (by k_asm) (by k_asm) (by k_asm) (by k_asm) (by first | exact rfl | assumption) (by ktr_room) (by ktr_units) ?_; intro _ _ _ _ _; (try dsimp only); (try k_fold))) | (k_here; (with_reducible show wpAny _ _ (call (Value.ref 63) [Value.ref _]) _ _ _); k_dflt (refine sum_call (by k_asm) (by k_asm) (by k_asm) (by k_asm) (by k_asm) (by first | exact rfl | assumption) (by ktr_room) (by ktr_units) (by kcf_m) (by assumption) (by first | assumption | omega | (simp only [List.length_append, plane_length]; omega)) ?_; intro _ _ _ _ _; (try dsimp only); (try k_fold))) | (k_here; (with_reducible show wpAny _ _ (call (Value.ref 83) [Value.ref _]) _ _ _); k_dflt (refine planes_call (by k_asm) (by k_asm) (by k_asm) (by k_asm) (by k_asm) (by first | exact rfl | assumption) (by ktr_room) (by ktr_units) (by kcf_m) (by first | assumption | (refine Cols.mono ?_ (by assumption); kcf_all)) (by assumption) ?_; intro _ _ _ _ _ _ _ _ _ _ _ _ _ _; (try dsimp only); (try k_fold))) | (k_here; (with_reducible show wpAny _ _ (call (Value.ref 78) [Value.ref _, Value.int _ _]) _ _ _); k_dflt (refine moved_call (by k_asm) (by k_asm) (by k_asm) (by k_asm) (by k_asm) (by first | exact rfl | assumption) (by ktr_room) (by ktr_units) (by kcf_m) (by first | assumption | (refine Cols.mono ?_ (by assumption); kcf_all)) (by assumption) (by assumption) (by assumption) (by assumption) (by assumption) ?_; intro _ _ _ _ _ _ _ _ _ _ _; (try dsimp only); (try k_fold))))) | walk1 | (dsimp only; walk1)))
                · exact absurd (crc_join (by rw [hl', hn1']) hb2').symm (by assumption)
                show TurnNext _ _ _ _ _ _ _
                exact turn_fin (by k_asm) (by k_asm) hcI offI hT9 hX9 hc9 hr1 (by rw [hl', hn1']) hb2' (by kcf_all) rfl rfl rfl rfl rfl rfl
            case done =>
              intro m₁ nx h tk hJ F13 N13
              clear F12 N12 hJ
              k_steps
  )
end
end Mine
end
theorem PySem.Challenge.cw_mr0141_01_holds : PySem.Challenge.rw_mr0141_01.Holds := by
  exact Mine.fin
