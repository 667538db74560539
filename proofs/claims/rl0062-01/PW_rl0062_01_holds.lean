import PyProof.Rows.All
import Wide.All
import OpenK.AllK
import Wide.FinOn
import PySem.Challenge.RW_rl0062_01
open PySem PySem.W PyProof.Rows PySem.Calls
set_option Elab.async false
set_option maxRecDepth 100000
set_option maxHeartbeats 8000000
set_option linter.unusedVariables false

namespace Mine
open_top hd for PySem.Challenge.rw_rl0062_01
/-- two addresses differ (kept out of omega's sight) -/
structure NeH (a b : Nat) : Prop where
  out : a ≠ b
local macro_rules | `(tactic| walk_at $s:str) => `(tactic| k_extra $s)
local macro_rules | `(tactic| k_ne) => `(tactic| first | exact NeH.out (by with_reducible assumption) | exact Ne.symm (NeH.out (by with_reducible assumption)) | (refine neN ?_; (try dsimp only); omega))
section
open PySem.Flt
theorem lt4 : ∀ i : Nat, i < 4 → i = 0 ∨ i = 1 ∨ i = 2 ∨ i = 3 := by decide
theorem lt16 : ∀ i : Nat, i < 16 → i = 0 ∨ i = 1 ∨ i = 2 ∨ i = 3 ∨ i = 4 ∨ i = 5 ∨ i = 6 ∨ i = 7 ∨ i = 8 ∨ i = 9 ∨ i = 10 ∨ i = 11 ∨ i = 12 ∨ i = 13 ∨ i = 14 ∨ i = 15 := by decide

theorem four_blocks {P : Nat → Prop} (h0 : ∀ p < 4, P p) (h1 : ∀ p < 4, P (p + 4)) (h2 : ∀ p < 4, P (p + 8)) (h3 : ∀ p < 4, P (p + 12)) (p : Nat) (hp : p < 16) : P p := by
  have e : ∀ p < 16, (p < 4 ∨ ∃ q < 4, p = q + 4) ∨ ((∃ q < 4, p = q + 8) ∨ ∃ q < 4, p = q + 12) := by decide
  exact (e p hp).elim (fun h => h.elim (h0 p) fun ⟨q, hq, e⟩ => e ▸ h1 q hq) fun h => h.elim (fun ⟨q, hq, e⟩ => e ▸ h2 q hq) fun ⟨q, hq, e⟩ => e ▸ h3 q hq
section
variable {M : Model} {prog : Program} {w : World} {A : Around} {E : Value → Shared → Prop} {env : Env} {Q : Value → Shared → Prop} {a b : Int} {x y : UInt64} {t u : Tok} {h : Heap} {g : Array GenState} {d : Drawn} {T : Nat} {o : OsState}
theorem ci_f {i : Int} {k : Nat} {pos : Pos} (H : ∀ t tk, Q (.int i t) ⟨h, g, d, tk, o⟩) : wpAny M A (eval (.Constant (.int i) k pos) env) Q E ⟨h, g, d, T, o⟩ := wpAny_Constant_int (H _ _)
theorem cs_f {i : Str} {k : Nat} {pos : Pos} (H : ∀ t tk, Q (.str i t) ⟨h, g, d, tk, o⟩) : wpAny M A (eval (.Constant (.str i) k pos) env) Q E ⟨h, g, d, T, o⟩ := Calls.Constant_str (H _ _)
theorem cf_f {k : Nat} {pos : Pos} (H : ∀ t tk, Q (.float x t) ⟨h, g, d, tk, o⟩) : wpAny M A (eval (.Constant (.float x) k pos) env) Q E ⟨h, g, d, T, o⟩ := AutoFloatOps.wpAny_Constant_float (H _ _)
theorem ai_f (H : ∀ t tk, Q (.int (a + b) t) ⟨h, g, d, tk, o⟩) : wpAny (model prog w) A (binaryOp .Add (.int a t) (.int b u)) Q E ⟨h, g, d, T, o⟩ := add_int (H _ _)
theorem si_f (H : ∀ t tk, Q (.int (a - b) t) ⟨h, g, d, tk, o⟩) : wpAny (model prog w) A (binaryOp .Sub (.int a t) (.int b u)) Q E ⟨h, g, d, T, o⟩ := sub_int (H _ _)
theorem mi_f (hb : b ≠ 0) (H : ∀ t tk, Q (.int (a.fmod b) t) ⟨h, g, d, tk, o⟩) : wpAny (model prog w) A (binaryOp .Mod (.int a t) (.int b u)) Q E ⟨h, g, d, T, o⟩ := mod_int' hb (H _ _)
theorem af_f (H : ∀ t tk, Q (.float (Float64.add x y) t) ⟨h, g, d, tk, o⟩) : wpAny (model prog w) A (binaryOp .Add (.float x t) (.float y u)) Q E ⟨h, g, d, T, o⟩ := add_float (H _ _)
theorem sf_f (H : ∀ t tk, Q (.float (Float64.sub x y) t) ⟨h, g, d, tk, o⟩) : wpAny (model prog w) A (binaryOp .Sub (.float x t) (.float y u)) Q E ⟨h, g, d, T, o⟩ := sub_float (H _ _)
theorem mf_f (H : ∀ t tk, Q (.float (Float64.mul x y) t) ⟨h, g, d, tk, o⟩) : wpAny (model prog w) A (binaryOp .Mult (.float x t) (.float y u)) Q E ⟨h, g, d, T, o⟩ := mul_float (H _ _)
theorem gen_post {α : Type} {p : Sem α} {Q : α → Shared → Prop} {s : Shared} (H : ∀ Q', Q' = Q → wpAny M A p Q' (fun _ _ => False) s) : wpAny M A p Q E s := wpAny_noRaise (H Q rfl)
end
theorem max_three_num {prog : Program} {w : World} {A : Around} {E : Value → Shared → Prop} {s : Shared} {Q : Value → Shared → Prop} {a b c : Value} (hh : A.handled = none) (ha : NumV a) (hb : NumV b) (hc : NumV c)
    (h : ∀ h' tk, (∀ d o, s.heap.get? d = some o → h'.get? d = some o) → Q (if ltV a b then (if ltV b c then c else b) else (if ltV a c then c else a)) { s with heap := h', toks := tk }) :
    wpAny (model prog w) A (call (.builtin "max") [a, b, c]) Q E s := by
  have hT : (s.heap.push { cls := .type "tuple", data := .seq #[a, b, c] }).IsTuple s.heap.objs.size #[a, b, c] := ⟨_, Heap.get?_push_size _ rfl, rfl, 0, rfl⟩
  refine call_max_three (wpAny_pyIter_tuple hT ?_)
  have hsz : (s.heap.push { cls := .type "tuple", data := .seq #[a, b, c] }).objs.size = s.heap.objs.size + 1 := Heap.size_push ..
  refine ⟨_, [_, s.heap.objs.size], [_], _, _, _, _, rfl, Walks.tuple (A := A.in1) hh _ s.heap.objs.size (by rw [hsz]; exact Nat.ne_of_lt (Nat.lt_succ_self _)) #[a, b, c],
    ⟨⟨_, Heap.get?_push_size _ rfl, rfl, rfl⟩, hT.push _⟩, fun d hd => ?_, by simp, cmpOf_gt #[a, b, c] (by simp [ha, hb, hc]), fun v h' tk hP hk => ?_⟩
  · show d < ((s.heap.push _).push _).objs.size
    rw [Heap.size_push, hsz]
    rcases List.mem_cons.mp hd with rfl | hd
    · rw [hsz]; exact Nat.lt_succ_self _
    · rcases List.mem_cons.mp hd with rfl | hd
      · exact Nat.lt_succ_of_lt (Nat.lt_succ_self _)
      · cases hd
  · have hold : ∀ d o, s.heap.get? d = some o → h'.get? d = some o := fun d o e => by
      refine hk d o (fun hm => ?_) (Heap.get?_push_of_some _ (Heap.get?_push_of_some _ e))
      rcases List.mem_cons.mp hm with e1 | hm
      · have := Heap.lt_size e; rw [e1, hsz] at this; exact Nat.lt_irrefl _ (Nat.lt_of_succ_lt this)
      · cases hm
    have := h h' tk hold
    have hv : v = if ltV a b then (if ltV b c then c else b) else (if ltV a c then c else a) := by
      cases h1 : ltV a b <;> cases h2 : ltV b c <;> cases h3 : ltV a c <;> simp [argBest, h1, h2, h3] at hP <;> simp [hP]
    rw [hv]; exact this

theorem min_three_num {prog : Program} {w : World} {A : Around} {E : Value → Shared → Prop} {s : Shared} {Q : Value → Shared → Prop} {a b c : Value} (hh : A.handled = none) (ha : NumV a) (hb : NumV b) (hc : NumV c)
    (h : ∀ h' tk, (∀ d o, s.heap.get? d = some o → h'.get? d = some o) → Q (if ltV b a then (if ltV c b then c else b) else (if ltV c a then c else a)) { s with heap := h', toks := tk }) :
    wpAny (model prog w) A (call (.builtin "min") [a, b, c]) Q E s := by
  have hT : (s.heap.push { cls := .type "tuple", data := .seq #[a, b, c] }).IsTuple s.heap.objs.size #[a, b, c] := ⟨_, Heap.get?_push_size _ rfl, rfl, 0, rfl⟩
  refine call_min_three (wpAny_pyIter_tuple hT ?_)
  have hsz : (s.heap.push { cls := .type "tuple", data := .seq #[a, b, c] }).objs.size = s.heap.objs.size + 1 := Heap.size_push ..
  refine ⟨_, [_, s.heap.objs.size], [_], _, _, _, _, rfl, Walks.tuple (A := A.in1) hh _ s.heap.objs.size (by rw [hsz]; exact Nat.ne_of_lt (Nat.lt_succ_self _)) #[a, b, c],
    ⟨⟨_, Heap.get?_push_size _ rfl, rfl, rfl⟩, hT.push _⟩, fun d hd => ?_, by simp, cmpOf_lt #[a, b, c] (by simp [ha, hb, hc]), fun v h' tk hP hk => ?_⟩
  · show d < ((s.heap.push _).push _).objs.size
    rw [Heap.size_push, hsz]
    rcases List.mem_cons.mp hd with rfl | hd
    · rw [hsz]; exact Nat.lt_succ_self _
    · rcases List.mem_cons.mp hd with rfl | hd
      · exact Nat.lt_succ_of_lt (Nat.lt_succ_self _)
      · cases hd
  · have hold : ∀ d o, s.heap.get? d = some o → h'.get? d = some o := fun d o e => by
      refine hk d o (fun hm => ?_) (Heap.get?_push_of_some _ (Heap.get?_push_of_some _ e))
      rcases List.mem_cons.mp hm with e1 | hm
      · have := Heap.lt_size e; rw [e1, hsz] at this; exact Nat.lt_irrefl _ (Nat.lt_of_succ_lt this)
      · cases hm
    have := h h' tk hold
    have hv : v = if ltV b a then (if ltV c b then c else b) else (if ltV c a then c else a) := by
      cases h1 : ltV b a <;> cases h2 : ltV c b <;> cases h3 : ltV c a <;> simp [argBest, h1, h2, h3] at hP <;> simp [hP]
    rw [hv]; exact this

noncomputable def ltF (x y : UInt64) : Bool := Float64.cmp x y == some .lt
noncomputable def max3 (r g b : UInt64) : UInt64 := if ltF r g then (if ltF g b then b else g) else (if ltF r b then b else r)
noncomputable def min3 (r g b : UInt64) : UInt64 := if ltF g r then (if ltF b g then b else g) else (if ltF b r then b else r)

theorem pick3 {x y z : UInt64} {t u v : Tok} (p q r : Bool) : ∃ k, (if p then (if q then Value.float z v else .float y u) else (if r then .float z v else .float x t)) = .float (if p then (if q then z else y) else (if r then z else x)) k := by
  cases p <;> cases q <;> cases r <;> exact ⟨_, rfl⟩
section
variable {prog : Program} {w : World} {A : Around} {E : Value → Shared → Prop} {s : Shared} {Q : Value → Shared → Prop} {x y z : UInt64} {t u v : Tok} {h₀ : Heap} {L : Addr} {m : Str → Option Value} {news : List (Addr × Obj)}
theorem max3_fff (hh : A.handled = none) (F : Fr h₀ L s.heap m) (N : News h₀ L s.heap news)
    (h : ∀ h' tk v, Fr h₀ L h' m → News h₀ L h' news → Q (.float (max3 x y z) v) { s with heap := h', toks := tk }) :
    wpAny (model prog w) A (call (.builtin "max") [.float x t, .float y u, .float z v]) Q E s :=
  max_three_num hh (.float _ _) (.float _ _) (.float _ _) fun h' tk kp => (pick3 (ltF x y) (ltF y z) (ltF x z)).elim fun k e =>
    (congrArg (fun a => Q a _) e).mpr (h h' tk k (F.grownK kp) (N.grown kp))
theorem min3_fff (hh : A.handled = none) (F : Fr h₀ L s.heap m) (N : News h₀ L s.heap news)
    (h : ∀ h' tk v, Fr h₀ L h' m → News h₀ L h' news → Q (.float (min3 x y z) v) { s with heap := h', toks := tk }) :
    wpAny (model prog w) A (call (.builtin "min") [.float x t, .float y u, .float z v]) Q E s :=
  min_three_num hh (.float _ _) (.float _ _) (.float _ _) fun h' tk kp => (pick3 (ltF y x) (ltF z y) (ltF z x)).elim fun k e =>
    (congrArg (fun a => Q a _) e).mpr (h h' tk k (F.grownK kp) (N.grown kp))
end
end
section
noncomputable abbrev tup3 (a b c : Value) (n : Nat) : Obj := { cls := .type "tuple", data := .seq #[a, b, c] n }
noncomputable def eqF (x y : UInt64) : Bool := Float64.cmp x y == some .eq
noncomputable def rngF (r g b : UInt64) : UInt64 := Float64.sub (max3 r g b) (min3 r g b)
/-- six times the hue, before it is turned into the unit interval -/
noncomputable def hueQ (r g b : UInt64) : UInt64 :=
  if eqF r (max3 r g b) = true then Float64.sub (Float64.div (Float64.sub (max3 r g b) b) (rngF r g b)) (Float64.div (Float64.sub (max3 r g b) g) (rngF r g b))
  else if eqF g (max3 r g b) = true then Float64.sub (Float64.add 4611686018427387904 (Float64.div (Float64.sub (max3 r g b) r) (rngF r g b))) (Float64.div (Float64.sub (max3 r g b) b) (rngF r g b))
  else Float64.sub (Float64.add 4616189618054758400 (Float64.div (Float64.sub (max3 r g b) g) (rngF r g b))) (Float64.div (Float64.sub (max3 r g b) r) (rngF r g b))
noncomputable def hueOf (r g b : UInt64) : UInt64 := (Float64.divmod (Float64.div (hueQ r g b) 4618441417868443648) 4607182418800017408).2
theorem hueQ_1 {r g b : UInt64} (h : (Float64.cmp r (max3 r g b) == some Ordering.eq) = true) : hueQ r g b = Float64.sub (Float64.div (Float64.sub (max3 r g b) b) (Float64.sub (max3 r g b) (min3 r g b))) (Float64.div (Float64.sub (max3 r g b) g) (Float64.sub (max3 r g b) (min3 r g b))) := by
  unfold hueQ eqF rngF; rw [if_pos h]
theorem hueQ_2 {r g b : UInt64} (h : (Float64.cmp r (max3 r g b) == some Ordering.eq) = false) (h' : (Float64.cmp g (max3 r g b) == some Ordering.eq) = true) : hueQ r g b = Float64.sub (Float64.add 4611686018427387904 (Float64.div (Float64.sub (max3 r g b) r) (Float64.sub (max3 r g b) (min3 r g b)))) (Float64.div (Float64.sub (max3 r g b) b) (Float64.sub (max3 r g b) (min3 r g b))) := by
  unfold hueQ eqF rngF; rw [if_neg (by rw [h]; decide), if_pos h']
theorem hueQ_3 {r g b : UInt64} (h : (Float64.cmp r (max3 r g b) == some Ordering.eq) = false) (h' : (Float64.cmp g (max3 r g b) == some Ordering.eq) = false) : hueQ r g b = Float64.sub (Float64.add 4616189618054758400 (Float64.div (Float64.sub (max3 r g b) g) (Float64.sub (max3 r g b) (min3 r g b)))) (Float64.div (Float64.sub (max3 r g b) r) (Float64.sub (max3 r g b) (min3 r g b))) := by
  unfold hueQ eqF rngF; rw [if_neg (by rw [h]; decide), if_neg (by rw [h']; decide)]
noncomputable def HueV (r g b : UInt64) (v : Value) : Prop := ∃ t, v = .float (hueQ r g b) t
noncomputable def SomeF (v : Value) : Prop := ∃ y t, v = .float y t
section
variable {M : Model} {A : Around} {E : Value → Shared → Prop} {s : Shared} {h₀ : Heap} {L : Addr} {m : Str → Option Value} {news : List (Addr × Obj)} {env : Env} {x : Str} {P : Value → Prop} {Q : Flow → Shared → Prop}
/-- the ways of an if meet again: one local was stored -/
noncomputable def Joined (h₀ : Heap) (L : Addr) (m : Str → Option Value) (s : Shared) (x : Str) (P : Value → Prop) (news : List (Addr × Obj)) (f : Flow) (s' : Shared) : Prop :=
  f = .next ∧ ∃ h' tk' v, s' = { s with heap := h', toks := tk' } ∧ P v ∧ Fr h₀ L h' (fun y => if y = x then some v else m y) ∧ News h₀ L h' news
theorem Joined.intro {h' : Heap} {tk' : Nat} {v : Value} (F : Fr h₀ L h' (fun y => if y = x then some v else m y)) (N : News h₀ L h' news) (p : P v) : Joined h₀ L m s x P news .next { s with heap := h', toks := tk' } := ⟨rfl, h', tk', v, rfl, p, F, N⟩
theorem If_join {test : Expr} {body orelse rest : List Stmt} {pos : Pos} (_F : Fr h₀ L s.heap m) (_N : News h₀ L s.heap news) (h1 : wpAny M A (exec (.If test body orelse pos) env) (Joined h₀ L m s x P news) E s)
    (h2 : ∀ h' tk' v, P v → Fr h₀ L h' (fun y => if y = x then some v else m y) → News h₀ L h' news → wpAny M A (execs rest env) Q E { s with heap := h', toks := tk' }) : wpAny M A (execs (.If test body orelse pos :: rest) env) Q E s := by
  refine wpAny_execs_cons (wpAny_mono h1 (fun f s' h => ?_) fun _ _ e => e)
  obtain ⟨rfl, h', tk', v, rfl, p, F, N⟩ := h
  exact h2 h' tk' v p F N
end
section
variable {w : World} {mean : ExcName → Option Value} {mg mb : Str → Option Value} {loose : List Str}
  {dp un : Nat} {gd : Option (List Code)} {cn : Str} {cs : Scope} {a : Addr} {ccd : Value} {cl : List (Str × Addr)} {outer : List Env} {A₀ : Around} {base h₀ : Heap} {L : Addr} {m : Str → Option Value} {s : Shared} {Q E : Value → Shared → Prop} {news : List (Addr × Obj)} 


theorem hsv_call {r g b : UInt64} {tr tg tb : Tok}
  (B : Below A₀ base outer h₀) (F : Fr h₀ L s.heap m) (X : (hd.heap_39 w.params).In h₀) (N : News h₀ L s.heap news) (T : Top hd.view_39 loose mean mg mb h₀) (hk : cs.kind = .function)
  (hdp : dp + 1 < recursionLimit) (hun : un + 8 < cLine)
  (h1 : eqF (min3 r g b) (max3 r g b) = false) (h2 : Float64.isZero (max3 r g b) = false) (h3 : Float64.isZero (rngF r g b) = false)
  (ret : ∀ (D : Addr) (t1 t2 t3 : Tok) (n : Nat) (h' : Heap) (tk' : Nat), Fr h₀ L h' m → News h₀ L h' ((D, tup3 (.float (hueOf r g b) t1) (.float (Float64.div (rngF r g b) (max3 r g b)) t2) (.float (max3 r g b) t3) n) :: news) → (∀ p ∈ news, p.1 < D) → Q (.ref D) { s with heap := h', toks := tk' }) :
   wpAny (model Challenge.rw_rl0062_01.row.prog w) (ktrTop dp un gd cn cs L a ccd cl outer) (call (.ref 28) [.float r tr, .float g tg, .float b tb]) Q E s := by
   w_top off
   k_with_none
   k_with "eval Constant int" => (k_here; k_dflt (refine ci_f (fun t' tk' => ?_)))
   k_with "eval Constant str" => (k_here; k_dflt (refine cs_f (fun t' tk' => ?_)))
   k_with "eval Constant float" => (k_here; k_dflt (refine cf_f (fun t' tk' => ?_)))
   k_with "binaryOp Add int int" => (k_here; k_dflt (refine ai_f (fun t' tk' => ?_)))
   k_with "binaryOp Sub int int" => (k_here; k_dflt (refine si_f (fun t' tk' => ?_)))
   k_with "binaryOp Add float float" => (k_here; k_dflt (refine af_f (fun t' tk' => ?_)))
   k_with "binaryOp Sub float float" => (k_here; k_dflt (refine sf_f (fun t' tk' => ?_)))
   k_with "binaryOp Mult float float" => (k_here; k_dflt (refine mf_f (fun t' tk' => ?_)))
   k_with "binaryOp Mod int int" => (k_here; k_dflt (refine mi_f (by decide) (fun t' tk' => ?_)))
   k_with "call builtin:max" => (k_here; (with_reducible show wpAny _ _ (PySem.call (Value.builtin _) [Value.float _ _, Value.float _ _, Value.float _ _]) _ _ _); k_dflt (refine' max3_fff (by rfl) (by k_asm) (by k_asm) ?_; k_whole); intro h' tk' v' F' N'; (try k_sweep))
   k_with "call builtin:min" => (k_here; (with_reducible show wpAny _ _ (PySem.call (Value.builtin _) [Value.float _ _, Value.float _ _, Value.float _ _]) _ _ _); k_dflt (refine' min3_fff (by rfl) (by k_asm) (by k_asm) ?_; k_whole); intro h' tk' v' F' N'; (try k_sweep))
   k_with "execs cons If cons" => (k_extra "join")
   k_with "Joined" => (k_here; k_dflt (refine' Joined.intro (by k_asm) (by k_asm) ?_))
   revert X; k_fill; intro X
   refine wpAny_call ?_
   k_dflt cell_enter
   rename Fr _ _ _ _ => F0
   replace F0 : Fr _ _ _ (fun y => List.lookup y [(Str.ofString "b", .float b tb), (Str.ofString "g", .float g tg), (Str.ofString "r", .float r tr)]) := F0
   k_with "join" => ((with_reducible show wpAny _ _ (execs (Stmt.If (Expr.Compare (Expr.Name (Str.ofString "r") _) _ _ _) _ _ _ :: _) _) _ _ _); k_dflt (refine If_join (x := Str.ofString "h") (P := HueV r g b) (by k_asm) (by k_asm) ?_ (fun h' tk' v' hv' F' N' => ?_)); rotate_left; ((obtain ⟨t', hv9⟩ := hv'); subst hv9; try k_sweep); rotate_left)
   refine gen_post (fun Qf hQf => ?_)
   k_steps
   all_goals (try subst hQf)
   all_goals (try k_steps)
   all_goals (first | exact ⟨_, _, rfl⟩ | exact ⟨_, by rw [hueQ_1 (by assumption)]⟩ | exact ⟨_, by rw [hueQ_2 (by assumption) (by assumption)]⟩ | exact ⟨_, by rw [hueQ_3 (by assumption) (by assumption)]⟩ | skip)
   all_goals (unfold eqF at h1; unfold rngF at h3)
   all_goals try (exfalso; simp_all; done)
   all_goals (unfold rngF at ret)
   all_goals exact ret _ _ _ _ _ _ _ (by assumption) (by assumption) (by assumption)

theorem hls_call {r g b : UInt64} {tr tg tb : Tok}
  (B : Below A₀ base outer h₀) (F : Fr h₀ L s.heap m) (X : (hd.heap_39 w.params).In h₀) (N : News h₀ L s.heap news) (T : Top hd.view_39 loose mean mg mb h₀) (hk : cs.kind = .function)
  (hdp : dp + 1 < recursionLimit) (hun : un + 8 < cLine)
  (h1 : eqF (min3 r g b) (max3 r g b) = false) (h3 : Float64.isZero (rngF r g b) = false)
  (h4 : Float64.isZero (Float64.add (max3 r g b) (min3 r g b)) = false) (h5 : Float64.isZero (Float64.sub (Float64.sub 4611686018427387904 (max3 r g b)) (min3 r g b)) = false)
  (ret : ∀ (D : Addr) (t1 t2 t3 : Tok) (n : Nat) (h' : Heap) (tk' : Nat) (y z : UInt64), Fr h₀ L h' m → News h₀ L h' ((D, tup3 (.float (hueOf r g b) t1) (.float y t2) (.float z t3) n) :: news) → (∀ p ∈ news, p.1 < D) → Q (.ref D) { s with heap := h', toks := tk' }) :
   wpAny (model Challenge.rw_rl0062_01.row.prog w) (ktrTop dp un gd cn cs L a ccd cl outer) (call (.ref 21) [.float r tr, .float g tg, .float b tb]) Q E s := by
   w_top off
   k_with_none
   k_with "eval Constant int" => (k_here; k_dflt (refine ci_f (fun t' tk' => ?_)))
   k_with "eval Constant str" => (k_here; k_dflt (refine cs_f (fun t' tk' => ?_)))
   k_with "eval Constant float" => (k_here; k_dflt (refine cf_f (fun t' tk' => ?_)))
   k_with "binaryOp Add int int" => (k_here; k_dflt (refine ai_f (fun t' tk' => ?_)))
   k_with "binaryOp Sub int int" => (k_here; k_dflt (refine si_f (fun t' tk' => ?_)))
   k_with "binaryOp Add float float" => (k_here; k_dflt (refine af_f (fun t' tk' => ?_)))
   k_with "binaryOp Sub float float" => (k_here; k_dflt (refine sf_f (fun t' tk' => ?_)))
   k_with "binaryOp Mult float float" => (k_here; k_dflt (refine mf_f (fun t' tk' => ?_)))
   k_with "binaryOp Mod int int" => (k_here; k_dflt (refine mi_f (by decide) (fun t' tk' => ?_)))
   k_with "call builtin:max" => (k_here; (with_reducible show wpAny _ _ (PySem.call (Value.builtin _) [Value.float _ _, Value.float _ _, Value.float _ _]) _ _ _); k_dflt (refine' max3_fff (by rfl) (by k_asm) (by k_asm) ?_; k_whole); intro h' tk' v' F' N'; (try k_sweep))
   k_with "call builtin:min" => (k_here; (with_reducible show wpAny _ _ (PySem.call (Value.builtin _) [Value.float _ _, Value.float _ _, Value.float _ _]) _ _ _); k_dflt (refine' min3_fff (by rfl) (by k_asm) (by k_asm) ?_; k_whole); intro h' tk' v' F' N'; (try k_sweep))
   k_with "execs cons If cons" => (k_extra "join")
   k_with "Joined" => (k_here; k_dflt (refine' Joined.intro (by k_asm) (by k_asm) ?_))
   revert X; k_fill; intro X
   refine wpAny_call ?_
   k_dflt cell_enter
   rename Fr _ _ _ _ => F0
   replace F0 : Fr _ _ _ (fun y => List.lookup y [(Str.ofString "b", .float b tb), (Str.ofString "g", .float g tg), (Str.ofString "r", .float r tr)]) := F0
   k_with "join" => ((with_reducible show wpAny _ _ (execs (Stmt.If (Expr.Compare (Expr.Name (Str.ofString "l") _) _ _ _) _ _ _ :: _) _) _ _ _); k_dflt (refine If_join (x := Str.ofString "s") (P := SomeF) (by k_asm) (by k_asm) ?_ (fun h' tk' v' hv' F' N' => ?_)); rotate_left; ((obtain ⟨y', t', hv9⟩ := hv'); subst hv9; try k_sweep); rotate_left)
   k_with "join" => ((with_reducible show wpAny _ _ (execs (Stmt.If (Expr.Compare (Expr.Name (Str.ofString "r") _) _ _ _) _ _ _ :: _) _) _ _ _); k_dflt (refine If_join (x := Str.ofString "h") (P := HueV r g b) (by k_asm) (by k_asm) ?_ (fun h' tk' v' hv' F' N' => ?_)); rotate_left; ((obtain ⟨t', hv9⟩ := hv'); subst hv9; try k_sweep); rotate_left)
   refine gen_post (fun Qf hQf => ?_)
   k_steps
   all_goals (try subst hQf)
   all_goals (try k_steps)
   all_goals (first | exact ⟨_, _, rfl⟩ | exact ⟨_, by rw [hueQ_1 (by assumption)]⟩ | exact ⟨_, by rw [hueQ_2 (by assumption) (by assumption)]⟩ | exact ⟨_, by rw [hueQ_3 (by assumption) (by assumption)]⟩ | skip)
   all_goals (unfold eqF at h1; unfold rngF at h3)
   all_goals try (exfalso; simp_all; done)
   all_goals exact ret _ _ _ _ _ _ _ _ _ (by assumption) (by assumption) (by assumption)
end
end
section
noncomputable def rgbOf (h x v : UInt64) : UInt64 × UInt64 × UInt64 :=
  if (Flt.toInt Float64.truncOf (Float64.mul h 4618441417868443648)).fmod 6 = 0 then (v, (Float64.mul v (Float64.sub 4607182418800017408 (Float64.mul x (Float64.sub 4607182418800017408 (Float64.sub (Float64.mul h 4618441417868443648) (Float64.ofInt (Flt.toInt Float64.truncOf (Float64.mul h 4618441417868443648)))))))), (Float64.mul v (Float64.sub 4607182418800017408 x))) else
  if (Flt.toInt Float64.truncOf (Float64.mul h 4618441417868443648)).fmod 6 = 1 then ((Float64.mul v (Float64.sub 4607182418800017408 (Float64.mul x (Float64.sub (Float64.mul h 4618441417868443648) (Float64.ofInt (Flt.toInt Float64.truncOf (Float64.mul h 4618441417868443648))))))), v, (Float64.mul v (Float64.sub 4607182418800017408 x))) else
  if (Flt.toInt Float64.truncOf (Float64.mul h 4618441417868443648)).fmod 6 = 2 then ((Float64.mul v (Float64.sub 4607182418800017408 x)), v, (Float64.mul v (Float64.sub 4607182418800017408 (Float64.mul x (Float64.sub 4607182418800017408 (Float64.sub (Float64.mul h 4618441417868443648) (Float64.ofInt (Flt.toInt Float64.truncOf (Float64.mul h 4618441417868443648))))))))) else
  if (Flt.toInt Float64.truncOf (Float64.mul h 4618441417868443648)).fmod 6 = 3 then ((Float64.mul v (Float64.sub 4607182418800017408 x)), (Float64.mul v (Float64.sub 4607182418800017408 (Float64.mul x (Float64.sub (Float64.mul h 4618441417868443648) (Float64.ofInt (Flt.toInt Float64.truncOf (Float64.mul h 4618441417868443648))))))), v) else
  if (Flt.toInt Float64.truncOf (Float64.mul h 4618441417868443648)).fmod 6 = 4 then ((Float64.mul v (Float64.sub 4607182418800017408 (Float64.mul x (Float64.sub 4607182418800017408 (Float64.sub (Float64.mul h 4618441417868443648) (Float64.ofInt (Flt.toInt Float64.truncOf (Float64.mul h 4618441417868443648)))))))), (Float64.mul v (Float64.sub 4607182418800017408 x)), v) else
  (v, (Float64.mul v (Float64.sub 4607182418800017408 x)), (Float64.mul v (Float64.sub 4607182418800017408 (Float64.mul x (Float64.sub (Float64.mul h 4618441417868443648) (Float64.ofInt (Flt.toInt Float64.truncOf (Float64.mul h 4618441417868443648))))))))
theorem rgbOf_0 {h x v : UInt64} (e : (Flt.toInt Float64.truncOf (Float64.mul h 4618441417868443648)).fmod 6 = 0) : rgbOf h x v = (v, (Float64.mul v (Float64.sub 4607182418800017408 (Float64.mul x (Float64.sub 4607182418800017408 (Float64.sub (Float64.mul h 4618441417868443648) (Float64.ofInt (Flt.toInt Float64.truncOf (Float64.mul h 4618441417868443648)))))))), (Float64.mul v (Float64.sub 4607182418800017408 x))) := by
  unfold rgbOf; rw [e]; rfl
theorem rgbOf_1 {h x v : UInt64} (e : (Flt.toInt Float64.truncOf (Float64.mul h 4618441417868443648)).fmod 6 = 1) : rgbOf h x v = ((Float64.mul v (Float64.sub 4607182418800017408 (Float64.mul x (Float64.sub (Float64.mul h 4618441417868443648) (Float64.ofInt (Flt.toInt Float64.truncOf (Float64.mul h 4618441417868443648))))))), v, (Float64.mul v (Float64.sub 4607182418800017408 x))) := by
  unfold rgbOf; rw [e]; rfl
theorem rgbOf_2 {h x v : UInt64} (e : (Flt.toInt Float64.truncOf (Float64.mul h 4618441417868443648)).fmod 6 = 2) : rgbOf h x v = ((Float64.mul v (Float64.sub 4607182418800017408 x)), v, (Float64.mul v (Float64.sub 4607182418800017408 (Float64.mul x (Float64.sub 4607182418800017408 (Float64.sub (Float64.mul h 4618441417868443648) (Float64.ofInt (Flt.toInt Float64.truncOf (Float64.mul h 4618441417868443648))))))))) := by
  unfold rgbOf; rw [e]; rfl
theorem rgbOf_3 {h x v : UInt64} (e : (Flt.toInt Float64.truncOf (Float64.mul h 4618441417868443648)).fmod 6 = 3) : rgbOf h x v = ((Float64.mul v (Float64.sub 4607182418800017408 x)), (Float64.mul v (Float64.sub 4607182418800017408 (Float64.mul x (Float64.sub (Float64.mul h 4618441417868443648) (Float64.ofInt (Flt.toInt Float64.truncOf (Float64.mul h 4618441417868443648))))))), v) := by
  unfold rgbOf; rw [e]; rfl
theorem rgbOf_4 {h x v : UInt64} (e : (Flt.toInt Float64.truncOf (Float64.mul h 4618441417868443648)).fmod 6 = 4) : rgbOf h x v = ((Float64.mul v (Float64.sub 4607182418800017408 (Float64.mul x (Float64.sub 4607182418800017408 (Float64.sub (Float64.mul h 4618441417868443648) (Float64.ofInt (Flt.toInt Float64.truncOf (Float64.mul h 4618441417868443648)))))))), (Float64.mul v (Float64.sub 4607182418800017408 x)), v) := by
  unfold rgbOf; rw [e]; rfl
theorem rgbOf_5 {h x v : UInt64} (e : (Flt.toInt Float64.truncOf (Float64.mul h 4618441417868443648)).fmod 6 = 5) : rgbOf h x v = (v, (Float64.mul v (Float64.sub 4607182418800017408 x)), (Float64.mul v (Float64.sub 4607182418800017408 (Float64.mul x (Float64.sub (Float64.mul h 4618441417868443648) (Float64.ofInt (Flt.toInt Float64.truncOf (Float64.mul h 4618441417868443648)))))))) := by
  unfold rgbOf; rw [e]; rfl

theorem fm6 (k : Int) : ∃ n : Nat, n < 6 ∧ k.fmod 6 = (n : Int) :=
  ⟨(k.fmod 6).toNat, (Int.toNat_lt (Int.fmod_nonneg_of_pos _ (by decide))).mpr (Int.fmod_lt_of_pos _ (by decide)), (Int.toNat_of_nonneg (Int.fmod_nonneg_of_pos _ (by decide))).symm⟩
theorem lt6 : ∀ n : Nat, n < 6 → n = 0 ∨ n = 1 ∨ n = 2 ∨ n = 3 ∨ n = 4 ∨ n = 5 := by decide
theorem mod6_no {k : Int} (h0 : k.fmod 6 ≠ 0) (h1 : k.fmod 6 ≠ 1) (h2 : k.fmod 6 ≠ 2) (h3 : k.fmod 6 ≠ 3) (h4 : k.fmod 6 ≠ 4) (h5 : k.fmod 6 ≠ 5) : False := by
  obtain ⟨n, hn, e⟩ := fm6 k
  rcases lt6 n hn with rfl | rfl | rfl | rfl | rfl | rfl
  · exact h0 e
  · exact h1 e
  · exact h2 e
  · exact h3 e
  · exact h4 e
  · exact h5 e
theorem big_no {n : Nat} (h : 2 ^ 1024 - 2 ^ 970 ≤ n) (h' : n < 1048576) : False :=
  absurd (Nat.lt_of_lt_of_le h' (Nat.le_trans (by decide +kernel) h)) (Nat.lt_irrefl _)
section
variable {w : World} {mean : ExcName → Option Value} {mg mb : Str → Option Value} {loose : List Str}
  {dp un : Nat} {gd : Option (List Code)} {cn : Str} {cs : Scope} {a : Addr} {ccd : Value} {cl : List (Str × Addr)} {outer : List Env} {A₀ : Around} {base h₀ : Heap} {L : Addr} {m : Str → Option Value} {s : Shared} {Q E : Value → Shared → Prop} {news : List (Addr × Obj)} 


theorem rgb_call {h x v : UInt64} {tr tg tb : Tok}
  (B : Below A₀ base outer h₀) (F : Fr h₀ L s.heap m) (X : (hd.heap_39 w.params).In h₀) (N : News h₀ L s.heap news) (T : Top hd.view_39 loose mean mg mb h₀) (hk : cs.kind = .function)
  (hdp : dp + 1 < recursionLimit) (hun : un + 8 < cLine)
  (h1 : eqF x 0 = false) (h2 : Float64.isFinite (Float64.mul h 4618441417868443648) = true) (h2a : Float64.isNaN (Float64.mul h 4618441417868443648) = false) (h2b : Float64.isInf (Float64.mul h 4618441417868443648) = false)
  (h3 : (Flt.toInt Float64.truncOf (Float64.mul h 4618441417868443648)).natAbs < 1048576)
  (ret : ∀ (D : Addr) (t1 t2 t3 : Tok) (n : Nat) (h' : Heap) (tk' : Nat), Fr h₀ L h' m → News h₀ L h' ((D, tup3 (.float (rgbOf h x v).1 t1) (.float (rgbOf h x v).2.1 t2) (.float (rgbOf h x v).2.2 t3) n) :: news) → (∀ p ∈ news, p.1 < D) → Q (.ref D) { s with heap := h', toks := tk' }) :
   wpAny (model Challenge.rw_rl0062_01.row.prog w) (ktrTop dp un gd cn cs L a ccd cl outer) (call (.ref 35) [.float h tr, .float x tg, .float v tb]) Q E s := by
   w_top off
   k_with_none
   k_with "eval Constant int" => (k_here; k_dflt (refine ci_f (fun t' tk' => ?_)))
   k_with "eval Constant str" => (k_here; k_dflt (refine cs_f (fun t' tk' => ?_)))
   k_with "eval Constant float" => (k_here; k_dflt (refine cf_f (fun t' tk' => ?_)))
   k_with "binaryOp Add int int" => (k_here; k_dflt (refine ai_f (fun t' tk' => ?_)))
   k_with "binaryOp Sub int int" => (k_here; k_dflt (refine si_f (fun t' tk' => ?_)))
   k_with "binaryOp Add float float" => (k_here; k_dflt (refine af_f (fun t' tk' => ?_)))
   k_with "binaryOp Sub float float" => (k_here; k_dflt (refine sf_f (fun t' tk' => ?_)))
   k_with "binaryOp Mult float float" => (k_here; k_dflt (refine mf_f (fun t' tk' => ?_)))
   k_with "binaryOp Mod int int" => (k_here; k_dflt (refine mi_f (by decide) (fun t' tk' => ?_)))
   revert X; k_fill; intro X
   refine wpAny_call ?_
   k_dflt cell_enter
   rename Fr _ _ _ _ => F0
   replace F0 : Fr _ _ _ (fun y => List.lookup y [(Str.ofString "v", .float v tb), (Str.ofString "s", .float x tg), (Str.ofString "h", .float h tr)]) := F0
   refine gen_post (fun Qf hQf => ?_)
   k_steps
   all_goals (try subst hQf)
   all_goals (try k_steps)
   all_goals (unfold eqF at h1)
   all_goals try (exfalso; first | (rw [h1] at *; contradiction) | exact big_no (by assumption) h3 | (rename (Float64.cmp _ _ == some _) = true => e9; rw [h1] at e9; cases e9) | (rename Float64.isNaN _ = true => e9; rw [h2a] at e9; cases e9) | (rename Float64.isInf _ = true => e9; rw [h2b] at e9; cases e9))
   all_goals (first | rw [rgbOf_0 (by assumption)] at ret | rw [rgbOf_1 (by assumption)] at ret | rw [rgbOf_2 (by assumption)] at ret | rw [rgbOf_3 (by assumption)] at ret | rw [rgbOf_4 (by assumption)] at ret | rw [rgbOf_5 (by assumption)] at ret | skip)
   all_goals try exact ret _ _ _ _ _ _ _ (by assumption) (by assumption) (by assumption)
   all_goals exact (mod6_no (by assumption) (by assumption) (by assumption) (by assumption) (by assumption) (by assumption)).elim
end
end
section
/-- the bits of n / 2 ^ e -/
noncomputable def FD (e n : Nat) : UInt64 := if n = 0 then 0 else UInt64.ofNat ((1023 + n.log2 - e) * 4503599627370496 + (n - 2 ^ n.log2) * 2 ^ (52 - n.log2))
noncomputable def F16 (n : Nat) : UInt64 := FD 4 n
noncomputable def Q4 (n : Nat) : UInt64 := FD 2 n
theorem F16_of0 : ∀ n : Nat, n < 16 → Float64.mul (Float64.ofInt (n : Int)) 4589168020290535424 = F16 n := by decide +kernel
theorem Q4_of0 : ∀ n : Nat, n < 5 → Float64.mul (Float64.ofInt (n : Int)) 4598175219545276416 = Q4 n := by decide +kernel
theorem rgb_num : ∀ n < 241, Float64.mul (F16 n) 4618441417868443648 = F16 (6 * n) ∧ Float64.isFinite (F16 (6 * n)) = true ∧ Float64.isNaN (F16 (6 * n)) = false ∧ Float64.isInf (F16 (6 * n)) = false
   ∧ Flt.toInt Float64.truncOf (F16 (6 * n)) = ((6 * n / 16 : Nat) : Int) ∧ Float64.sub (F16 (6 * n)) (Float64.ofInt ((6 * n / 16 : Nat) : Int)) = F16 ((6 * n) % 16) := by decide +kernel
theorem quarter_ne : ∀ x < 4, eqF (Q4 (x + 1)) 0 = false := by decide +kernel
/-- a colour: its hue in sixteenths, its saturation and value in quarters, less one -/
noncomputable def col (p x l : Nat) : UInt64 × UInt64 × UInt64 :=
  let v := FD 7 (32 * (l + 1))
  let k := 6 * p % 16 / 2
  let P := FD 7 (8 * (l + 1) * (3 - x))
  let q := FD 7 ((l + 1) * (32 - (x + 1) * k))
  let t := FD 7 ((l + 1) * (32 - (x + 1) * (8 - k)))
  match 6 * p / 16 with
  | 0 => (v, t, P)
  | 1 => (q, v, P)
  | 2 => (P, v, t)
  | 3 => (P, q, v)
  | 4 => (t, P, v)
  | _ => (v, P, q)
theorem col_is : ∀ p < 16, ∀ x < 4, ∀ l < 4, rgbOf (F16 p) (Q4 (x + 1)) (Q4 (l + 1)) = col p x l := by decide +kernel
noncomputable def hueOf' (r g b mx rg : UInt64) : UInt64 :=
  (Float64.divmod (Float64.div
    (if eqF r mx = true then Float64.sub (Float64.div (Float64.sub mx b) rg) (Float64.div (Float64.sub mx g) rg)
     else if eqF g mx = true then Float64.sub (Float64.add 4611686018427387904 (Float64.div (Float64.sub mx r) rg)) (Float64.div (Float64.sub mx b) rg)
     else Float64.sub (Float64.add 4616189618054758400 (Float64.div (Float64.sub mx g) rg)) (Float64.div (Float64.sub mx r) rg))
    4618441417868443648) 4607182418800017408).2
noncomputable def colOk (c : UInt64 × UInt64 × UInt64) (mx mn rg : UInt64) (p x l : Nat) : Bool :=
  max3 c.1 c.2.1 c.2.2 == mx && min3 c.1 c.2.1 c.2.2 == mn && Float64.sub mx mn == rg
  && !eqF mn mx && !Float64.isZero mx && !Float64.isZero rg
  && !Float64.isZero (Float64.add mx mn) && !Float64.isZero (Float64.sub (Float64.sub 4611686018427387904 mx) mn)
  && hueOf' c.1 c.2.1 c.2.2 mx rg == F16 p && Float64.div rg mx == Q4 (x + 1) && mx == Q4 (l + 1)
theorem col_ok0 : ∀ p < 16, ∀ x < 4, ∀ l < 4, colOk (col p x l) (FD 7 (32 * (l + 1))) (FD 7 (8 * (l + 1) * (3 - x))) (FD 7 (8 * (l + 1) * (x + 1))) p x l = true := four_blocks (by decide +kernel) (by decide +kernel) (by decide +kernel) (by decide +kernel)
structure ColOk (c : UInt64 × UInt64 × UInt64) (p x l : Nat) : Prop where
  ne : eqF (min3 c.1 c.2.1 c.2.2) (max3 c.1 c.2.1 c.2.2) = false
  mx0 : Float64.isZero (max3 c.1 c.2.1 c.2.2) = false
  rg0 : Float64.isZero (rngF c.1 c.2.1 c.2.2) = false
  sum0 : Float64.isZero (Float64.add (max3 c.1 c.2.1 c.2.2) (min3 c.1 c.2.1 c.2.2)) = false
  two0 : Float64.isZero (Float64.sub (Float64.sub 4611686018427387904 (max3 c.1 c.2.1 c.2.2)) (min3 c.1 c.2.1 c.2.2)) = false
  hue : hueOf c.1 c.2.1 c.2.2 = F16 p
  sat : Float64.div (rngF c.1 c.2.1 c.2.2) (max3 c.1 c.2.1 c.2.2) = Q4 (x + 1)
  val : max3 c.1 c.2.1 c.2.2 = Q4 (l + 1)
theorem col_ok {p x l : Nat} (hp : p < 16) (hx : x < 4) (hl : l < 4) : ColOk (col p x l) p x l := by
  have h := col_ok0 p hp x hx l hl
  simp only [colOk, Bool.and_eq_true, beq_iff_eq, Bool.not_eq_true'] at h
  obtain ⟨⟨⟨⟨⟨⟨⟨⟨⟨⟨h1, h2⟩, h3⟩, h4⟩, h5⟩, h6⟩, h7⟩, h8⟩, h9⟩, h10⟩, h11⟩ := h
  have e : rngF (col p x l).1 (col p x l).2.1 (col p x l).2.2 = FD 7 (8 * (l + 1) * (x + 1)) := by unfold rngF; rw [h1, h2, h3]
  have e2 : hueOf (col p x l).1 (col p x l).2.1 (col p x l).2.2 = hueOf' (col p x l).1 (col p x l).2.1 (col p x l).2.2 (max3 (col p x l).1 (col p x l).2.1 (col p x l).2.2) (rngF (col p x l).1 (col p x l).2.1 (col p x l).2.2) := rfl
  exact ⟨by rw [h1, h2]; exact h4, by rw [h1]; exact h5, by rw [e]; exact h6, by rw [h1, h2]; exact h7, by rw [h1, h2]; exact h8, by rw [e2, h1, e]; exact h9, by rw [e, h1]; exact h10, by rw [h1]; exact h11⟩
theorem rgb_same : ∀ n < 241, ((6 * n / 16 : Nat) : Int).fmod 6 = ((6 * (n % 16) / 16 : Nat) : Int).fmod 6 ∧ 6 * n % 16 = 6 * (n % 16) % 16 ∧ n % 16 < 16 ∧ n % 16 < 241 := by decide +kernel
theorem rgb_key {h h' x v : UInt64} (e1 : (Flt.toInt Float64.truncOf (Float64.mul h 4618441417868443648)).fmod 6 = (Flt.toInt Float64.truncOf (Float64.mul h' 4618441417868443648)).fmod 6)
    (e2 : Float64.sub (Float64.mul h 4618441417868443648) (Float64.ofInt (Flt.toInt Float64.truncOf (Float64.mul h 4618441417868443648))) = Float64.sub (Float64.mul h' 4618441417868443648) (Float64.ofInt (Flt.toInt Float64.truncOf (Float64.mul h' 4618441417868443648)))) :
    rgbOf h x v = rgbOf h' x v := by
  unfold rgbOf
  rw [e1, e2]
theorem rgb_turn {n x l : Nat} (hn : n < 241) (hx : x < 4) (hl : l < 4) : rgbOf (F16 n) (Q4 (x + 1)) (Q4 (l + 1)) = col (n % 16) x l := by
  have e := rgb_same n hn
  have a := rgb_num n hn
  have b := rgb_num (n % 16) e.2.2.2
  refine (rgb_key ?_ ?_).trans (col_is (n % 16) e.2.2.1 x hx l hl)
  · rw [a.1, b.1, a.2.2.2.2.1, b.2.2.2.2.1]; exact e.1
  · rw [a.1, b.1, a.2.2.2.2.1, b.2.2.2.2.1, a.2.2.2.2.2, b.2.2.2.2.2, e.2.1]
noncomputable def ways : List Nat := ((List.range 8).flatMap fun t => (List.range 16).map fun q => (1 + 2 * t) * q).eraseDups ++ [16]
theorem ways_len : ways.length < 90 := by decide +kernel
theorem F16_add0' : ∀ p < 16, ∀ n ∈ ways, Float64.add (F16 p) (F16 n) = F16 (p + n) := four_blocks (by decide +kernel) (by decide +kernel) (by decide +kernel) (by decide +kernel)
theorem F16_add0 : ∀ n ∈ ways, ∀ p < 16, Float64.add (F16 p) (F16 n) = F16 (p + n) := fun n hn p hp => F16_add0' p hp n hn
theorem ways_times : ∀ t < 8, ∀ q < 16, ((1 + 2 * t) * q : Nat) ∈ ways := by decide +kernel
theorem ways_back : ∀ q < 17, (q : Nat) ∈ ways := by decide +kernel
theorem F16_back0 : ∀ q < 16, Float64.sub (Float64.ofInt 1) (F16 q) = F16 (16 - q) := by decide +kernel
theorem F16_times0 : ∀ t : Nat, t < 8 → ∀ q < 16, Float64.mul (Float64.ofInt (1 + 2 * (t : Int))) (F16 q) = F16 ((1 + 2 * t) * q) := by decide +kernel
theorem F16_lt0 : ∀ a < 16, ∀ b < 16, ltF (F16 a) (F16 b) = decide (a < b) := by decide +kernel
end
section
noncomputable abbrev colObj (p x l : Nat) (t1 t2 t3 : Tok) (n : Nat) : Obj := tup3 (.float (col p x l).1 t1) (.float (col p x l).2.1 t2) (.float (col p x l).2.2 t3) n
theorem news_dup {h₀ h : Heap} {L : Addr} {news : List (Addr × Obj)} {q : Addr × Obj} (N : News h₀ L h news) (hm : q ∈ news) : News h₀ L h (q :: news) := fun p hp => by
  rcases List.mem_cons.mp hp with rfl | hp
  · exact N _ hm
  · exact N _ hp
theorem news_tail {h₀ h : Heap} {L : Addr} {news : List (Addr × Obj)} {q : Addr × Obj} (N : News h₀ L h (q :: news)) : News h₀ L h news := fun p hp => N p (List.mem_cons_of_mem _ hp)
theorem news_swap {h₀ h : Heap} {L : Addr} {news : List (Addr × Obj)} {q r : Addr × Obj} (N : News h₀ L h (q :: r :: news)) : News h₀ L h (q :: news) := fun p hp => by
  rcases List.mem_cons.mp hp with rfl | hp
  · exact N _ (List.mem_cons_self)
  · exact N _ (List.mem_cons_of_mem _ (List.mem_cons_of_mem _ hp))
theorem lt_tail {D : Addr} {news : List (Addr × Obj)} {q : Addr × Obj} (N : ∀ p ∈ q :: news, p.1 < D) : ∀ p ∈ news, p.1 < D := fun p hp => N p (List.mem_cons_of_mem _ hp)

section
variable {w : World} {mean : ExcName → Option Value} {mg mb : Str → Option Value} {loose : List Str}
  {dp un : Nat} {gd : Option (List Code)} {cn : Str} {cs : Scope} {a : Addr} {ccd : Value} {cl : List (Str × Addr)} {outer : List Env} {A₀ : Around} {base h₀ : Heap} {L : Addr} {m : Str → Option Value} {s : Shared} {Q E : Value → Shared → Prop} {news : List (Addr × Obj)} 

theorem hsv_col {p x l : Nat} {t1 t2 t3 : Tok}
  (B : Below A₀ base outer h₀) (F : Fr h₀ L s.heap m) (X : (hd.heap_39 w.params).In h₀) (N : News h₀ L s.heap news) (T : Top hd.view_39 loose mean mg mb h₀) (hk : cs.kind = .function)
  (hdp : dp + 1 < recursionLimit) (hun : un + 8 < cLine) (hp : p < 16) (hx : x < 4) (hl : l < 4)
  (ret : ∀ (D : Addr) (t1 t2 t3 : Tok) (n : Nat) (h' : Heap) (tk' : Nat), Fr h₀ L h' m → News h₀ L h' ((D, tup3 (.float (F16 p) t1) (.float (Q4 (x + 1)) t2) (.float (Q4 (l + 1)) t3) n) :: news) → (∀ p ∈ news, p.1 < D) → Q (.ref D) { s with heap := h', toks := tk' }) :
   wpAny (model Challenge.rw_rl0062_01.row.prog w) (ktrTop dp un gd cn cs L a ccd cl outer) (call (.ref 28) [.float (col p x l).1 t1, .float (col p x l).2.1 t2, .float (col p x l).2.2 t3]) Q E s := by
  have hc := col_ok hp hx hl
  refine hsv_call B F X N T hk hdp hun hc.ne hc.mx0 hc.rg0 ?_
  rw [hc.hue, hc.sat, hc.val]
  exact ret

theorem rgb_col {n x l : Nat} {h : UInt64} {t1 t2 t3 : Tok}
  (B : Below A₀ base outer h₀) (F : Fr h₀ L s.heap m) (X : (hd.heap_39 w.params).In h₀) (N : News h₀ L s.heap news) (T : Top hd.view_39 loose mean mg mb h₀) (hk : cs.kind = .function)
  (hdp : dp + 1 < recursionLimit) (hun : un + 8 < cLine) (he : h = F16 n) (hn : n < 241) (hx : x < 4) (hl : l < 4)
  (ret : ∀ (D : Addr) (t1 t2 t3 : Tok) (k : Nat) (h' : Heap) (tk' : Nat), Fr h₀ L h' m → News h₀ L h' ((D, colObj (n % 16) x l t1 t2 t3 k) :: news) → (∀ p ∈ news, p.1 < D) → Q (.ref D) { s with heap := h', toks := tk' }) :
   wpAny (model Challenge.rw_rl0062_01.row.prog w) (ktrTop dp un gd cn cs L a ccd cl outer) (call (.ref 35) [.float h t1, .float (Q4 (x + 1)) t2, .float (Q4 (l + 1)) t3]) Q E s := by
  subst he
  obtain ⟨a1, a2, a3, a4, a5, _⟩ := rgb_num n hn
  refine rgb_call B F X N T hk hdp hun (quarter_ne x hx) (by rw [a1]; exact a2) (by rw [a1]; exact a3) (by rw [a1]; exact a4) (by rw [a1, a5]; show 6 * n / 16 < 1048576; omega) ?_
  rw [rgb_turn hn hx hl]
  exact ret


theorem hue_call {c : Addr} {p x l : Nat} {t1 t2 t3 : Tok} {n : Nat}
  (B : Below A₀ base outer h₀) (F : Fr h₀ L s.heap m) (X : (hd.heap_39 w.params).In h₀) (N : News h₀ L s.heap ((c, colObj p x l t1 t2 t3 n) :: news)) (T : Top hd.view_39 loose mean mg mb h₀) (hk : cs.kind = .function)
  (hdp : dp + 2 < recursionLimit) (hun : un + 16 < cLine)
  (hp : p < 16) (hx : x < 4) (hl : l < 4)
  (ret : ∀ (t : Tok) (h' : Heap) (tk' : Nat), Fr h₀ L h' m → News h₀ L h' ((c, colObj p x l t1 t2 t3 n) :: news) → Q (.float (F16 p) t) { s with heap := h', toks := tk' }) :
   wpAny (model Challenge.rw_rl0062_01.row.prog w) (ktrTop dp un gd cn cs L a ccd cl outer) (call (.ref 89) [.ref c]) Q E s := by
   w_top off
   k_with_none
   k_with "eval Constant int" => (k_here; k_dflt (refine ci_f (fun t' tk' => ?_)))
   k_with "eval Constant str" => (k_here; k_dflt (refine cs_f (fun t' tk' => ?_)))
   k_with "eval Constant float" => (k_here; k_dflt (refine cf_f (fun t' tk' => ?_)))
   k_with "binaryOp Add int int" => (k_here; k_dflt (refine ai_f (fun t' tk' => ?_)))
   k_with "binaryOp Sub int int" => (k_here; k_dflt (refine si_f (fun t' tk' => ?_)))
   k_with "binaryOp Add float float" => (k_here; k_dflt (refine af_f (fun t' tk' => ?_)))
   k_with "binaryOp Sub float float" => (k_here; k_dflt (refine sf_f (fun t' tk' => ?_)))
   k_with "binaryOp Mult float float" => (k_here; k_dflt (refine mf_f (fun t' tk' => ?_)))
   k_with "binaryOp Mod int int" => (k_here; k_dflt (refine mi_f (by decide) (fun t' tk' => ?_)))
   k_with "call ref" => (k_here; (with_reducible show wpAny _ _ (PySem.call (Value.ref 21) [Value.float _ _, Value.float _ _, Value.float _ _]) _ _ _); k_dflt (refine' hls_call (by k_asm) (by k_asm) (by k_asm) (by k_asm) (by k_asm) (by first | exact rfl | assumption) (by ktr_room) (by ktr_units) (by exact ColOk.ne (by assumption)) (by exact ColOk.rg0 (by assumption)) (by exact ColOk.sum0 (by assumption)) (by exact ColOk.two0 (by assumption)) ?_; k_whole); intro D' t1' t2' t3' n' h' tk' y' z' F' N' l1; (try k_lt l1); (try k_sweep))
   k_with "call ref" => (k_here; (with_reducible show wpAny _ _ (PySem.call (Value.ref 28) [Value.float (col _ _ _).1 _, Value.float (col _ _ _).2.1 _, Value.float (col _ _ _).2.2 _]) _ _ _); k_dflt (refine' hsv_col (by k_asm) (by k_asm) (by k_asm) (by k_asm) (by k_asm) (by first | exact rfl | assumption) (by ktr_room) (by ktr_units) (by assumption) (by assumption) (by assumption) ?_; k_whole); intro D' t1' t2' t3' n' h' tk' F' N' l1; (try k_lt l1); (try k_sweep))
   k_with "call ref" => (k_here; (with_reducible show wpAny _ _ (PySem.call (Value.ref 35) [Value.float _ _, Value.float (Q4 _) _, Value.float (Q4 _) _]) _ _ _); k_dflt (refine' rgb_col (by k_asm) (by k_asm) (by k_asm) (by k_asm) (by k_asm) (by first | exact rfl | assumption) (by ktr_room) (by ktr_units) (by assumption) (by assumption) (by assumption) (by assumption) ?_; k_whole); intro D' t1' t2' t3' n' h' tk' F' N' l1; (try k_lt l1); (try k_sweep))
   have hc := col_ok hp hx hl
   revert X; k_fill; intro X
   refine wpAny_call ?_
   k_dflt cell_enter
   rename Fr _ _ _ _ => F0
   replace F0 : Fr _ _ _ (fun y => List.lookup y [(Str.ofString "colour", .ref c)]) := F0
   refine gen_post (fun Qf hQf => ?_)
   k_steps
   all_goals (try subst hQf)
   all_goals (try k_steps)
   all_goals (rw [hc.hue]; exact ret _ _ _ (by assumption) (news_tail (by assumption)))

theorem turned_call {c : Addr} {p x l k : Nat} {t1 t2 t3 tw : Tok} {n : Nat}
  (B : Below A₀ base outer h₀) (F : Fr h₀ L s.heap m) (X : (hd.heap_39 w.params).In h₀) (N : News h₀ L s.heap ((c, colObj p x l t1 t2 t3 n) :: news)) (T : Top hd.view_39 loose mean mg mb h₀) (hk : cs.kind = .function)
  (hdp : dp + 2 < recursionLimit) (hun : un + 16 < cLine)
  (hp : p < 16) (hx : x < 4) (hl : l < 4) (hw : k ∈ ways) (hpk : p + k < 241)
  (ret : ∀ (D : Addr) (u1 u2 u3 : Tok) (j : Nat) (h' : Heap) (tk' : Nat), Fr h₀ L h' m → News h₀ L h' ((D, colObj ((p + k) % 16) x l u1 u2 u3 j) :: (c, colObj p x l t1 t2 t3 n) :: news) → AllLt D ((c, colObj p x l t1 t2 t3 n) :: news) → Q (.ref D) { s with heap := h', toks := tk' }) :
   wpAny (model Challenge.rw_rl0062_01.row.prog w) (ktrTop dp un gd cn cs L a ccd cl outer) (call (.ref 96) [.ref c, .float (F16 k) tw]) Q E s := by
   w_top off
   k_with_none
   k_with "eval Constant int" => (k_here; k_dflt (refine ci_f (fun t' tk' => ?_)))
   k_with "eval Constant str" => (k_here; k_dflt (refine cs_f (fun t' tk' => ?_)))
   k_with "eval Constant float" => (k_here; k_dflt (refine cf_f (fun t' tk' => ?_)))
   k_with "binaryOp Add int int" => (k_here; k_dflt (refine ai_f (fun t' tk' => ?_)))
   k_with "binaryOp Sub int int" => (k_here; k_dflt (refine si_f (fun t' tk' => ?_)))
   k_with "binaryOp Add float float" => (k_here; k_dflt (refine af_f (fun t' tk' => ?_)))
   k_with "binaryOp Sub float float" => (k_here; k_dflt (refine sf_f (fun t' tk' => ?_)))
   k_with "binaryOp Mult float float" => (k_here; k_dflt (refine mf_f (fun t' tk' => ?_)))
   k_with "binaryOp Mod int int" => (k_here; k_dflt (refine mi_f (by decide) (fun t' tk' => ?_)))
   k_with "call ref" => (k_here; (with_reducible show wpAny _ _ (PySem.call (Value.ref 21) [Value.float _ _, Value.float _ _, Value.float _ _]) _ _ _); k_dflt (refine' hls_call (by k_asm) (by k_asm) (by k_asm) (by k_asm) (by k_asm) (by first | exact rfl | assumption) (by ktr_room) (by ktr_units) (by exact ColOk.ne (by assumption)) (by exact ColOk.rg0 (by assumption)) (by exact ColOk.sum0 (by assumption)) (by exact ColOk.two0 (by assumption)) ?_; k_whole); intro D' t1' t2' t3' n' h' tk' y' z' F' N' l1; (try k_lt l1); (try k_sweep))
   k_with "call ref" => (k_here; (with_reducible show wpAny _ _ (PySem.call (Value.ref 28) [Value.float (col _ _ _).1 _, Value.float (col _ _ _).2.1 _, Value.float (col _ _ _).2.2 _]) _ _ _); k_dflt (refine' hsv_col (by k_asm) (by k_asm) (by k_asm) (by k_asm) (by k_asm) (by first | exact rfl | assumption) (by ktr_room) (by ktr_units) (by assumption) (by assumption) (by assumption) ?_; k_whole); intro D' t1' t2' t3' n' h' tk' F' N' l1; (try k_lt l1); (try k_sweep))
   k_with "call ref" => (k_here; (with_reducible show wpAny _ _ (PySem.call (Value.ref 35) [Value.float _ _, Value.float (Q4 _) _, Value.float (Q4 _) _]) _ _ _); k_dflt (refine' rgb_col (by k_asm) (by k_asm) (by k_asm) (by k_asm) (by k_asm) (by first | exact rfl | assumption) (by ktr_room) (by ktr_units) (by assumption) (by assumption) (by assumption) (by assumption) ?_; k_whole); intro D' t1' t2' t3' n' h' tk' F' N' l1; (try k_lt l1); (try k_sweep))
   have he := F16_add0 k hw p hp
   revert X; k_fill; intro X
   refine wpAny_call ?_
   k_dflt cell_enter
   rename Fr _ _ _ _ => F0
   replace F0 : Fr _ _ _ (fun y => List.lookup y [(Str.ofString "way", .float (F16 k) tw), (Str.ofString "colour", .ref c)]) := F0
   refine gen_post (fun Qf hQf => ?_)
   k_steps
   all_goals (try subst hQf)
   all_goals (try k_steps)
   all_goals exact ret _ _ _ _ _ _ _ (by assumption) (news_swap (by assumption)) (by rename (_ < _ ∧ _ ∧ AllLt _ _) => l9; exact l9.2)
end
end
section
section
variable {prog : Program} {w : World} {A : Around} {E : Value → Shared → Prop} {s : Shared} {env : Env} {h₀ : Heap} {x : Str} {px : Pos} {body orelse : List Stmt} {Q : Flow → Shared → Prop}
/-- a loop over range(n) with an else part, by what holds ahead of each turn -/
noncomputable def ElseI (s : Shared) (h₀ : Heap) (L I : Addr) (n : Nat) (J : Addr → Nat → (Str → Option Value) → List (Addr × Obj) → Prop) (k : Nat) (s' : Shared) (h' : Heap) (tk : Nat) (m' : Str → Option Value) (news' : List (Addr × Obj)) (i : Nat) : Prop :=
  s' = { s with heap := h', toks := tk } ∧ h'.get? I = some (itR (i : Int) ((n : Int) - (i : Int))) ∧ Fr h₀ L h' m' ∧ News h₀ L h' news' ∧ (∀ p ∈ news', p.1 ≠ I) ∧ J I i m' news' ∧ i ≤ n ∧ k = n + 1 - i
theorem iter_else {r : Addr} {b₀ : Int} {t₀ u₀ v₀ : Tok} {n : Nat} {m₀ : Str → Option Value} {news : List (Addr × Obj)} (J : Addr → Nat → (Str → Option Value) → List (Addr × Obj) → Prop)
    (hh : A.handled = none) (hx : env.kindOf x = some .local) (hp : (env.scope.kind == .class || (env.scope.kind == .module && env.locals != env.globals)) = false)
    (hr : IsRange s.heap r 0 b₀ 1 t₀ u₀ v₀) (hsmall : Builtin.Range.small 0 b₀ 1 = true) (hn : Builtin.Range.rangeSize 0 b₀ 1 = (n : Int)) (F : Fr h₀ env.locals s.heap m₀) (N : News h₀ env.locals s.heap news)
    (hJ : ∀ I : Addr, (∀ p ∈ news, p.1 < I) → J I 0 m₀ news)
    (turn : ∀ (I : Addr) (i : Nat) t h tk m₁ news₁, i < n → J I i m₁ news₁ → (∀ p ∈ news₁, p.1 ≠ I) → Fr h₀ env.locals h (fun y => if y = x then some (.int (i : Int) t) else m₁ y) →
      News h₀ env.locals h ((I, itR ((i + 1 : Nat) : Int) ((n : Int) - ((i + 1 : Nat) : Int))) :: news₁) →
      wpAny (model prog w) A (execs body env) (UnrPost h₀ env.locals { s with heap := h, toks := tk } I (itR ((i + 1 : Nat) : Int) ((n : Int) - ((i + 1 : Nat) : Int))) (J I (i + 1)) Q) E { s with heap := h, toks := tk })
    (done : ∀ (I : Addr) h tk m₁ news₁, J I n m₁ news₁ → Fr h₀ env.locals h m₁ → News h₀ env.locals h news₁ → wpAny (model prog w) A (execs orelse env) Q E { s with heap := h, toks := tk })
    (hE : PassesOwn (model prog w) A env E) :
    wpAny (model prog w) A (pyIter (.ref r)) (fun it s₂ => codeAny (model prog w) A (.forLoop (.Name x px) it body orelse env) (fun r s' => match r with | .ok f => Q f s' | .error e => cameBackBy (model prog w) A env E e s') s₂) E s := by
  refine wpAny_pyIter_range hr hsmall ?_
  have hnew : h₀.get? s.heap.objs.size = none := next_is_new F
  have hLI : env.locals ≠ s.heap.objs.size := fun e => absurd F.ns.lt (e ▸ Nat.lt_irrefl _)
  have W := Walks.range (prog := prog) (w := w) hh s.heap.objs.size 0 1 n
  have it0 : ∀ (i : Nat) (h : Heap), IsRangeIter h s.heap.objs.size (0 + (i : Nat) * 1) ((n : Int) - (i : Nat)) 1 ↔ h.get? s.heap.objs.size = some (itR (i : Int) ((n : Int) - (i : Int))) := fun i h => by
    have e : (0 : Int) + (i : Int) * 1 = (i : Int) := by omega
    rw [e]; exact Iff.rfl
  refine codeAny_forLoop (fun k s' => ∃ h' tk m' news', ∃ i : Nat, ElseI s h₀ env.locals s.heap.objs.size n J k s' h' tk m' news' i) ?_ (n + 1)
    ⟨_, s.toks, m₀, news, 0, rfl, ?_, F.push _, (fun p hp => ⟨Heap.get?_push_of_some _ (N p hp).1, (N p hp).2⟩), (fun p hp => Nat.ne_of_lt (Heap.lt_size (N p hp).1)), hJ _ (fun p hp => Heap.lt_size (N p hp).1), Nat.zero_le _, rfl⟩
  · intro k s' ⟨h', tk, m', news', i, hI9⟩
    cases hI9.1
    have hI := hI9.2.1
    have F' := hI9.2.2.1
    have N' := hI9.2.2.2.1
    have off := hI9.2.2.2.2.1
    have J' := hI9.2.2.2.2.2.1
    have hi := hI9.2.2.2.2.2.2.1
    have hk9 := hI9.2.2.2.2.2.2.2
    have go : ∀ h₁ : Heap, (∀ b o, b ∉ [s.heap.objs.size] → h'.get? b = some o → h₁.get? b = some o) → Fr h₀ env.locals h₁ m' ∧ News h₀ env.locals h₁ news' := fun h₁ hk => by
      refine ⟨⟨F'.ns.at' fun o e => hk _ o (by simpa using hLI) e, fun b o e => hk b o (fun hb => ?_) (F'.keep b o e), F'.above⟩, fun p hp => ⟨hk _ _ (by simpa using off p hp) (N' p hp).1, (N' p hp).2⟩⟩
      rw [List.mem_singleton.mp hb, hnew] at e; cases e
    by_cases hlt : i < n
    · refine W.item i _ _ _ hlt ((it0 i _).mpr hI) fun v h₁ tk₁ hP hI₁ hk₁ => ?_
      obtain ⟨t, rfl⟩ := hP
      obtain ⟨F₁, N₁⟩ := go h₁ hk₁
      refine wpAny_assign_Name (wpAny_storeName_local hx F₁.ns (fun h₂ hn₂ hs₂ => ?_) hp)
      have F₂ := F₁.set hn₂ hs₂
      have e : (0 : Int) + (i : Int) * 1 = (i : Int) := by omega
      rw [e] at F₂
      have hI₂ : h₂.get? s.heap.objs.size = some (itR ((i + 1 : Nat) : Int) ((n : Int) - ((i + 1 : Nat) : Int))) := (hs₂.2 _ (Ne.symm hLI)).trans ((it0 (i + 1) _).mp hI₁)
      have N₂ : News h₀ env.locals h₂ ((s.heap.objs.size, itR ((i + 1 : Nat) : Int) ((n : Int) - ((i + 1 : Nat) : Int))) :: news') := fun p hp => by
        rcases List.mem_cons.mp hp with rfl | hp
        · exact ⟨hI₂, Ne.symm hLI, hnew⟩
        · exact N₁.set hs₂ p hp
      refine wpAny_passesOwn hE (wpAny_mono (turn _ i t h₂ _ m' news' hlt J' off F₂ N₂) (fun f s₃ h₃ => ?_) fun _ _ y => y)
      have fin : UnrEnd h₀ env.locals { s with heap := h₂, toks := tk₁ + 1 } s.heap.objs.size (itR ((i + 1 : Nat) : Int) ((n : Int) - ((i + 1 : Nat) : Int))) (J s.heap.objs.size (i + 1)) s₃ →
          ∃ k', k' < k ∧ ∃ h' tk m' news', ∃ i : Nat, ElseI s h₀ env.locals s.heap.objs.size n J k' s₃ h' tk m' news' i := by
        rintro ⟨h₄, tk₄, m₄, news₄, rfl, F₄, N₄, off₄, J₄⟩
        exact ⟨n + 1 - (i + 1), by rw [hk9]; omega, h₄, tk₄, m₄, news₄, i + 1, rfl, (N₄ _ List.mem_cons_self).1, F₄, (fun p hp => N₄ p (List.mem_cons_of_mem _ hp)), off₄, J₄, hlt, rfl⟩
      cases f with
      | ret v => exact h₃
      | brk => exact h₃
      | next => exact fin h₃
      | cont => exact fin h₃
    · obtain rfl : i = n := by omega
      refine W.done _ _ _ ((it0 i _).mpr hI) fun h₁ tk₁ hk₁ => ?_
      obtain ⟨F₁, N₁⟩ := go h₁ hk₁
      exact wpAny_passesOwn hE (done _ h₁ tk₁ m' news' J' F₁ N₁)
  · show (s.heap.push _).get? s.heap.objs.size = _
    rw [Heap.get?_push_size _ rfl, hn]
    simp only [Int.ofNat_eq_natCast, Int.natCast_zero, Int.sub_zero, itR]
end
end
section
noncomputable def IsCol (o : Obj) (p : Nat) : Prop := ∃ x l t1 t2 t3 n, x < 4 ∧ l < 4 ∧ o = colObj p x l t1 t2 t3 n
theorem of_decide_eq_false_ne {p : Prop} [Decidable p] (h : ¬ p) : ¬ decide p = true := fun e => h (of_decide_eq_true e)
section
variable {prog : Program} {w : World} {A : Around} {E : Value → Shared → Prop} {s : Shared} {Q : Value → Shared → Prop} {x y z : Int} {t u v : Tok} {h₀ : Heap} {L : Addr} {m : Str → Option Value} {news : List (Addr × Obj)}
theorem max3_abb (hh : A.handled = none) (hxy : x < y) (F : Fr h₀ L s.heap m) (N : News h₀ L s.heap news)
    (h : ∀ h' tk v, Fr h₀ L h' m → News h₀ L h' news → Q (.int y v) { s with heap := h', toks := tk }) :
    wpAny (model prog w) A (call (.builtin "max") [.int x t, .int y u, .int y v]) Q E s := by
  refine max_three_num hh (.int _ _) (.int _ _) (.int _ _) fun h' tk kp => ?_
  show Q (if decide (x < y) = true then (if decide (y < y) = true then Value.int y v else .int y u) else _) _
  rw [if_pos (decide_eq_true hxy), if_neg (of_decide_eq_false_ne (Int.lt_irrefl y))]
  exact h h' tk u (F.grownK kp) (N.grown kp)
theorem min3_abb (hh : A.handled = none) (hxy : x < y) (F : Fr h₀ L s.heap m) (N : News h₀ L s.heap news)
    (h : ∀ h' tk v, Fr h₀ L h' m → News h₀ L h' news → Q (.int x v) { s with heap := h', toks := tk }) :
    wpAny (model prog w) A (call (.builtin "min") [.int x t, .int y u, .int y v]) Q E s := by
  refine min_three_num hh (.int _ _) (.int _ _) (.int _ _) fun h' tk kp => ?_
  show Q (if decide (y < x) = true then _ else (if decide (y < x) = true then _ else Value.int x t)) _
  rw [if_neg (of_decide_eq_false_ne (Int.lt_asymm hxy)), if_neg (of_decide_eq_false_ne (Int.lt_asymm hxy))]
  exact h h' tk t (F.grownK kp) (N.grown kp)
end

theorem one_fm0 (k : Int) : 0 < 1 + k.fmod 4 := by rw [Int.fmod_eq_emod_of_nonneg _ (by decide)]; omega
theorem one_fm1 (k : Int) : 1 + k.fmod 4 < 5 := by rw [Int.fmod_eq_emod_of_nonneg _ (by decide)]; omega
theorem item_news {prog : Program} {w : World} {A : Around} {E : Value → Shared → Prop} {s : Shared} {h₀ : Heap} {L : Addr} {news : List (Addr × Obj)} {value slice : Expr} {a : Addr} {l : List Value} {n : Nat} {k : Int} {u : Tok} {x : Value} {Q : Value → Shared → Prop}
    (N : News h₀ L s.heap news) (hm : (a, PySem.W.listOf l.toArray n) ∈ news) (h0 : 0 ≤ k) (hfit : k < 2 ^ 63) (hx : l[k.toNat]? = some x) (h : Q x s)
    (hs : subscripted slice false (.ref a) (.int k u) = operate [.ref a, .int k u] (getItem (.ref a) (.int k u))) (hg : ∀ r, letTemporaryGo value (.ref a) r = pure ()) :
    wpAny (model prog w) A (subscriptTail value slice (.ref a) (.int k u)) Q E s :=
  item_listL ⟨_, (N _ hm).1, rfl, n, rfl⟩ h0 hfit hx h hs hg
theorem frac_15 : Float64.ofFrac (decide ((16 : Int) - 15 < 0) != decide ((16 : Int) < 0)) ((16 : Int) - 15).natAbs (Int.natAbs 16) = 4589168020290535424 := by decide +kernel
theorem frac_3 : Float64.ofFrac (decide ((4 : Int) - 3 < 0) != decide ((4 : Int) < 0)) ((4 : Int) - 3).natAbs (Int.natAbs 4) = 4598175219545276416 := by decide +kernel
noncomputable def pick (p0 p1 p2 p3 : Int) (k : Nat) : Int := [p0, p1, p2, p3].getD k 0
theorem item4 {prog : Program} {w : World} {A : Around} {E : Value → Shared → Prop} {s : Shared} {h₀ : Heap} {L : Addr} {news : List (Addr × Obj)} {value slice : Expr} {a : Addr} {p0 p1 p2 p3 : Int} {t0 t1 t2 t3 : Tok} {n i : Nat} {u : Tok} {Q : Value → Shared → Prop}
    (N : News h₀ L s.heap news) (hm : (a, PySem.W.listOf #[.int p0 t0, .int p1 t1, .int p2 t2, .int p3 t3] n) ∈ news) (hi : i < 4) (h : ∀ t, Q (.int (pick p0 p1 p2 p3 i) t) s)
    (hs : subscripted slice false (.ref a) (.int (i : Int) u) = operate [.ref a, .int (i : Int) u] (getItem (.ref a) (.int (i : Int) u))) (hg : ∀ r, letTemporaryGo value (.ref a) r = pure ()) :
    wpAny (model prog w) A (subscriptTail value slice (.ref a) (.int (i : Int) u)) Q E s := by
  have hc := lt4 i (by assumption)
  rcases hc with rfl | rfl | rfl | rfl
  · exact item_news N hm (by decide) (by decide) (x := .int p0 t0) rfl (h _) hs hg
  · exact item_news N hm (by decide) (by decide) (x := .int p1 t1) rfl (h _) hs hg
  · exact item_news N hm (by decide) (by decide) (x := .int p2 t2) rfl (h _) hs hg
  · exact item_news N hm (by decide) (by decide) (x := .int p3 t3) rfl (h _) hs hg
theorem allLt_ne {d : Nat} : ∀ {l : List (Addr × Obj)}, AllLt d l → ∀ p ∈ l, p.1 ≠ d
  | [], _, _, hp => nomatch hp
  | q :: r, h, p, hp => by
    rcases List.mem_cons.mp hp with rfl | hp
    · exact Nat.ne_of_lt h.1
    · exact allLt_ne h.2 p hp
theorem push_is {vs : List Value} {x : Value} : vs.toArray.push x = (vs ++ [x]).toArray := by simp
theorem pick_in {p0 p1 p2 p3 : Int} (h0 : 0 ≤ p0 ∧ p0 < 16) (h1 : 0 ≤ p1 ∧ p1 < 16) (h2 : 0 ≤ p2 ∧ p2 < 16) (h3 : 0 ≤ p3 ∧ p3 < 16) (i : Nat) (hi : i < 4) : 0 ≤ pick p0 p1 p2 p3 i ∧ pick p0 p1 p2 p3 i < 16 := by
  have hc := lt4 i (by assumption)
  rcases hc with rfl | rfl | rfl | rfl <;> assumption
theorem pick_lo {x : Int} (h : 0 ≤ x ∧ x < 16) : -1000 < x := by omega
theorem pick_hi {x : Int} (h : 0 ≤ x ∧ x < 16) : x < 1000 := by omega
theorem allLt_get {d : Nat} : ∀ {l : List (Addr × Obj)}, AllLt d l → ∀ p ∈ l, @LT.lt Nat _ p.1 d
  | [], _, _, hp => nomatch hp
  | q :: r, h, p, hp => by
    rcases List.mem_cons.mp hp with rfl | hp
    · exact h.1
    · exact allLt_get h.2 p hp
section
variable {w : World} {mean : ExcName → Option Value} {mg mb : Str → Option Value} {loose : List Str}
  {dp un : Nat} {gd : Option (List Code)} {cn : Str} {cs : Scope} {a : Addr} {ccd : Value} {cl : List (Str × Addr)} {outer : List Env} {A₀ : Around} {base h₀ : Heap} {L : Addr} {m : Str → Option Value} {s : Shared} {Q E : Value → Shared → Prop} {news : List (Addr × Obj)} 


theorem hsv_15 {t1 t2 t3 : Tok}
  (B : Below A₀ base outer h₀) (F : Fr h₀ L s.heap m) (X : (hd.heap_39 w.params).In h₀) (N : News h₀ L s.heap news) (T : Top hd.view_39 loose mean mg mb h₀) (hk : cs.kind = .function)
  (hdp : dp + 1 < recursionLimit) (hun : un + 8 < cLine)
  (ret : ∀ (D : Addr) (a b : Value) (t2 : Tok) (n : Nat) (h' : Heap) (tk' : Nat), Fr h₀ L h' m → News h₀ L h' ((D, tup3 a (.float 4589168020290535424 t2) b n) :: news) → AllLt D news → Q (.ref D) { s with heap := h', toks := tk' }) :
   wpAny (model Challenge.rw_rl0062_01.row.prog w) (ktrTop dp un gd cn cs L a ccd cl outer) (call (.ref 28) [.int 15 t1, .int 16 t2, .int 16 t3]) Q E s := by
   w_top off
   k_with_none
   k_with "eval Constant int" => (k_here; k_dflt (refine ci_f (fun t' tk' => ?_)))
   k_with "eval Constant str" => (k_here; k_dflt (refine cs_f (fun t' tk' => ?_)))
   k_with "eval Constant float" => (k_here; k_dflt (refine cf_f (fun t' tk' => ?_)))
   k_with "binaryOp Add int int" => (k_here; k_dflt (refine ai_f (fun t' tk' => ?_)))
   k_with "binaryOp Sub int int" => (k_here; k_dflt (refine si_f (fun t' tk' => ?_)))
   k_with "binaryOp Add float float" => (k_here; k_dflt (refine af_f (fun t' tk' => ?_)))
   k_with "binaryOp Sub float float" => (k_here; k_dflt (refine sf_f (fun t' tk' => ?_)))
   k_with "binaryOp Mult float float" => (k_here; k_dflt (refine mf_f (fun t' tk' => ?_)))
   k_with "binaryOp Mod int int" => (k_here; k_dflt (refine mi_f (by decide) (fun t' tk' => ?_)))
   k_with "call builtin:max" => (k_here; (with_reducible show wpAny _ _ (PySem.call (Value.builtin _) [Value.int _ _, Value.int _ _, Value.int _ _]) _ _ _); k_dflt (refine' max3_abb (by rfl) (by decide) (by k_asm) (by k_asm) ?_; k_whole); intro h' tk' v' F' N'; (try k_sweep))
   k_with "call builtin:min" => (k_here; (with_reducible show wpAny _ _ (PySem.call (Value.builtin _) [Value.int _ _, Value.int _ _, Value.int _ _]) _ _ _); k_dflt (refine' min3_abb (by rfl) (by decide) (by k_asm) (by k_asm) ?_; k_whole); intro h' tk' v' F' N'; (try k_sweep))
   revert X; k_fill; intro X
   refine wpAny_call ?_
   k_dflt cell_enter
   rename Fr _ _ _ _ => F0
   replace F0 : Fr _ _ _ (fun y => List.lookup y [(Str.ofString "b", .int 16 t3), (Str.ofString "g", .int 16 t2), (Str.ofString "r", .int 15 t1)]) := F0
   refine gen_post (fun Qf hQf => ?_)
   k_steps
   all_goals (try subst hQf)
   all_goals (try k_steps)
   all_goals (rw [← frac_15] at ret; exact ret _ _ _ _ _ _ _ (by assumption) (by assumption) (allLt_of (by assumption)))

theorem hsv_3 {t1 t2 t3 : Tok}
  (B : Below A₀ base outer h₀) (F : Fr h₀ L s.heap m) (X : (hd.heap_39 w.params).In h₀) (N : News h₀ L s.heap news) (T : Top hd.view_39 loose mean mg mb h₀) (hk : cs.kind = .function)
  (hdp : dp + 1 < recursionLimit) (hun : un + 8 < cLine)
  (ret : ∀ (D : Addr) (a b : Value) (t2 : Tok) (n : Nat) (h' : Heap) (tk' : Nat), Fr h₀ L h' m → News h₀ L h' ((D, tup3 a (.float 4598175219545276416 t2) b n) :: news) → AllLt D news → Q (.ref D) { s with heap := h', toks := tk' }) :
   wpAny (model Challenge.rw_rl0062_01.row.prog w) (ktrTop dp un gd cn cs L a ccd cl outer) (call (.ref 28) [.int 3 t1, .int 4 t2, .int 4 t3]) Q E s := by
   w_top off
   k_with_none
   k_with "eval Constant int" => (k_here; k_dflt (refine ci_f (fun t' tk' => ?_)))
   k_with "eval Constant str" => (k_here; k_dflt (refine cs_f (fun t' tk' => ?_)))
   k_with "eval Constant float" => (k_here; k_dflt (refine cf_f (fun t' tk' => ?_)))
   k_with "binaryOp Add int int" => (k_here; k_dflt (refine ai_f (fun t' tk' => ?_)))
   k_with "binaryOp Sub int int" => (k_here; k_dflt (refine si_f (fun t' tk' => ?_)))
   k_with "binaryOp Add float float" => (k_here; k_dflt (refine af_f (fun t' tk' => ?_)))
   k_with "binaryOp Sub float float" => (k_here; k_dflt (refine sf_f (fun t' tk' => ?_)))
   k_with "binaryOp Mult float float" => (k_here; k_dflt (refine mf_f (fun t' tk' => ?_)))
   k_with "binaryOp Mod int int" => (k_here; k_dflt (refine mi_f (by decide) (fun t' tk' => ?_)))
   k_with "call builtin:max" => (k_here; (with_reducible show wpAny _ _ (PySem.call (Value.builtin _) [Value.int _ _, Value.int _ _, Value.int _ _]) _ _ _); k_dflt (refine' max3_abb (by rfl) (by decide) (by k_asm) (by k_asm) ?_; k_whole); intro h' tk' v' F' N'; (try k_sweep))
   k_with "call builtin:min" => (k_here; (with_reducible show wpAny _ _ (PySem.call (Value.builtin _) [Value.int _ _, Value.int _ _, Value.int _ _]) _ _ _); k_dflt (refine' min3_abb (by rfl) (by decide) (by k_asm) (by k_asm) ?_; k_whole); intro h' tk' v' F' N'; (try k_sweep))
   revert X; k_fill; intro X
   refine wpAny_call ?_
   k_dflt cell_enter
   rename Fr _ _ _ _ => F0
   replace F0 : Fr _ _ _ (fun y => List.lookup y [(Str.ofString "b", .int 4 t3), (Str.ofString "g", .int 4 t2), (Str.ofString "r", .int 3 t1)]) := F0
   refine gen_post (fun Qf hQf => ?_)
   k_steps
   all_goals (try subst hQf)
   all_goals (try k_steps)
   all_goals (rw [← frac_3] at ret; exact ret _ _ _ _ _ _ _ (by assumption) (by assumption) (allLt_of (by assumption)))

end
section
variable {h₀ : Heap} {L I : Addr} {it : Obj} {rest : (Str → Option Value) → List (Addr × Obj) → Prop} {s₁ : Shared} {h' : Heap} {tk : Nat} {m' : Str → Option Value} {r : List (Addr × Obj)} {a b c : Addr × Obj}
theorem unr_0 (F : Fr h₀ L h' m') (N : News h₀ L h' ((I, it) :: r)) (off : ∀ p ∈ r, p.1 ≠ I) (h : rest m' r) : UnrEnd h₀ L s₁ I it rest { s₁ with heap := h', toks := tk } :=
  UnrEnd.intro F N r (fun _ hp => hp) off h
theorem unr_1 (F : Fr h₀ L h' m') (N : News h₀ L h' (a :: (I, it) :: r)) (off : ∀ p ∈ a :: r, p.1 ≠ I) (h : rest m' (a :: r)) : UnrEnd h₀ L s₁ I it rest { s₁ with heap := h', toks := tk } :=
  UnrEnd.intro F N (a :: r) (fun p hp => by simp only [List.mem_cons] at hp ⊢; rcases hp with h | h | h <;> simp [h]) off h
theorem unr_d1 (F : Fr h₀ L h' m') (N : News h₀ L h' (a :: (I, it) :: r)) (off : ∀ p ∈ r, p.1 ≠ I) (h : rest m' r) : UnrEnd h₀ L s₁ I it rest { s₁ with heap := h', toks := tk } :=
  UnrEnd.intro F N r (fun p hp => by simp only [List.mem_cons] at hp ⊢; rcases hp with h | h <;> simp [h]) off h
theorem unr_1d (F : Fr h₀ L h' m') (N : News h₀ L h' (a :: b :: (I, it) :: r)) (off : ∀ p ∈ a :: r, p.1 ≠ I) (h : rest m' (a :: r)) : UnrEnd h₀ L s₁ I it rest { s₁ with heap := h', toks := tk } :=
  UnrEnd.intro F N (a :: r) (fun p hp => by simp only [List.mem_cons] at hp ⊢; rcases hp with h | h | h <;> simp [h]) off h
end
noncomputable abbrev pm (m : Str → Option Value) (v1 v2 v3 : Option Value) : Str → Option Value :=
  fun y => if y = Str.ofString "level" then v3 else if y = Str.ofString "share" then v2 else if y = Str.ofString "k" then v1 else m y
theorem pm_k {m : Str → Option Value} {v1 v2 v3 : Option Value} {v : Value} : (fun y => if y = Str.ofString "k" then some v else pm m v1 v2 v3 y) = pm m (some v) v2 v3 := by
  funext y
  by_cases e : y = Str.ofString "k"
  · subst e; rfl
  · simp only [pm, if_neg e]
theorem pm_0 (m : Str → Option Value) : m = pm m (m (Str.ofString "k")) (m (Str.ofString "share")) (m (Str.ofString "level")) := by
  funext y
  by_cases e1 : y = Str.ofString "level"
  · subst e1; rfl
  · by_cases e2 : y = Str.ofString "share"
    · subst e2; rfl
    · by_cases e3 : y = Str.ofString "k"
      · subst e3; rfl
      · simp only [pm, if_neg e1, if_neg e2, if_neg e3]
theorem pm_next {m : Str → Option Value} {v1 v2 v3 : Option Value} {a b : Value} : (fun y => if y = Str.ofString "share" then some a else if y = Str.ofString "level" then some b else pm m v1 v2 v3 y) = pm m v1 (some a) (some b) := by
  funext y
  by_cases e1 : y = Str.ofString "level"
  · subst e1; rfl
  · by_cases e2 : y = Str.ofString "share"
    · subst e2; rfl
    · simp only [pm, if_neg e1, if_neg e2]
/-- colours laid so far, the newest first -/
noncomputable def PalOk (pk : Nat → Nat) (lst : Nat) : List (Addr × Obj) → Prop
  | [] => True
  | p :: r => IsCol p.2 (pk r.length) ∧ (@LT.lt Nat _ lst p.1) ∧ AllLt p.1 r ∧ PalOk pk lst r
theorem palOk_ne {pk : Nat → Nat} {lst : Nat} : ∀ {xs : List (Addr × Obj)}, PalOk pk lst xs → ∀ p ∈ xs, p.1 ≠ lst
  | [], _, _, hp => nomatch hp
  | _ :: _, h, p, hp => by
    rcases List.mem_cons.mp hp with rfl | hp
    · exact Nat.ne_of_gt h.2.1
    · exact palOk_ne h.2.2.2 p hp
noncomputable def refsOf (xs : List (Addr × Obj)) : List Value := (xs.map fun p => Value.ref p.1).reverse
theorem refsOf_cons {p : Addr × Obj} {xs : List (Addr × Obj)} : refsOf (p :: xs) = refsOf xs ++ [.ref p.1] := by simp [refsOf]
section
variable {prog : Program} {w : World} {A : Around} {E : Value → Shared → Prop} {s : Shared} {env : Env} {h₀ : Heap} {px : Pos} {body : List Stmt} {Q : Flow → Shared → Prop}
noncomputable def PalJ (m₀ : Str → Option Value) (pk : Nat → Nat) (lst pl : Addr) (po : Obj) (news : List (Addr × Obj)) (I : Addr) (i : Nat) (m₁ : Str → Option Value) (news₁ : List (Addr × Obj)) : Prop :=
  ∃ xs k v1 v2 v3, m₁ = pm m₀ v1 v2 v3 ∧ news₁ = (lst, PySem.W.listOf (refsOf xs).toArray k) :: (pl, po) :: (xs ++ news) ∧ xs.length = i ∧ PalOk pk lst xs ∧ (∀ p ∈ news₁, p.1 ≠ I)
noncomputable def PalEnd (m₀ : Str → Option Value) (pk : Nat → Nat) (lst pl : Addr) (po : Obj) (i : Nat) (vs : List Value) (NR : List (Addr × Obj)) (m' : Str → Option Value) (n' : List (Addr × Obj)) : Prop :=
  ∃ D o v1 v2 v3 k', m' = pm m₀ v1 v2 v3 ∧ n' = (lst, PySem.W.listOf (vs ++ [Value.ref D]).toArray k') :: (pl, po) :: (D, o) :: NR ∧ IsCol o (pk i) ∧ (@LT.lt Nat _ lst D) ∧ AllLt D NR
theorem iter_paint {r lst pl : Addr} {po : Obj} {t₀ u₀ v₀ : Tok} {k₀ : Nat} {m₀ : Str → Option Value} {news : List (Addr × Obj)} (pk : Nat → Nat)
    (hh : A.handled = none) (hx : env.kindOf (Str.ofString "k") = some .local) (hp : (env.scope.kind == .class || (env.scope.kind == .module && env.locals != env.globals)) = false)
    (hr : IsRange s.heap r 0 4 1 t₀ u₀ v₀) (F : Fr h₀ env.locals s.heap m₀) (N : News h₀ env.locals s.heap ((lst, PySem.W.listOf #[] k₀) :: (pl, po) :: news)) (hl : AllLt lst ((pl, po) :: news))
    (turn : ∀ (I : Addr) (i : Nat) t it h tk NR vs k v2 v3, i < 4 → vs.length = i → (∀ p ∈ (lst, PySem.W.listOf vs.toArray k) :: (pl, po) :: NR, p.1 ≠ I) → (∀ p ∈ (pl, po) :: NR, p.1 ≠ lst) → Fr h₀ env.locals h (pm m₀ (some (.int (i : Int) t)) v2 v3) →
      News h₀ env.locals h ((I, it) :: (lst, PySem.W.listOf vs.toArray k) :: (pl, po) :: NR) →
      wpAny (model prog w) A (execs body env) (UnrPost h₀ env.locals { s with heap := h, toks := tk } I it (fun m' n' => PalEnd m₀ pk lst pl po i vs NR m' n') Q) E { s with heap := h, toks := tk })
    (done : ∀ h tk c0 c1 c2 c3 o0 o1 o2 o3 k v1 v2 v3, IsCol o0 (pk 0) → IsCol o1 (pk 1) → IsCol o2 (pk 2) → IsCol o3 (pk 3) → (@LT.lt Nat _ lst c0 ∧ @LT.lt Nat _ c0 c1 ∧ @LT.lt Nat _ c1 c2 ∧ @LT.lt Nat _ c2 c3) → Fr h₀ env.locals h (pm m₀ v1 v2 v3) →
      News h₀ env.locals h ((lst, PySem.W.listOf #[.ref c0, .ref c1, .ref c2, .ref c3] k) :: (pl, po) :: (c3, o3) :: (c2, o2) :: (c1, o1) :: (c0, o0) :: news) → Q .next { s with heap := h, toks := tk })
    (hE : PassesOwn (model prog w) A env E) :
    wpAny (model prog w) A (pyIter (.ref r)) (fun it s₂ => codeAny (model prog w) A (.forLoop (.Name (Str.ofString "k") px) it body [] env) (fun r s' => match r with | .ok f => Q f s' | .error e => cameBackBy (model prog w) A env E e s') s₂) E s := by
  refine iter_else (n := 4) (fun I i => PalJ m₀ pk lst pl po news I i) hh hx hp hr (by decide) (by decide) F N (fun I l => ⟨[], k₀, _, _, _, pm_0 m₀, rfl, rfl, trivial, fun p hp => Nat.ne_of_lt (l p hp)⟩) ?_ ?_ hE
  · rintro I i t h tk m₁ news₁ hi ⟨xs, k, v1, v2, v3, rfl, rfl, rfl, ok, off⟩ _ F₁ N₁
    rw [pm_k] at F₁
    have hne : ∀ p ∈ (pl, po) :: (xs ++ news), p.1 ≠ lst := fun p hp => by
      rcases List.mem_cons.mp hp with rfl | hp
      · exact Nat.ne_of_lt hl.1
      · rcases List.mem_append.mp hp with hp | hp
        · exact palOk_ne ok p hp
        · exact allLt_ne hl.2 p hp
    refine wpAny_mono (turn I xs.length t _ h tk (xs ++ news) (refsOf xs) k v2 v3 hi (by simp [refsOf]) off hne F₁ N₁) (fun f s₂ h₂ => ?_) fun _ _ e => e
    have go : UnrEnd h₀ env.locals { s with heap := h, toks := tk } I (itR ((xs.length + 1 : Nat) : Int) (((4 : Nat) : Int) - ((xs.length + 1 : Nat) : Int))) (fun m' n' => PalEnd m₀ pk lst pl po xs.length (refsOf xs) (xs ++ news) m' n') s₂ →
        UnrEnd h₀ env.locals { s with heap := h, toks := tk } I (itR ((xs.length + 1 : Nat) : Int) (((4 : Nat) : Int) - ((xs.length + 1 : Nat) : Int))) (PalJ m₀ pk lst pl po news I (xs.length + 1)) s₂ := by
      rintro ⟨h', tk', m', n', e, F', N', off', D, o, u1, u2, u3, k', rfl, rfl, hc, lt, la⟩
      refine ⟨h', tk', _, _, e, F', N', off', (D, o) :: xs, k', u1, u2, u3, rfl, ?_, rfl, ⟨hc, lt, allLt_of fun q hq => allLt_get la q (List.mem_append_left _ hq), ok⟩, off'⟩
      rw [refsOf_cons]; rfl
    cases f with
    | ret v => exact h₂
    | brk => exact h₂
    | next => exact go h₂
    | cont => exact go h₂
  · rintro I h tk m₁ news₁ ⟨xs, k, v1, v2, v3, rfl, rfl, hxs, ok, _⟩ F₁ N₁
    obtain ⟨⟨c3, o3⟩, ⟨c2, o2⟩, ⟨c1, o1⟩, ⟨c0, o0⟩, rfl⟩ : ∃ a b c d, xs = [a, b, c, d] := by
      rcases xs with _ | ⟨a, _ | ⟨b, _ | ⟨c, _ | ⟨d, _ | ⟨e, r⟩⟩⟩⟩⟩
      · cases hxs
      · cases hxs
      · cases hxs
      · cases hxs
      · exact ⟨a, b, c, d, rfl⟩
      · simp at hxs
    exact wpAny_execs_nil (done h tk c0 c1 c2 c3 o0 o1 o2 o3 k v1 v2 v3 ok.2.2.2.2.2.2.2.2.2.1 ok.2.2.2.2.2.2.1 ok.2.2.2.1 ok.1 ⟨ok.2.2.2.2.2.2.2.2.2.2.1, ok.2.2.2.2.2.2.2.2.1.1, ok.2.2.2.2.2.1.1, ok.2.2.1.1⟩ F₁ N₁)
end
section
variable {w : World} {mean : ExcName → Option Value} {mg mb : Str → Option Value} {loose : List Str}
  {dp un : Nat} {gd : Option (List Code)} {cn : Str} {cs : Scope} {a : Addr} {ccd : Value} {cl : List (Str × Addr)} {outer : List Env} {A₀ : Around} {base h₀ : Heap} {L : Addr} {m : Str → Option Value} {s : Shared} {Q E : Value → Shared → Prop} {news : List (Addr × Obj)} 
theorem small_fits {n : Int} (h0 : -1000 < n) (h1 : n < 1000) : n.natAbs < 2 ^ 1023 := Nat.lt_of_lt_of_le (by omega : n.natAbs < 1000) (by decide +kernel)
theorem fm4_0 (k : Int) : -1000 < 1 + k.fmod 4 := by have := one_fm0 k; omega
theorem fm4_1 (k : Int) : 1 + k.fmod 4 < 1000 := by have := one_fm1 k; omega
theorem rgb_paint {P S V : Int} {t1 t2 t3 : Tok}
  (B : Below A₀ base outer h₀) (F : Fr h₀ L s.heap m) (X : (hd.heap_39 w.params).In h₀) (N : News h₀ L s.heap news) (T : Top hd.view_39 loose mean mg mb h₀) (hk : cs.kind = .function)
  (hdp : dp + 1 < recursionLimit) (hun : un + 8 < cLine) (hp0 : 0 ≤ P) (hp1 : P < 16) (hs0 : 0 < S) (hs1 : S < 5) (hv0 : 0 < V) (hv1 : V < 5)
  (ret : ∀ (D : Addr) (o : Obj) (h' : Heap) (tk' : Nat), IsCol o P.toNat → Fr h₀ L h' m → News h₀ L h' ((D, o) :: news) → (∀ p ∈ news, p.1 < D) → Q (.ref D) { s with heap := h', toks := tk' }) :
   wpAny (model Challenge.rw_rl0062_01.row.prog w) (ktrTop dp un gd cn cs L a ccd cl outer) (call (.ref 35) [.float (Float64.mul (Float64.ofInt P) 4589168020290535424) t1, .float (Float64.mul (Float64.ofInt S) 4598175219545276416) t2, .float (Float64.mul (Float64.ofInt V) 4598175219545276416) t3]) Q E s := by
  obtain ⟨p, rfl⟩ : ∃ p : Nat, P = p := ⟨P.toNat, by omega⟩
  obtain ⟨x, rfl⟩ : ∃ x : Nat, S = ((x + 1 : Nat) : Int) := ⟨S.toNat - 1, by omega⟩
  obtain ⟨l, rfl⟩ : ∃ l : Nat, V = ((l + 1 : Nat) : Int) := ⟨V.toNat - 1, by omega⟩
  rw [F16_of0 p (by omega), Q4_of0 (x + 1) (by omega), Q4_of0 (l + 1) (by omega)]
  refine rgb_col B F X N T hk hdp hun rfl (by omega) (by omega) (by omega) ?_
  rw [Nat.mod_eq_of_lt (by omega : p < 16)]
  exact fun D t1 t2 t3 k h' tk' F' N' l1 => ret D _ h' tk' ⟨x, l, t1, t2, t3, k, by omega, by omega, rfl⟩ F' N' l1

theorem hue_use {c : Addr} {o : Obj} {p : Nat}
  (B : Below A₀ base outer h₀) (F : Fr h₀ L s.heap m) (X : (hd.heap_39 w.params).In h₀) (N : News h₀ L s.heap news) (T : Top hd.view_39 loose mean mg mb h₀) (hk : cs.kind = .function)
  (hdp : dp + 2 < recursionLimit) (hun : un + 16 < cLine) (hm : (c, o) ∈ news) (hc : IsCol o p) (hp : p < 16)
  (ret : ∀ (t : Tok) (h' : Heap) (tk' : Nat), Fr h₀ L h' m → News h₀ L h' news → Q (.float (F16 p) t) { s with heap := h', toks := tk' }) :
   wpAny (model Challenge.rw_rl0062_01.row.prog w) (ktrTop dp un gd cn cs L a ccd cl outer) (call (.ref 89) [.ref c]) Q E s := by
  obtain ⟨x, l, t1, t2, t3, n, hx, hl, rfl⟩ := hc
  exact hue_call B F X (news_dup N hm) T hk hdp hun hp hx hl fun t h' tk' F' N' => ret t h' tk' F' (news_tail N')
theorem turned_use {c : Addr} {o : Obj} {p k : Nat} {tw : Tok}
  (B : Below A₀ base outer h₀) (F : Fr h₀ L s.heap m) (X : (hd.heap_39 w.params).In h₀) (N : News h₀ L s.heap news) (T : Top hd.view_39 loose mean mg mb h₀) (hk : cs.kind = .function)
  (hdp : dp + 2 < recursionLimit) (hun : un + 16 < cLine) (hm : (c, o) ∈ news) (hc : IsCol o p) (hp : p < 16) (hw : k ∈ ways) (hpk : p + k < 241)
  (ret : ∀ (D : Addr) (o' : Obj) (h' : Heap) (tk' : Nat), Fr h₀ L h' m → News h₀ L h' ((D, o') :: news) → IsCol o' ((p + k) % 16) → AllLt D news → Q (.ref D) { s with heap := h', toks := tk' }) :
   wpAny (model Challenge.rw_rl0062_01.row.prog w) (ktrTop dp un gd cn cs L a ccd cl outer) (call (.ref 96) [.ref c, .float (F16 k) tw]) Q E s := by
  obtain ⟨x, l, t1, t2, t3, n, hx, hl, rfl⟩ := hc
  exact turned_call B F X (news_dup N hm) T hk hdp hun hp hx hl hw hpk fun D u1 u2 u3 j h' tk' F' N' l1 => ret D _ h' tk' F' (news_swap N') ⟨x, l, u1, u2, u3, j, hx, hl, rfl⟩ l1.2


theorem painted_call {pl : Addr} {p0 p1 p2 p3 num : Int} {t0 t1 t2 t3 t4 t5 : Tok} {n : Nat}
  (B : Below A₀ base outer h₀) (F : Fr h₀ L s.heap m) (X : (hd.heap_39 w.params).In h₀) (N : News h₀ L s.heap ((pl, PySem.W.listOf #[.int p0 t0, .int p1 t1, .int p2 t2, .int p3 t3] n) :: news)) (T : Top hd.view_39 loose mean mg mb h₀) (hk : cs.kind = .function)
  (hdp : dp + 2 < recursionLimit) (hun : un + 16 < cLine)
  (h00 : 0 ≤ p0) (h01 : p0 < 16) (h10 : 0 ≤ p1) (h11 : p1 < 16) (h20 : 0 ≤ p2) (h21 : p2 < 16) (h30 : 0 ≤ p3) (h31 : p3 < 16)
  (ret : ∀ (lst c0 c1 c2 c3 : Addr) (o0 o1 o2 o3 : Obj) (k : Nat) (h' : Heap) (tk' : Nat), Fr h₀ L h' m →
    News h₀ L h' ((c3, o3) :: (c2, o2) :: (c1, o1) :: (c0, o0) :: (lst, PySem.W.listOf #[.ref c0, .ref c1, .ref c2, .ref c3] k) :: (pl, PySem.W.listOf #[.int p0 t0, .int p1 t1, .int p2 t2, .int p3 t3] n) :: news) →
    IsCol o0 p0.toNat → IsCol o1 p1.toNat → IsCol o2 p2.toNat → IsCol o3 p3.toNat → (pl < lst ∧ AllLt lst news) → (lst < c0 ∧ c0 < c1 ∧ c1 < c2 ∧ c2 < c3) → Q (.ref lst) { s with heap := h', toks := tk' }) :
   wpAny (model Challenge.rw_rl0062_01.row.prog w) (ktrTop dp un gd cn cs L a ccd cl outer) (call (.ref 103) [.ref pl, .float 4589168020290535424 t4, .int num t5]) Q E s := by
   w_top off
   k_with_none
   k_with "eval Constant int" => (k_here; k_dflt (refine ci_f (fun t' tk' => ?_)))
   k_with "eval Constant str" => (k_here; k_dflt (refine cs_f (fun t' tk' => ?_)))
   k_with "eval Constant float" => (k_here; k_dflt (refine cf_f (fun t' tk' => ?_)))
   k_with "binaryOp Add int int" => (k_here; k_dflt (refine ai_f (fun t' tk' => ?_)))
   k_with "binaryOp Sub int int" => (k_here; k_dflt (refine si_f (fun t' tk' => ?_)))
   k_with "binaryOp Add float float" => (k_here; k_dflt (refine af_f (fun t' tk' => ?_)))
   k_with "binaryOp Sub float float" => (k_here; k_dflt (refine sf_f (fun t' tk' => ?_)))
   k_with "binaryOp Mult float float" => (k_here; k_dflt (refine mf_f (fun t' tk' => ?_)))
   k_with "binaryOp Mod int int" => (k_here; k_dflt (refine mi_f (by decide) (fun t' tk' => ?_)))
   k_with "call ref" => (k_here; (with_reducible show wpAny _ _ (PySem.call (Value.ref 28) [Value.int 3 _, Value.int 4 _, Value.int 4 _]) _ _ _); k_dflt (refine' hsv_3 (by k_asm) (by k_asm) (by k_asm) (by k_asm) (by k_asm) (by first | exact rfl | assumption) (by ktr_room) (by ktr_units) ?_; k_whole); intro D' a' b' t2' n' h' tk' F' N' l1; (try simp only [AllLt, and_true] at l1); (try k_sweep))
   k_with "call ref" => (k_here; (with_reducible show wpAny _ _ (PySem.call (Value.ref 35) [Value.float (Float64.mul (Float64.ofInt _) _) _, Value.float (Float64.mul (Float64.ofInt _) _) _, Value.float (Float64.mul (Float64.ofInt _) _) _]) _ _ _); k_dflt (refine' rgb_paint (by k_asm) (by k_asm) (by k_asm) (by k_asm) (by k_asm) (by first | exact rfl | assumption) (by ktr_room) (by ktr_units) (by assumption) (by assumption) (by exact one_fm0 _) (by exact one_fm1 _) (by exact one_fm0 _) (by exact one_fm1 _) ?_; k_whole); intro D' o' h' tk' hc' F' N' l1; (try k_lt l1); (try k_sweep))
   k_with "binaryOp Mult int float" => (k_here; k_dflt (refine mul_if_fits (small_fits (by first | exact fm4_0 _ | exact pick_lo (by assumption) | omega) (by first | exact fm4_1 _ | exact pick_hi (by assumption) | omega)) ?_); (try dsimp only))
   k_with "subscriptTail Name Name ref int" => (k_here; (with_reducible show wpAny _ _ (subscriptTail _ _ (Value.ref _) (Value.int _ _)) _ _ _); k_dflt (refine' item4 (by k_asm) (by k_mem) (by with_reducible assumption) ?_ (by with_unfolding_all rfl) (by intro _; with_unfolding_all rfl); k_whole; intro t'))
   k_with "exec For Name Call cons nil" => (k_here; k_dflt (refine wpAny_For ?_))
   k_with "pyIter ref" => (k_here; fail "mine")
   k_with "call builtin:list.append" => (k_here; (with_reducible show wpAny _ _ (PySem.call (Value.builtin _) [Value.ref _, _]) _ _ _); k_dflt (refine' append_K (by k_asm) (by k_asm) (by exact .tail (by k_ne) (.tail (by k_ne) (.tail (Ne.symm (by with_reducible assumption)) (.head (by with_reducible assumption))))) ?_ (by (rw [List.size_toArray, sizeLine_eq]; omega)); k_whole); intro h' F' N'; (try k_sweep))
   have hpk : ∀ i, i < 4 → 0 ≤ pick p0 p1 p2 p3 i ∧ pick p0 p1 p2 p3 i < 16 := pick_in ⟨h00, h01⟩ ⟨h10, h11⟩ ⟨h20, h21⟩ ⟨h30, h31⟩
   revert X; k_fill; intro X
   refine wpAny_call ?_
   k_dflt cell_enter
   rename Fr _ _ _ _ => F0
   replace F0 : Fr _ _ _ (fun y => List.lookup y [(Str.ofString "number", .int num t5), (Str.ofString "part", .float 4589168020290535424 t4), (Str.ofString "places", .ref pl)]) := F0
   refine gen_post (fun Qf hQf => ?_)
   k_steps
   rename Fr _ _ _ _ => F5
   rename News _ _ _ _ => N5
   rename _ < _ ∧ _ < _ ∧ AllLt _ _ => l5
   k_dflt (refine' iter_paint (fun i => (pick p0 p1 p2 p3 i).toNat) ?hh ?hx ?hp ?hr F5 (news_swap N5) l5.2 ?turn ?done ?hE)
   case hE => k_dflt passes_own
   case hh => rfl
   case hx => rfl
   case hp => rfl
   case hr => assumption
   case turn =>
     clear F5 N5
     intro I i t' it h' tk' NR vs k v2 v3 hi hvs off hne F' N'
     have hpi := hpk i hi
     have hpl := hpi.1
     have hpu := hpi.2
     have hI := off _ List.mem_cons_self
     dsimp only at hI
     dsimp only
     refine gen_post (fun Q2 hQ2 => ?_)
     k_steps
     all_goals (try subst hQ2)
     all_goals (try k_steps)
     rename Fr _ _ _ _ => F7
     rename News _ _ _ _ => N7
     rename IsCol _ _ => c7
     rename _ < _ ∧ _ < _ ∧ _ < _ ∧ _ < _ ∧ AllLt _ _ => l7
     rw [push_is] at N7
     refine UnrEnd.intro F7 N7 _ ?sub (fun p hp => ?off) ⟨_, _, _, _, _, k + 1, pm_next, rfl, c7, l7.2.2.1, l7.2.2.2.2⟩
     case sub =>
       repeat' (refine List.forall_mem_cons.mpr ⟨by k_mem, ?_⟩)
       intro p hp
       repeat (refine List.Mem.tail _ ?_)
       exact hp
     case off =>
       rcases List.mem_cons.mp hp with rfl | hp
       · exact hI
       rcases List.mem_cons.mp hp with rfl | hp
       · exact off _ (.tail _ (.head _))
       rcases List.mem_cons.mp hp with rfl | hp
       · exact Nat.ne_of_gt l7.2.1
       · exact off p (.tail _ (.tail _ hp))
   case done =>
     clear F5 N5
     intro h' tk' c0 c1 c2 c3 o0 o1 o2 o3 k v1 v2 v3 i0 i1 i2 i3 lo F' N'
     k_steps
     subst hQf
     k_steps
     refine ret _ c0 c1 c2 c3 o0 o1 o2 o3 _ _ _ (by assumption) (cb_drop (by assumption) (by (repeat' (first | exact List.forall_mem_nil _ | refine List.forall_mem_cons.mpr ⟨by k_mem, ?_⟩)); exact fun p hp => .tail _ (.tail _ (.tail _ (.tail _ (.tail _ (.tail _ hp))))))) i0 i1 i2 i3 l5.2 lo
end
end
section
/-- the values are the hues of these sixteenths -/
noncomputable def HuesAre : List Value → List Nat → Prop
  | [], [] => True
  | v :: vs, n :: ns => (∃ t, v = .float (F16 n) t) ∧ HuesAre vs ns
  | _, _ => False
theorem HuesAre.length {vs : List Value} {ns : List Nat} (h : HuesAre vs ns) : vs.length = ns.length := by
  induction vs generalizing ns with
  | nil => cases ns with
    | nil => rfl
    | cons _ _ => exact h.elim
  | cons v vs ih => cases ns with
    | nil => exact h.elim
    | cons n ns => exact congrArg (· + 1) (ih h.2)
theorem HuesAre.get {vs : List Value} {ns : List Nat} (h : HuesAre vs ns) : ∀ i < ns.length, ∃ t, vs[i]? = some (.float (F16 (ns.getD i 0)) t) := by
  induction vs generalizing ns with
  | nil => cases ns with
    | nil => exact fun i hi => absurd hi (Nat.not_lt_zero _)
    | cons _ _ => exact h.elim
  | cons v vs ih => cases ns with
    | nil => exact h.elim
    | cons n ns => exact fun i hi => match i, hi with
      | 0, _ => h.1.elim fun t e => ⟨t, congrArg some e⟩
      | i + 1, hi => ih h.2 i (Nat.lt_of_succ_lt_succ hi)

theorem item_hue {prog : Program} {w : World} {A : Around} {E : Value → Shared → Prop} {s : Shared} {h₀ : Heap} {L : Addr} {news : List (Addr × Obj)} {value slice : Expr} {a : Addr} {l : List Value} {ns : List Nat} {n : Nat} {k : Int} {u : Tok} {Q : Value → Shared → Prop}
    (N : News h₀ L s.heap news) (hm : (a, PySem.W.listOf l.toArray n) ∈ news) (hl : HuesAre l ns) (h0 : 0 ≤ k) (h1 : k < (ns.length : Int)) (hfit : k < 2 ^ 63) (h : ∀ t, Q (.float (F16 (ns.getD k.toNat 0)) t) s)
    (hs : subscripted slice false (.ref a) (.int k u) = operate [.ref a, .int k u] (getItem (.ref a) (.int k u))) (hg : ∀ r, letTemporaryGo value (.ref a) r = pure ()) :
    wpAny (model prog w) A (subscriptTail value slice (.ref a) (.int k u)) Q E s := by
  obtain ⟨t, e⟩ := hl.get k.toNat (by omega)
  exact item_news N hm h0 hfit e (h t) hs hg

theorem len_hues {prog : Program} {w : World} {A : Around} {E : Value → Shared → Prop} {s : Shared} {h₀ : Heap} {L : Addr} {news : List (Addr × Obj)} {a : Addr} {l : List Value} {ns : List Nat} {n : Nat} {Q : Value → Shared → Prop}
    (N : News h₀ L s.heap news) (hm : (a, PySem.W.listOf l.toArray n) ∈ news) (hl : HuesAre l ns) (hn : ns.length ≤ 16) (h : ∀ t k, Q (.int (ns.length : Int) t) { s with toks := k }) :
    wpAny (model prog w) A (call (.builtin "len") [.ref a]) Q E s := by
  have e : (l.toArray.size : Int) = (ns.length : Int) := by rw [List.size_toArray, hl.length]
  refine PyProof.Rows.len_list ⟨_, (N _ hm).1, rfl, n, rfl⟩ (by rw [e]; omega) ?_
  rw [e]
  exact h _ _
noncomputable abbrev two (m : Str → Option Value) (lo hi : Int) (tl th : Tok) (mid : Option Value) : Str → Option Value :=
  fun y => if y = Str.ofString "lo" then some (.int lo tl) else if y = Str.ofString "hi" then some (.int hi th) else if y = Str.ofString "mid" then mid else m y
noncomputable def TwoStep (h₀ : Heap) (L : Addr) (s : Shared) (m : Str → Option Value) (news : List (Addr × Obj)) (P : Int → Int → Prop) (lo hi : Int) (f : Flow) (s₃ : Shared) : Prop :=
  f = .next ∧ ∃ h' tk lo' hi' tl th mid, s₃ = { s with heap := h', toks := tk } ∧ Fr h₀ L h' (two m lo' hi' tl th mid) ∧ News h₀ L h' news ∧ P lo' hi' ∧ (hi' - lo').toNat < (hi - lo).toNat
section
variable {prog : Program} {w : World} {A : Around} {E : Value → Shared → Prop} {Q : Flow → Shared → Prop} {s : Shared} {env : Env} {h₀ : Heap} {L : Addr} {m : Str → Option Value} {news : List (Addr × Obj)}
theorem While_two {test : Expr} {body : List Stmt} {pos : Pos} (P : Int → Int → Prop) {lo₀ hi₀ : Int} {t₀ t₁ : Tok}
    (F : Fr h₀ L s.heap m) (N : News h₀ L s.heap news) (h1 : m (Str.ofString "lo") = some (.int lo₀ t₀)) (h2 : m (Str.ofString "hi") = some (.int hi₀ t₁)) (hP : P lo₀ hi₀)
    (turn : ∀ lo hi tl th mid h₁ tk₁, Fr h₀ L h₁ (two m lo hi tl th mid) → News h₀ L h₁ news → P lo hi →
      wpAny (model prog w) A (isTrue test env (eval test env)) (fun b s₂ =>
        if b = true then wpAny (model prog w) A (execs body env) (TwoStep h₀ L s m news P lo hi) E s₂ else Q .next s₂) E { s with heap := h₁, toks := tk₁ })
    (hE : PassesOwn (model prog w) A env E) :
    wpAny (model prog w) A (exec (.While test body [] pos) env) Q E s := by
  refine While_inv (fun n m₁ news₁ => news₁ = news ∧ ∃ lo hi tl th mid, n = (hi - lo).toNat ∧ P lo hi ∧ m₁ = two m lo hi tl th mid) F N (n₀ := (hi₀ - lo₀).toNat) ⟨rfl, lo₀, hi₀, t₀, t₁, m (Str.ofString "mid"), rfl, hP, ?_⟩ ?_ hE
  · funext y
    by_cases e1 : y = Str.ofString "lo"
    · subst e1; simp only [two, if_true]; exact h1
    · by_cases e2 : y = Str.ofString "hi"
      · subst e2; simp only [two, if_neg e1, if_true]; exact h2
      · by_cases e3 : y = Str.ofString "mid"
        · subst e3; simp only [two, if_neg e1, if_neg e2, if_true]
        · simp only [two, if_neg e1, if_neg e2, if_neg e3]
  · rintro n m₁ news₁ h₁ tk₁ F₁ N₁ ⟨rfl, lo, hi, tl, th, mid, rfl, hP', rfl⟩
    refine wpAny_mono (turn lo hi tl th mid h₁ tk₁ F₁ N₁ hP') (fun b s₂ h₂ => ?_) fun _ _ e => e
    cases b with
    | false => exact h₂
    | true =>
      simp only [if_true] at h₂ ⊢
      refine wpAny_mono h₂ (fun f s₃ h₃ => ?_) fun _ _ e => e
      obtain ⟨rfl, h', tk, lo', hi', tl', th', mid', rfl, F', N', p', d'⟩ := h₃
      exact ⟨rfl, h', tk, _, _, _, rfl, F', N', d', rfl, lo', hi', tl', th', mid', rfl, p', rfl⟩
theorem TwoStep.hi {P : Int → Int → Prop} {lo hi k : Int} {tl th t : Tok} {v : Value} {mid : Option Value} {h' : Heap} {tk : Nat}
    (F : Fr h₀ L h' (fun y => if y = Str.ofString "hi" then some (.int k t) else if y = Str.ofString "mid" then some v else two m lo hi tl th mid y)) (N : News h₀ L h' news) (hP : P lo k) (hd : (k - lo).toNat < (hi - lo).toNat) :
    TwoStep h₀ L s m news P lo hi .next { s with heap := h', toks := tk } := by
  refine ⟨rfl, h', tk, lo, k, tl, t, some v, rfl, ?_, N, hP, hd⟩
  have e : (fun y => if y = Str.ofString "hi" then some (.int k t) else if y = Str.ofString "mid" then some v else two m lo hi tl th mid y) = two m lo k tl t (some v) := by
    funext y
    by_cases e1 : y = Str.ofString "hi"
    · subst e1; rfl
    · by_cases e3 : y = Str.ofString "mid"
      · subst e3; rfl
      · simp only [two, if_neg e1, if_neg e3]
  rw [e] at F
  exact F
theorem TwoStep.lo {P : Int → Int → Prop} {lo hi k : Int} {tl th t : Tok} {v : Value} {mid : Option Value} {h' : Heap} {tk : Nat}
    (F : Fr h₀ L h' (fun y => if y = Str.ofString "lo" then some (.int k t) else if y = Str.ofString "mid" then some v else two m lo hi tl th mid y)) (N : News h₀ L h' news) (hP : P k hi) (hd : (hi - k).toNat < (hi - lo).toNat) :
    TwoStep h₀ L s m news P lo hi .next { s with heap := h', toks := tk } := by
  refine ⟨rfl, h', tk, k, hi, t, th, some v, rfl, ?_, N, hP, hd⟩
  have e : (fun y => if y = Str.ofString "lo" then some (.int k t) else if y = Str.ofString "mid" then some v else two m lo hi tl th mid y) = two m k hi t th (some v) := by
    funext y
    by_cases e1 : y = Str.ofString "lo"
    · subst e1; rfl
    · by_cases e3 : y = Str.ofString "mid"
      · subst e3; rfl
      · simp only [two, if_neg e1, if_neg e3]
  rw [e] at F
  exact F
end
/-- the bisection's invariant: below lo all are p, from hi on none is -/
structure BisInv (ns : List Nat) (p : Nat → Bool) (lo hi : Int) : Prop where
  z : 0 ≤ lo
  le : lo ≤ hi
  top : hi ≤ (ns.length : Int)
  low : ∀ i : Nat, (i : Int) < lo → p (ns.getD i 0) = true
  high : ∀ i : Nat, hi ≤ (i : Int) → i < ns.length → p (ns.getD i 0) = false
/-- never again once it is not -/
noncomputable def Falls (ns : List Nat) (p : Nat → Bool) : Prop := ∀ i j : Nat, i ≤ j → j < ns.length → p (ns.getD j 0) = true → p (ns.getD i 0) = true
theorem mid_at {lo hi : Int} (z : 0 ≤ lo) (h : lo < hi) : lo ≤ (lo + hi).fdiv 2 ∧ (lo + hi).fdiv 2 < hi := by
  rw [Int.fdiv_eq_ediv_of_nonneg _ (by decide)]; omega
theorem bis_0 {ns : List Nat} {p : Nat → Bool} : BisInv ns p 0 (ns.length : Int) :=
  ⟨by decide, by omega, by omega, fun i h => absurd h (by omega), fun i h h' => absurd h (by omega)⟩
theorem bis_hi {ns : List Nat} {p : Nat → Bool} {lo hi k : Int} (I : BisInv ns p lo hi) (hm : Falls ns p) (h : lo < hi) (hk : k = (lo + hi).fdiv 2) (hp : p (ns.getD k.toNat 0) = false) : BisInv ns p lo k ∧ (k - lo).toNat < (hi - lo).toNat := by
  have ⟨a, b⟩ := mid_at I.z h
  rw [← hk] at a b
  have z := I.z
  refine ⟨⟨I.z, a, Int.le_trans (Int.le_of_lt b) I.top, I.low, fun i h1 h2 => ?_⟩, by omega⟩
  cases e : p (ns.getD i 0) with
  | false => rfl
  | true => rw [hm k.toNat i (by omega) h2 e] at hp; cases hp
theorem bis_lo {ns : List Nat} {p : Nat → Bool} {lo hi k : Int} (I : BisInv ns p lo hi) (hm : Falls ns p) (h : lo < hi) (hk : k = (lo + hi).fdiv 2) (hp : p (ns.getD k.toNat 0) = true) : BisInv ns p (k + 1) hi ∧ (hi - (k + 1)).toNat < (hi - lo).toNat := by
  have ⟨a, b⟩ := mid_at I.z h
  rw [← hk] at a b
  have z := I.z
  have tp := I.top
  exact ⟨⟨by omega, by omega, tp, fun i h1 => hm i k.toNat (by omega) (by omega) hp, I.high⟩, by omega⟩
theorem countP_cut (p : Nat → Bool) : ∀ (ns : List Nat) (k : Nat), k ≤ ns.length → (∀ i, i < k → p (ns.getD i 0) = true) → (∀ i, k ≤ i → i < ns.length → p (ns.getD i 0) = false) → ns.countP p = k
  | [], k, hk, _, _ => by simp at hk; simp [hk]
  | n :: r, 0, _, _, h => by
    have h0 := h 0 (Nat.le_refl _) (by simp)
    rw [List.countP_cons, countP_cut p r 0 (Nat.zero_le _) (fun i hi => absurd hi (Nat.not_lt_zero _)) (fun i _ hi => by simpa using h (i + 1) (Nat.zero_le _) (by simpa using hi))]
    simp at h0
    simp [h0]
  | n :: r, k + 1, hk, hl, h => by
    have h0 := hl 0 (Nat.succ_pos _)
    rw [List.countP_cons, countP_cut p r k (by simpa using hk) (fun i hi => by simpa using hl (i + 1) (by omega)) (fun i hi h2 => by simpa using h (i + 1) (by omega) (by simpa using h2))]
    simp at h0
    simp [h0]
theorem bis_end {ns : List Nat} {p : Nat → Bool} {lo hi : Int} (I : BisInv ns p lo hi) (h : ¬ lo < hi) : (ns.countP p : Int) = lo := by
  have z := I.z
  have a := I.le
  have b := I.top
  have e : lo = hi := by omega
  subst e
  rw [countP_cut p ns lo.toNat (by omega) (fun i hi => I.low i (by omega)) (fun i h1 h2 => I.high i (by omega) h2)]
  omega
theorem getD_lt {ns : List Nat} (hb : ∀ i ∈ ns, i < 16) (i : Nat) : ns.getD i 0 < 16 := by
  rw [List.getD_eq_getElem?_getD]
  cases e : ns[i]? with
  | none => simp
  | some v => exact hb v (List.mem_of_getElem? e)
theorem mid_0 {ns : List Nat} {p : Nat → Bool} {lo hi : Int} (I : BisInv ns p lo hi) (h : lo < hi) : 0 ≤ (lo + hi).fdiv 2 := by have := mid_at I.z h; have := I.z; omega
theorem mid_1 {ns : List Nat} {p : Nat → Bool} {lo hi : Int} (I : BisInv ns p lo hi) (h : lo < hi) : (lo + hi).fdiv 2 < (ns.length : Int) := by have := mid_at I.z h; have := I.top; omega
theorem mid_2 {ns : List Nat} {p : Nat → Bool} {lo hi : Int} (I : BisInv ns p lo hi) (h : lo < hi) (hl : ns.length ≤ 16) : (lo + hi).fdiv 2 < 2 ^ 63 := by have := mid_1 I h; omega
theorem right_f {ns : List Nat} {q : Nat} (hb : ∀ i ∈ ns, i < 16) (hq : q < 16) {k : Nat} (h : (Float64.cmp (F16 q) (F16 (ns.getD k 0)) == some Ordering.lt) = true) : decide (ns.getD k 0 ≤ q) = false := by
  have e := F16_lt0 q hq _ (getD_lt hb k)
  unfold ltF at e
  rw [h] at e
  have := of_decide_eq_true e.symm
  exact decide_eq_false (by omega)
theorem right_t {ns : List Nat} {q : Nat} (hb : ∀ i ∈ ns, i < 16) (hq : q < 16) {k : Nat} (h : (Float64.cmp (F16 q) (F16 (ns.getD k 0)) == some Ordering.lt) = false) : decide (ns.getD k 0 ≤ q) = true := by
  have e := F16_lt0 q hq _ (getD_lt hb k)
  unfold ltF at e
  rw [h] at e
  have := of_decide_eq_false e.symm
  exact decide_eq_true (by omega)
theorem left_t {ns : List Nat} {q : Nat} (hb : ∀ i ∈ ns, i < 16) (hq : q < 16) {k : Nat} (h : (Float64.cmp (F16 (ns.getD k 0)) (F16 q) == some Ordering.lt) = true) : decide (ns.getD k 0 < q) = true := by
  have e := F16_lt0 _ (getD_lt hb k) q hq
  unfold ltF at e
  rw [h] at e
  have := of_decide_eq_true e.symm
  exact decide_eq_true (by omega)
theorem left_f {ns : List Nat} {q : Nat} (hb : ∀ i ∈ ns, i < 16) (hq : q < 16) {k : Nat} (h : (Float64.cmp (F16 (ns.getD k 0)) (F16 q) == some Ordering.lt) = false) : decide (ns.getD k 0 < q) = false := by
  have e := F16_lt0 _ (getD_lt hb k) q hq
  unfold ltF at e
  rw [h] at e
  have := of_decide_eq_false e.symm
  exact decide_eq_false (by omega)
/-- it climbs -/
noncomputable def Climbs (ns : List Nat) : Prop := ∀ i j : Nat, i ≤ j → j < ns.length → ns.getD i 0 ≤ ns.getD j 0
theorem Climbs.right {ns : List Nat} (h : Climbs ns) (q : Nat) : Falls ns (fun x => decide (x ≤ q)) := fun i j hij hj e => by
  have := h i j hij hj; have := of_decide_eq_true e; exact decide_eq_true (by omega)
theorem Climbs.left {ns : List Nat} (h : Climbs ns) (q : Nat) : Falls ns (fun x => decide (x < q)) := fun i j hij hj e => by
  have := h i j hij hj; have := of_decide_eq_true e; exact decide_eq_true (by omega)
section
variable {w : World} {mean : ExcName → Option Value} {mg mb : Str → Option Value} {loose : List Str}
  {dp un : Nat} {gd : Option (List Code)} {cn : Str} {cs : Scope} {a : Addr} {ccd : Value} {cl : List (Str × Addr)} {outer : List Env} {A₀ : Around} {base h₀ : Heap} {L : Addr} {m : Str → Option Value} {s : Shared} {Q E : Value → Shared → Prop} {news : List (Addr × Obj)} 

theorem right_call {la : Addr} {vs : List Value} {ns : List Nat} {q : Nat} {tx : Tok} {n : Nat}
  (B : Below A₀ base outer h₀) (F : Fr h₀ L s.heap m) (X : (hd.heap_39 w.params).In h₀) (N : News h₀ L s.heap ((la, PySem.W.listOf vs.toArray n) :: news)) (T : Top hd.view_39 loose mean mg mb h₀) (hk : cs.kind = .function)
  (hdp : dp + 1 < recursionLimit) (hun : un + 8 < cLine)
  (hv : HuesAre vs ns) (hlen : ns.length ≤ 16) (hb : ∀ i ∈ ns, i < 16) (hq : q < 16) (hs : Climbs ns)
  (ret : ∀ (t : Tok) (h' : Heap) (tk' : Nat), Fr h₀ L h' m → News h₀ L h' ((la, PySem.W.listOf vs.toArray n) :: news) → Q (.int ((ns.countP (fun x => decide (x ≤ q)) : Nat) : Int) t) { s with heap := h', toks := tk' }) :
   wpAny (model Challenge.rw_rl0062_01.row.prog w) (ktrTop dp un gd cn cs L a ccd cl outer) (call (.ref 53) [.ref la, .float (F16 q) tx]) Q E s := by
   w_top off
   k_with_none
   k_with "eval Constant int" => (k_here; k_dflt (refine ci_f (fun t' tk' => ?_)))
   k_with "eval Constant str" => (k_here; k_dflt (refine cs_f (fun t' tk' => ?_)))
   k_with "eval Constant float" => (k_here; k_dflt (refine cf_f (fun t' tk' => ?_)))
   k_with "binaryOp Add int int" => (k_here; k_dflt (refine ai_f (fun t' tk' => ?_)))
   k_with "binaryOp Sub int int" => (k_here; k_dflt (refine si_f (fun t' tk' => ?_)))
   k_with "binaryOp Add float float" => (k_here; k_dflt (refine af_f (fun t' tk' => ?_)))
   k_with "binaryOp Sub float float" => (k_here; k_dflt (refine sf_f (fun t' tk' => ?_)))
   k_with "binaryOp Mult float float" => (k_here; k_dflt (refine mf_f (fun t' tk' => ?_)))
   k_with "binaryOp Mod int int" => (k_here; k_dflt (refine mi_f (by decide) (fun t' tk' => ?_)))
   k_with "call builtin:len" => (k_here; k_dflt (refine' len_hues (by k_asm) (by k_mem) (by assumption) (by assumption) ?_; k_whole); intro t' tk')
   k_with "exec While Compare cons nil" => (k_extra "mywhile")
   k_with "subscriptTail Name Name ref int" => (k_here; (with_reducible show wpAny _ _ (subscriptTail _ _ (Value.ref _) (Value.int _ _)) _ _ _); k_dflt (refine' item_hue (by k_asm) (by k_mem) (by assumption) (by exact mid_0 (by assumption) (by assumption)) (by exact mid_1 (by assumption) (by assumption)) (by exact mid_2 (by assumption) (by assumption) (by assumption)) ?_ (by with_unfolding_all rfl) (by intro _; with_unfolding_all rfl); k_whole); intro t')
   revert X; k_fill; intro X
   refine wpAny_call ?_
   k_dflt (refine' code_def ?k1 ?k2 ?k3 ?k4 ?k5 ?kA ?kF ?kK ?k6 ?k7 ?k8 ?k9 ?kB ?_ ?c2 ?c3 ?c4 ?c5; (case kA => exact rfl); (case kF => exact rfl); (case kK => assumption); (case k1 => k_asm); (case k2 => k_asm); (case k3 => k_asm); (case k4 => k_asm); (case k5 => k_asm); (case k6 => k_is); (case k7 => k_is); (case k8 => ktr_room); (case k9 => first | exact BindsTo.of_eq rfl | exact kp_binds (by k_in) (fun _ => rfl)); (case c5 => decide); (case kB => exact locs rfl); (case c2 => exact rfl); (case c3 => exact rfl); (case c4 => exact rfl); k_whole; intro g' L' h' FG' F' N' B' X' T'; (try dsimp only); (try k_lift B'); (try k_fold))
   rename Fr _ _ _ _ => F0
   replace F0 : Fr _ _ _ (fun y => List.lookup y [(Str.ofString "key", .none), (Str.ofString "hi", .none), (Str.ofString "lo", .int 0 255), (Str.ofString "x", .float (F16 q) tx), (Str.ofString "a", .ref la)]) := F0
   k_with "mywhile" => (k_dflt (refine' While_two (BisInv ns (fun x => decide (x ≤ q))) ?w1 ?w2 ?w3 ?w4 ?w5 ?_ (by passes_own); (case w1 => k_asm); (case w2 => k_asm); (case w3 => exact rfl); (case w4 => exact rfl); (case w5 => exact bis_0)); intro lo hi tl th mid h' tk' F' N' hP)
   refine gen_post (fun Qf hQf => ?_)
   k_steps
   all_goals (try subst hQf)
   all_goals (try k_steps)
   all_goals first
     | exact TwoStep.hi (by assumption) (by assumption) (bis_hi (by assumption) (hs.right q) (by assumption) rfl (right_f hb hq (by assumption))).1 (bis_hi (by assumption) (hs.right q) (by assumption) rfl (right_f hb hq (by assumption))).2
     | exact TwoStep.lo (by assumption) (by assumption) (bis_lo (by assumption) (hs.right q) (by assumption) rfl (right_t hb hq (by assumption))).1 (bis_lo (by assumption) (hs.right q) (by assumption) rfl (right_t hb hq (by assumption))).2
     | (rename BisInv _ _ _ _ => I9; rename ¬ (_ < _) => a9; rw [bis_end I9 a9] at ret; exact ret _ _ _ (by assumption) (by assumption))

theorem right4_call {la : Addr} {vs : List Value} {ns : List Nat} {q : Nat} {tx t0 : Tok} {n : Nat}
  (B : Below A₀ base outer h₀) (F : Fr h₀ L s.heap m) (X : (hd.heap_39 w.params).In h₀) (N : News h₀ L s.heap ((la, PySem.W.listOf vs.toArray n) :: news)) (T : Top hd.view_39 loose mean mg mb h₀) (hk : cs.kind = .function)
  (hdp : dp + 1 < recursionLimit) (hun : un + 8 < cLine)
  (hv : HuesAre vs ns) (hlen : ns.length ≤ 16) (hb : ∀ i ∈ ns, i < 16) (hq : q < 16) (hs : Climbs ns)
  (ret : ∀ (t : Tok) (h' : Heap) (tk' : Nat), Fr h₀ L h' m → News h₀ L h' ((la, PySem.W.listOf vs.toArray n) :: news) → Q (.int ((ns.countP (fun x => decide (x ≤ q)) : Nat) : Int) t) { s with heap := h', toks := tk' }) :
   wpAny (model Challenge.rw_rl0062_01.row.prog w) (ktrTop dp un gd cn cs L a ccd cl outer) (call (.ref 53) [.ref la, .float (F16 q) tx, .int 0 t0, .none]) Q E s := by
   w_top off
   k_with_none
   k_with "eval Constant int" => (k_here; k_dflt (refine ci_f (fun t' tk' => ?_)))
   k_with "eval Constant str" => (k_here; k_dflt (refine cs_f (fun t' tk' => ?_)))
   k_with "eval Constant float" => (k_here; k_dflt (refine cf_f (fun t' tk' => ?_)))
   k_with "binaryOp Add int int" => (k_here; k_dflt (refine ai_f (fun t' tk' => ?_)))
   k_with "binaryOp Sub int int" => (k_here; k_dflt (refine si_f (fun t' tk' => ?_)))
   k_with "binaryOp Add float float" => (k_here; k_dflt (refine af_f (fun t' tk' => ?_)))
   k_with "binaryOp Sub float float" => (k_here; k_dflt (refine sf_f (fun t' tk' => ?_)))
   k_with "binaryOp Mult float float" => (k_here; k_dflt (refine mf_f (fun t' tk' => ?_)))
   k_with "binaryOp Mod int int" => (k_here; k_dflt (refine mi_f (by decide) (fun t' tk' => ?_)))
   k_with "call builtin:len" => (k_here; k_dflt (refine' len_hues (by k_asm) (by k_mem) (by assumption) (by assumption) ?_; k_whole); intro t' tk')
   k_with "exec While Compare cons nil" => (k_extra "mywhile")
   k_with "subscriptTail Name Name ref int" => (k_here; (with_reducible show wpAny _ _ (subscriptTail _ _ (Value.ref _) (Value.int _ _)) _ _ _); k_dflt (refine' item_hue (by k_asm) (by k_mem) (by assumption) (by exact mid_0 (by assumption) (by assumption)) (by exact mid_1 (by assumption) (by assumption)) (by exact mid_2 (by assumption) (by assumption) (by assumption)) ?_ (by with_unfolding_all rfl) (by intro _; with_unfolding_all rfl); k_whole); intro t')
   revert X; k_fill; intro X
   refine wpAny_call ?_
   k_dflt (refine' code_def ?k1 ?k2 ?k3 ?k4 ?k5 ?kA ?kF ?kK ?k6 ?k7 ?k8 ?k9 ?kB ?_ ?c2 ?c3 ?c4 ?c5; (case kA => exact rfl); (case kF => exact rfl); (case kK => assumption); (case k1 => k_asm); (case k2 => k_asm); (case k3 => k_asm); (case k4 => k_asm); (case k5 => k_asm); (case k6 => k_is); (case k7 => k_is); (case k8 => ktr_room); (case k9 => first | exact BindsTo.of_eq rfl | exact kp_binds (by k_in) (fun _ => rfl)); (case c5 => decide); (case kB => exact locs rfl); (case c2 => exact rfl); (case c3 => exact rfl); (case c4 => exact rfl); k_whole; intro g' L' h' FG' F' N' B' X' T'; (try dsimp only); (try k_lift B'); (try k_fold))
   rename Fr _ _ _ _ => F0
   replace F0 : Fr _ _ _ (fun y => List.lookup y [(Str.ofString "key", .none), (Str.ofString "hi", .none), (Str.ofString "lo", .int 0 t0), (Str.ofString "x", .float (F16 q) tx), (Str.ofString "a", .ref la)]) := F0
   k_with "mywhile" => (k_dflt (refine' While_two (BisInv ns (fun x => decide (x ≤ q))) ?w1 ?w2 ?w3 ?w4 ?w5 ?_ (by passes_own); (case w1 => k_asm); (case w2 => k_asm); (case w3 => exact rfl); (case w4 => exact rfl); (case w5 => exact bis_0)); intro lo hi tl th mid h' tk' F' N' hP)
   refine gen_post (fun Qf hQf => ?_)
   k_steps
   all_goals (try subst hQf)
   all_goals (try k_steps)
   all_goals first
     | exact TwoStep.hi (by assumption) (by assumption) (bis_hi (by assumption) (hs.right q) (by assumption) rfl (right_f hb hq (by assumption))).1 (bis_hi (by assumption) (hs.right q) (by assumption) rfl (right_f hb hq (by assumption))).2
     | exact TwoStep.lo (by assumption) (by assumption) (bis_lo (by assumption) (hs.right q) (by assumption) rfl (right_t hb hq (by assumption))).1 (bis_lo (by assumption) (hs.right q) (by assumption) rfl (right_t hb hq (by assumption))).2
     | (rename BisInv _ _ _ _ => I9; rename ¬ (_ < _) => a9; rw [bis_end I9 a9] at ret; exact ret _ _ _ (by assumption) (by assumption))

theorem left_call {la : Addr} {vs : List Value} {ns : List Nat} {q : Nat} {tx : Tok} {n : Nat}
  (B : Below A₀ base outer h₀) (F : Fr h₀ L s.heap m) (X : (hd.heap_39 w.params).In h₀) (N : News h₀ L s.heap ((la, PySem.W.listOf vs.toArray n) :: news)) (T : Top hd.view_39 loose mean mg mb h₀) (hk : cs.kind = .function)
  (hdp : dp + 1 < recursionLimit) (hun : un + 8 < cLine)
  (hv : HuesAre vs ns) (hlen : ns.length ≤ 16) (hb : ∀ i ∈ ns, i < 16) (hq : q < 16) (hs : Climbs ns)
  (ret : ∀ (t : Tok) (h' : Heap) (tk' : Nat), Fr h₀ L h' m → News h₀ L h' ((la, PySem.W.listOf vs.toArray n) :: news) → Q (.int ((ns.countP (fun x => decide (x < q)) : Nat) : Int) t) { s with heap := h', toks := tk' }) :
   wpAny (model Challenge.rw_rl0062_01.row.prog w) (ktrTop dp un gd cn cs L a ccd cl outer) (call (.ref 62) [.ref la, .float (F16 q) tx]) Q E s := by
   w_top off
   k_with_none
   k_with "eval Constant int" => (k_here; k_dflt (refine ci_f (fun t' tk' => ?_)))
   k_with "eval Constant str" => (k_here; k_dflt (refine cs_f (fun t' tk' => ?_)))
   k_with "eval Constant float" => (k_here; k_dflt (refine cf_f (fun t' tk' => ?_)))
   k_with "binaryOp Add int int" => (k_here; k_dflt (refine ai_f (fun t' tk' => ?_)))
   k_with "binaryOp Sub int int" => (k_here; k_dflt (refine si_f (fun t' tk' => ?_)))
   k_with "binaryOp Add float float" => (k_here; k_dflt (refine af_f (fun t' tk' => ?_)))
   k_with "binaryOp Sub float float" => (k_here; k_dflt (refine sf_f (fun t' tk' => ?_)))
   k_with "binaryOp Mult float float" => (k_here; k_dflt (refine mf_f (fun t' tk' => ?_)))
   k_with "binaryOp Mod int int" => (k_here; k_dflt (refine mi_f (by decide) (fun t' tk' => ?_)))
   k_with "call builtin:len" => (k_here; k_dflt (refine' len_hues (by k_asm) (by k_mem) (by assumption) (by assumption) ?_; k_whole); intro t' tk')
   k_with "exec While Compare cons nil" => (k_extra "mywhile")
   k_with "subscriptTail Name Name ref int" => (k_here; (with_reducible show wpAny _ _ (subscriptTail _ _ (Value.ref _) (Value.int _ _)) _ _ _); k_dflt (refine' item_hue (by k_asm) (by k_mem) (by assumption) (by exact mid_0 (by assumption) (by assumption)) (by exact mid_1 (by assumption) (by assumption)) (by exact mid_2 (by assumption) (by assumption) (by assumption)) ?_ (by with_unfolding_all rfl) (by intro _; with_unfolding_all rfl); k_whole); intro t')
   revert X; k_fill; intro X
   refine wpAny_call ?_
   k_dflt (refine' code_def ?k1 ?k2 ?k3 ?k4 ?k5 ?kA ?kF ?kK ?k6 ?k7 ?k8 ?k9 ?kB ?_ ?c2 ?c3 ?c4 ?c5; (case kA => exact rfl); (case kF => exact rfl); (case kK => assumption); (case k1 => k_asm); (case k2 => k_asm); (case k3 => k_asm); (case k4 => k_asm); (case k5 => k_asm); (case k6 => k_is); (case k7 => k_is); (case k8 => ktr_room); (case k9 => first | exact BindsTo.of_eq rfl | exact kp_binds (by k_in) (fun _ => rfl)); (case c5 => decide); (case kB => exact locs rfl); (case c2 => exact rfl); (case c3 => exact rfl); (case c4 => exact rfl); k_whole; intro g' L' h' FG' F' N' B' X' T'; (try dsimp only); (try k_lift B'); (try k_fold))
   rename Fr _ _ _ _ => F0
   replace F0 : Fr _ _ _ (fun y => List.lookup y [(Str.ofString "key", .none), (Str.ofString "hi", .none), (Str.ofString "lo", .int 0 _), (Str.ofString "x", .float (F16 q) tx), (Str.ofString "a", .ref la)]) := F0
   k_with "mywhile" => (k_dflt (refine' While_two (BisInv ns (fun x => decide (x < q))) ?w1 ?w2 ?w3 ?w4 ?w5 ?_ (by passes_own); (case w1 => k_asm); (case w2 => k_asm); (case w3 => exact rfl); (case w4 => exact rfl); (case w5 => exact bis_0)); intro lo hi tl th mid h' tk' F' N' hP)
   refine gen_post (fun Qf hQf => ?_)
   k_steps
   all_goals (try subst hQf)
   all_goals (try k_steps)
   all_goals first
     | exact TwoStep.hi (by assumption) (by assumption) (bis_hi (by assumption) (hs.left q) (by assumption) rfl (left_f hb hq (by assumption))).1 (bis_hi (by assumption) (hs.left q) (by assumption) rfl (left_f hb hq (by assumption))).2
     | exact TwoStep.lo (by assumption) (by assumption) (bis_lo (by assumption) (hs.left q) (by assumption) rfl (left_t hb hq (by assumption))).1 (bis_lo (by assumption) (hs.left q) (by assumption) rfl (left_t hb hq (by assumption))).2
     | (rename BisInv _ _ _ _ => I9; rename ¬ (_ < _) => a9; rw [bis_end I9 a9] at ret; exact ret _ _ _ (by assumption) (by assumption))

end
end
section
/-- laid in behind its likes -/
noncomputable def insR (ns : List Nat) (q : Nat) : List Nat := ns.take (ns.countP fun x => decide (x ≤ q)) ++ q :: ns.drop (ns.countP fun x => decide (x ≤ q))
theorem HuesAre.append {vs : List Value} {ns : List Nat} {vs' : List Value} {ns' : List Nat} (h : HuesAre vs ns) (h' : HuesAre vs' ns') : HuesAre (vs ++ vs') (ns ++ ns') := by
  induction vs generalizing ns with
  | nil => cases ns with
    | nil => exact h'
    | cons _ _ => exact h.elim
  | cons v vs ih => cases ns with
    | nil => exact h.elim
    | cons n ns => exact ⟨h.1, ih h.2⟩
theorem HuesAre.cut {vs : List Value} {ns : List Nat} (h : HuesAre vs ns) (k : Nat) : HuesAre (vs.take k) (ns.take k) ∧ HuesAre (vs.drop k) (ns.drop k) := by
  induction k generalizing vs ns with
  | zero => exact ⟨trivial, h⟩
  | succ k ih => cases vs with
    | nil => cases ns with
      | nil => exact ⟨trivial, trivial⟩
      | cons _ _ => exact h.elim
    | cons v vs => cases ns with
      | nil => exact h.elim
      | cons n ns => exact ⟨⟨h.1, (ih h.2).1⟩, (ih h.2).2⟩
theorem ins_use {prog : Program} {w : World} {A : Around} {E : Value → Shared → Prop} {s : Shared} {h₀ : Heap} {L D : Addr} {m : Str → Option Value} {news : List (Addr × Obj)} {news' : List Value → List (Addr × Obj)} {vs : List Value} {n : Nat} {x : Int} {u : Tok} {y : Value} {Q : Value → Shared → Prop}
    (F : Fr h₀ L s.heap m) (N : News h₀ L s.heap news) (hU : ∀ l : List Value, Upd D (PySem.W.listOf vs.toArray n) (PySem.W.listOf l.toArray (n + 1)) news (news' l)) (hf : Builtin.List.listFitsIndex x = true)
    (hz : vs.toArray.toList.length ≤ sizeLine) (h : ∀ h', Fr h₀ L h' m → News h₀ L h' (news' (kl_ins vs x y)) → Q .none { s with heap := h' }) :
    wpAny (model prog w) A (call (.builtin "list.insert") [.ref D, .int x u, y]) Q E s := kl_insert F N hf rfl (hU _) hz h
theorem fits_small {k : Nat} (h : k ≤ 16) : Builtin.List.listFitsIndex (k : Int) = true := by
  unfold Builtin.List.listFitsIndex
  simp only [Bool.and_eq_true, decide_eq_true_eq]
  omega
theorem ins_hues {vs : List Value} {ns : List Nat} {q : Nat} {t : Tok} (hv : HuesAre vs ns) : HuesAre (kl_ins vs ((ns.countP (fun x => decide (x ≤ q)) : Nat) : Int) (.float (F16 q) t)) (insR ns q) := by
  have hle : ns.countP (fun x => decide (x ≤ q)) ≤ vs.length := by rw [hv.length]; exact List.countP_le_length
  unfold kl_ins insR
  rw [if_neg (by omega), Int.toNat_natCast, Nat.min_eq_left hle]
  exact (hv.cut _).1.append ⟨⟨t, rfl⟩, (hv.cut _).2⟩
section
variable {w : World} {mean : ExcName → Option Value} {mg mb : Str → Option Value} {loose : List Str}
  {dp un : Nat} {gd : Option (List Code)} {cn : Str} {cs : Scope} {a : Addr} {ccd : Value} {cl : List (Str × Addr)} {outer : List Env} {A₀ : Around} {base h₀ : Heap} {L : Addr} {m : Str → Option Value} {s : Shared} {Q E : Value → Shared → Prop} {news : List (Addr × Obj)} 
theorem right_use {la : Addr} {vs : List Value} {ns : List Nat} {q : Nat} {tx : Tok} {n : Nat}
  (B : Below A₀ base outer h₀) (F : Fr h₀ L s.heap m) (X : (hd.heap_39 w.params).In h₀) (N : News h₀ L s.heap news) (T : Top hd.view_39 loose mean mg mb h₀) (hk : cs.kind = .function)
  (hdp : dp + 1 < recursionLimit) (hun : un + 8 < cLine) (hm : (la, PySem.W.listOf vs.toArray n) ∈ news)
  (hv : HuesAre vs ns) (hlen : ns.length ≤ 16) (hb : ∀ i ∈ ns, i < 16) (hq : q < 16) (hs : Climbs ns)
  (ret : ∀ (t : Tok) (h' : Heap) (tk' : Nat), Fr h₀ L h' m → News h₀ L h' news → Q (.int ((ns.countP (fun x => decide (x ≤ q)) : Nat) : Int) t) { s with heap := h', toks := tk' }) :
   wpAny (model Challenge.rw_rl0062_01.row.prog w) (ktrTop dp un gd cn cs L a ccd cl outer) (call (.ref 53) [.ref la, .float (F16 q) tx]) Q E s :=
  right_call B F X (news_dup N hm) T hk hdp hun hv hlen hb hq hs fun t h' tk' F' N' => ret t h' tk' F' (news_tail N')
theorem right4_use {la : Addr} {vs : List Value} {ns : List Nat} {q : Nat} {tx t0 : Tok} {n : Nat}
  (B : Below A₀ base outer h₀) (F : Fr h₀ L s.heap m) (X : (hd.heap_39 w.params).In h₀) (N : News h₀ L s.heap news) (T : Top hd.view_39 loose mean mg mb h₀) (hk : cs.kind = .function)
  (hdp : dp + 1 < recursionLimit) (hun : un + 8 < cLine) (hm : (la, PySem.W.listOf vs.toArray n) ∈ news)
  (hv : HuesAre vs ns) (hlen : ns.length ≤ 16) (hb : ∀ i ∈ ns, i < 16) (hq : q < 16) (hs : Climbs ns)
  (ret : ∀ (t : Tok) (h' : Heap) (tk' : Nat), Fr h₀ L h' m → News h₀ L h' news → Q (.int ((ns.countP (fun x => decide (x ≤ q)) : Nat) : Int) t) { s with heap := h', toks := tk' }) :
   wpAny (model Challenge.rw_rl0062_01.row.prog w) (ktrTop dp un gd cn cs L a ccd cl outer) (call (.ref 53) [.ref la, .float (F16 q) tx, .int 0 t0, .none]) Q E s :=
  right4_call B F X (news_dup N hm) T hk hdp hun hv hlen hb hq hs fun t h' tk' F' N' => ret t h' tk' F' (news_tail N')
theorem left_use {la : Addr} {vs : List Value} {ns : List Nat} {q : Nat} {tx : Tok} {n : Nat}
  (B : Below A₀ base outer h₀) (F : Fr h₀ L s.heap m) (X : (hd.heap_39 w.params).In h₀) (N : News h₀ L s.heap news) (T : Top hd.view_39 loose mean mg mb h₀) (hk : cs.kind = .function)
  (hdp : dp + 1 < recursionLimit) (hun : un + 8 < cLine) (hm : (la, PySem.W.listOf vs.toArray n) ∈ news)
  (hv : HuesAre vs ns) (hlen : ns.length ≤ 16) (hb : ∀ i ∈ ns, i < 16) (hq : q < 16) (hs : Climbs ns)
  (ret : ∀ (t : Tok) (h' : Heap) (tk' : Nat), Fr h₀ L h' m → News h₀ L h' news → Q (.int ((ns.countP (fun x => decide (x < q)) : Nat) : Int) t) { s with heap := h', toks := tk' }) :
   wpAny (model Challenge.rw_rl0062_01.row.prog w) (ktrTop dp un gd cn cs L a ccd cl outer) (call (.ref 62) [.ref la, .float (F16 q) tx]) Q E s :=
  left_call B F X (news_dup N hm) T hk hdp hun hv hlen hb hq hs fun t h' tk' F' N' => ret t h' tk' F' (news_tail N')
theorem insort_call {la : Addr} {vs : List Value} {ns : List Nat} {q : Nat} {tx : Tok} {n : Nat} {news' : List Value → List (Addr × Obj)}
  (B : Below A₀ base outer h₀) (F : Fr h₀ L s.heap m) (X : (hd.heap_39 w.params).In h₀) (N : News h₀ L s.heap news) (T : Top hd.view_39 loose mean mg mb h₀) (hk : cs.kind = .function)
  (hdp : dp + 2 < recursionLimit) (hun : un + 16 < cLine)
  (hU : ∀ l : List Value, Upd la (PySem.W.listOf vs.toArray n) (PySem.W.listOf l.toArray (n + 1)) news (news' l))
  (hv : HuesAre vs ns) (hlen : ns.length ≤ 16) (hb : ∀ i ∈ ns, i < 16) (hq : q < 16) (hs : Climbs ns)
  (ret : ∀ (vs' : List Value) (h' : Heap) (tk' : Nat), HuesAre vs' (insR ns q) → Fr h₀ L h' m → News h₀ L h' (news' vs') → Q .none { s with heap := h', toks := tk' }) :
   wpAny (model Challenge.rw_rl0062_01.row.prog w) (ktrTop dp un gd cn cs L a ccd cl outer) (call (.ref 44) [.ref la, .float (F16 q) tx]) Q E s := by
   w_top off
   k_with_none
   k_with "eval Constant int" => (k_here; k_dflt (refine ci_f (fun t' tk' => ?_)))
   k_with "eval Constant str" => (k_here; k_dflt (refine cs_f (fun t' tk' => ?_)))
   k_with "eval Constant float" => (k_here; k_dflt (refine cf_f (fun t' tk' => ?_)))
   k_with "binaryOp Add int int" => (k_here; k_dflt (refine ai_f (fun t' tk' => ?_)))
   k_with "binaryOp Sub int int" => (k_here; k_dflt (refine si_f (fun t' tk' => ?_)))
   k_with "binaryOp Add float float" => (k_here; k_dflt (refine af_f (fun t' tk' => ?_)))
   k_with "binaryOp Sub float float" => (k_here; k_dflt (refine sf_f (fun t' tk' => ?_)))
   k_with "binaryOp Mult float float" => (k_here; k_dflt (refine mf_f (fun t' tk' => ?_)))
   k_with "binaryOp Mod int int" => (k_here; k_dflt (refine mi_f (by decide) (fun t' tk' => ?_)))
   k_with "call ref" => (k_here; (with_reducible show wpAny _ _ (PySem.call (Value.ref 53) [Value.ref _, Value.float _ _, Value.int _ _, Value.none]) _ _ _); k_dflt (refine' right4_use (by k_asm) (by k_asm) (by k_asm) (by k_asm) (by k_asm) (by first | exact rfl | assumption) (by ktr_room) (by ktr_units) (by assumption) (by assumption) (by assumption) (by assumption) (by assumption) (by assumption) ?_; k_whole); intro t' h' tk' F' N'; (try k_sweep))
   k_with "getMethod ref" => (k_here; (with_reducible show wpAny _ _ (getMethod (Value.ref _) (PySem.Str.ofString "insert") _) _ _ _); k_dflt (refine' kl_method (by k_asm) (by assumption) PySem.F.slot_list_insert PySem.F.type_list_insert ?_))
   k_with "call builtin:list.insert" => (k_here; (with_reducible show wpAny _ _ (PySem.call (Value.builtin _) [Value.ref _, Value.int _ _, _]) _ _ _); k_dflt (refine' ins_use (by k_asm) (by k_asm) (by assumption) (by exact fits_small (by assumption)) (by assumption) ?_; k_whole); intro h' F' N'; (try k_sweep))
   have hm : (la, PySem.W.listOf vs.toArray n) ∈ news := by
     obtain ⟨pre, post, e, _⟩ := (hU []).split
     rw [e]; simp
   have hc : ns.countP (fun x => decide (x ≤ q)) ≤ 16 := Nat.le_trans List.countP_le_length hlen
   have hz : vs.toArray.toList.length ≤ sizeLine := by
     show vs.length ≤ sizeLine
     rw [hv.length, sizeLine_eq]; omega
   revert X; k_fill; intro X
   refine wpAny_call ?_
   k_dflt (refine' code_def ?k1 ?k2 ?k3 ?k4 ?k5 ?kA ?kF ?kK ?k6 ?k7 ?k8 ?k9 ?kB ?_ ?c2 ?c3 ?c4 ?c5; (case kA => exact rfl); (case kF => exact rfl); (case kK => assumption); (case k1 => k_asm); (case k2 => k_asm); (case k3 => k_asm); (case k4 => k_asm); (case k5 => k_asm); (case k6 => k_is); (case k7 => k_is); (case k8 => ktr_room); (case k9 => first | exact BindsTo.of_eq rfl | exact kp_binds (by k_in) (fun _ => rfl)); (case c5 => decide); (case kB => exact locs rfl); (case c2 => exact rfl); (case c3 => exact rfl); (case c4 => exact rfl); k_whole; intro g' L' h' FG' F' N' B' X' T'; (try dsimp only); (try k_lift B'); (try k_fold))
   rename Fr _ _ _ _ => F0
   replace F0 : Fr _ _ _ (fun y => List.lookup y [(Str.ofString "key", .none), (Str.ofString "hi", .none), (Str.ofString "lo", .int 0 242), (Str.ofString "x", .float (F16 q) tx), (Str.ofString "a", .ref la)]) := F0
   refine gen_post (fun Qf hQf => ?_)
   k_steps
   all_goals (try subst hQf)
   all_goals (try k_steps)
   all_goals exact ret _ _ _ (ins_hues hv) (by assumption) (by assumption)
end
end
section
noncomputable def W16 : List Str := [Str.ofString "OPTIMIZED", Str.ofString "NEWLOCALS", Str.ofString "VARARGS", Str.ofString "VARKEYWORDS", Str.ofString "NESTED", Str.ofString "GENERATOR", Str.ofString "NOFREE", Str.ofString "COROUTINE",
  Str.ofString "ITERABLE_COROUTINE", Str.ofString "ASYNC_GENERATOR", Str.ofString "0x400", Str.ofString "0x800", Str.ofString "0x1000", Str.ofString "0x2000", Str.ofString "0x4000", Str.ofString "0x8000"]
noncomputable def wordOf (i : Nat) : Str := W16.getD i (Str.ofString "")
noncomputable def wordsTo (f i : Nat) : List Str := ((List.range i).filter fun j => f / 2 ^ j % 2 == 1).map wordOf
noncomputable abbrev pf (m : Str → Option Value) (fl : Int) (tf : Tok) (vi vf : Option Value) : Str → Option Value :=
  fun y => if y = Str.ofString "flags" then some (.int fl tf) else if y = Str.ofString "i" then vi else if y = Str.ofString "flag" then vf else m y
noncomputable def PfJ (m : Str → Option Value) (news : List (Addr × Obj)) (nl : Addr) (f : Nat) (i : Nat) (m₁ : Str → Option Value) (news₁ : List (Addr × Obj)) : Prop :=
  ∃ vs k tf vi vf, m₁ = pf m (((f / 2 ^ i * 2 ^ i : Nat) : Int)) tf vi vf ∧ news₁ = (nl, PySem.W.listOf vs.toArray k) :: news ∧ StrsAre vs (wordsTo f i) ∧ (f = 0 ∨ f / 2 ^ i ≠ 0)
section
variable {prog : Program} {w : World} {A : Around} {E : Value → Shared → Prop} {s : Shared} {env : Env} {h₀ : Heap} {px : Pos} {body orelse : List Stmt} {Q : Flow → Shared → Prop}
theorem iter_pf {r nl : Addr} {t₀ u₀ v₀ tf₀ : Tok} {k₀ : Nat} {m₀ : Str → Option Value} {news : List (Addr × Obj)} {f : Nat}
    (hh : A.handled = none) (hx : env.kindOf (Str.ofString "i") = some .local) (hp : (env.scope.kind == .class || (env.scope.kind == .module && env.locals != env.globals)) = false)
    (hr : IsRange s.heap r 0 32 1 t₀ u₀ v₀) (F : Fr h₀ env.locals s.heap m₀) (N : News h₀ env.locals s.heap ((nl, PySem.W.listOf #[] k₀) :: news)) (hm : m₀ (Str.ofString "flags") = some (.int (f : Int) tf₀))
    (turn : ∀ (I : Addr) (i : Nat) t h tk vs k tf vi vf, i < 32 → StrsAre vs (wordsTo f i) → (f = 0 ∨ f / 2 ^ i ≠ 0) → (∀ p ∈ (nl, PySem.W.listOf vs.toArray k) :: news, p.1 ≠ I) →
      Fr h₀ env.locals h (fun y => if y = Str.ofString "i" then some (.int (i : Int) t) else pf m₀ (((f / 2 ^ i * 2 ^ i : Nat) : Int)) tf vi vf y) →
      News h₀ env.locals h ((I, itR ((i + 1 : Nat) : Int) (((32 : Nat) : Int) - ((i + 1 : Nat) : Int))) :: (nl, PySem.W.listOf vs.toArray k) :: news) →
      wpAny (model prog w) A (execs body env) (UnrPost h₀ env.locals { s with heap := h, toks := tk } I (itR ((i + 1 : Nat) : Int) (((32 : Nat) : Int) - ((i + 1 : Nat) : Int))) (PfJ m₀ news nl f (i + 1)) Q) E { s with heap := h, toks := tk })
    (done : ∀ h tk vs k tf vi vf, StrsAre vs (wordsTo f 32) → (f = 0 ∨ f / 2 ^ 32 ≠ 0) → Fr h₀ env.locals h (pf m₀ (((f / 2 ^ 32 * 2 ^ 32 : Nat) : Int)) tf vi vf) → News h₀ env.locals h ((nl, PySem.W.listOf vs.toArray k) :: news) → wpAny (model prog w) A (execs orelse env) Q E { s with heap := h, toks := tk })
    (hE : PassesOwn (model prog w) A env E) :
    wpAny (model prog w) A (pyIter (.ref r)) (fun it s₂ => codeAny (model prog w) A (.forLoop (.Name (Str.ofString "i") px) it body orelse env) (fun r s' => match r with | .ok f => Q f s' | .error e => cameBackBy (model prog w) A env E e s') s₂) E s := by
  refine iter_else (n := 32) (fun _ => PfJ m₀ news nl f) hh hx hp hr (by decide) (by decide) F N (fun _ _ => ?_) ?_ ?_ hE
  · refine ⟨[], k₀, tf₀, m₀ (Str.ofString "i"), m₀ (Str.ofString "flag"), ?_, rfl, .nil, ?_⟩
    · funext y
      by_cases e1 : y = Str.ofString "flags"
      · subst e1; simp only [pf, if_true, Nat.pow_zero, Nat.div_one, Nat.mul_one]; exact hm
      · by_cases e2 : y = Str.ofString "i"
        · subst e2; simp only [pf, if_neg e1, if_true]
        · by_cases e3 : y = Str.ofString "flag"
          · subst e3; simp only [pf, if_neg e1, if_neg e2, if_true]
          · simp only [pf, if_neg e1, if_neg e2, if_neg e3]
    · rw [Nat.pow_zero, Nat.div_one]; omega
  · rintro I i t h tk m₁ news₁ hi ⟨vs, k, tf, vi, vf, rfl, rfl, hs, hf⟩ off F₁ N₁
    exact turn I i t h tk vs k tf vi vf hi hs hf off F₁ N₁
  · rintro I h tk m₁ news₁ ⟨vs, k, tf, vi, vf, rfl, rfl, hs, hf⟩ F₁ N₁
    exact done h tk vs k tf vi vf hs hf F₁ N₁
end

noncomputable def flagTab : List (Int × PyData) := [(1, PyData.str (Str.ofString "OPTIMIZED")), (2, PyData.str (Str.ofString "NEWLOCALS")), (4, PyData.str (Str.ofString "VARARGS")), (8, PyData.str (Str.ofString "VARKEYWORDS")), (16, PyData.str (Str.ofString "NESTED")), (32, PyData.str (Str.ofString "GENERATOR")), (64, PyData.str (Str.ofString "NOFREE")), (128, PyData.str (Str.ofString "COROUTINE")), (256, PyData.str (Str.ofString "ITERABLE_COROUTINE")), (512, PyData.str (Str.ofString "ASYNC_GENERATOR"))]
section
variable {prog : Program} {w : World} {A : Around} {E : Value → Shared → Prop} {s : Shared} {h₀ : Heap} {L : Addr} {m : Str → Option Value} {t u : Tok} {f i : Nat}
theorem two_nat (i : Nat) : ((2 ^ i : Nat) : Int) = (2 : Int) ^ i := by rw [Int.natCast_pow]; rfl
theorem shl_use {Q : Value → Shared → Prop} (hi : i < 32) (h : ∀ t k, Q (.int ((2 ^ i : Nat) : Int) t) { s with toks := k }) : wpAny (model prog w) A (binaryOp .LShift (.int 1 t) (.int (i : Int) u)) Q E s := by
  refine lshift_int_small (by omega) (by omega) (by decide) ?_
  have e : (1 : Int) * 2 ^ (i : Int).toNat = ((2 ^ i : Nat) : Int) := by rw [two_nat, Int.toNat_natCast, Int.one_mul]
  rw [e]; exact h _ _
theorem and_is : Builtin.bitAnd ((f / 2 ^ i * 2 ^ i : Nat) : Int) ((2 ^ i : Nat) : Int) = ((f / 2 ^ i % 2 * 2 ^ i : Nat) : Int) := by
  rw [two_nat, kbt_bit, ← two_nat]
  have e : ((f / 2 ^ i * 2 ^ i : Nat) : Int) / ((2 ^ i : Nat) : Int) = ((f / 2 ^ i : Nat) : Int) := by
    rw [← Int.natCast_ediv, Nat.mul_div_cancel _ (Nat.two_pow_pos i)]
  rw [e, Int.natCast_mul, Int.natCast_emod]
  rfl
theorem and_use {Q : Value → Shared → Prop} (h : ∀ t k, Q (.int ((f / 2 ^ i % 2 * 2 ^ i : Nat) : Int) t) { s with toks := k }) : wpAny (model prog w) A (binaryOp .BitAnd (.int ((f / 2 ^ i * 2 ^ i : Nat) : Int) t) (.int ((2 ^ i : Nat) : Int) u)) Q E s := by
  refine and_int ?_
  rw [and_is]; exact h _ _
theorem next_odd (hb : f / 2 ^ i % 2 = 1) : f / 2 ^ i * 2 ^ i = f / 2 ^ (i + 1) * 2 ^ (i + 1) + 2 ^ i := by
  have e : f / 2 ^ (i + 1) = f / 2 ^ i / 2 := by rw [Nat.pow_succ, Nat.div_div_eq_div_mul]
  rw [e, Nat.pow_succ]
  generalize f / 2 ^ i = g at hb ⊢
  have eg : g = 2 * (g / 2) + 1 := by omega
  generalize 2 ^ i = k
  calc g * k = (2 * (g / 2) + 1) * k := by rw [← eg]
    _ = g / 2 * (k * 2) + k := by rw [Nat.add_mul, Nat.one_mul]; congr 1; rw [Nat.mul_comm k 2, ← Nat.mul_assoc, Nat.mul_comm 2]
theorem next_even (hb : f / 2 ^ i % 2 = 0) : f / 2 ^ i * 2 ^ i = f / 2 ^ (i + 1) * 2 ^ (i + 1) := by
  have e : f / 2 ^ (i + 1) = f / 2 ^ i / 2 := by rw [Nat.pow_succ, Nat.div_div_eq_div_mul]
  rw [e, Nat.pow_succ]
  generalize f / 2 ^ i = g at hb ⊢
  have eg : g = 2 * (g / 2) := by omega
  generalize 2 ^ i = k
  calc g * k = (2 * (g / 2)) * k := by rw [← eg]
    _ = g / 2 * (k * 2) := by rw [Nat.mul_comm k 2, ← Nat.mul_assoc, Nat.mul_comm 2]
theorem xor_use {Q : Value → Shared → Prop} (hb : f / 2 ^ i % 2 = 1) (h : ∀ t k, Q (.int ((f / 2 ^ (i + 1) * 2 ^ (i + 1) : Nat) : Int) t) { s with toks := k }) :
    wpAny (model prog w) A (inplaceOp .BitXor (.int ((f / 2 ^ i * 2 ^ i : Nat) : Int) t) (.int ((2 ^ i : Nat) : Int) u)) Q E s := by
  refine ixor_int ?_
  have e : Builtin.bitXor ((f / 2 ^ i * 2 ^ i : Nat) : Int) ((2 ^ i : Nat) : Int) = ((f / 2 ^ (i + 1) * 2 ^ (i + 1) : Nat) : Int) := by
    rw [bitXor_and, and_is, hb, next_odd hb]
    rw [Nat.one_mul]
    omega
  rw [e]; exact h _ _
theorem hex_len : ∀ i < 16, (baseText "0x" 16 ((2 ^ i : Nat) : Int)).length ≤ 100 := by decide +kernel
theorem hex_use {Q : Value → Shared → Prop} (hi : i < 16) (h : ∀ t k, Q (.str (baseText "0x" 16 ((2 ^ i : Nat) : Int)) t) { s with toks := k }) : wpAny (model prog w) A (call (.builtin "hex") [.int ((2 ^ i : Nat) : Int) t]) Q E s :=
  P.hex_of_int (h _ _) (by have := hex_len i hi; rw [sizeLine_eq]; omega)
theorem tab_word : ∀ i < 16, (PySem.Spec.lookup (.int ((2 ^ i : Nat) : Int)) (flagTab.map fun p => (PyData.int p.1, p.2))).getD (.str (baseText "0x" 16 ((2 ^ i : Nat) : Int))) = .str (wordOf i) := by
  intro i hi
  rcases lt16 i hi with rfl | rfl | rfl | rfl | rfl | rfl | rfl | rfl | rfl | rfl | rfl | rfl | rfl | rfl | rfl | rfl <;> with_unfolding_all rfl
theorem get_use {Q : Value → Shared → Prop} (X : (hd.heap_39 w.params).In h₀) (F : Fr h₀ L s.heap m) (hi : i < 16) (h : ∀ t k, Q (.str (wordOf i) t) { s with toks := k }) :
    wpAny (model prog w) A (call (.builtin "dict.get") [.ref 63, .int ((2 ^ i : Nat) : Int) t, .str (baseText "0x" 16 ((2 ^ i : Nat) : Int)) u]) Q E s := by
  have K : KTD.Keyed h₀ 63 flagTab := kt_keyed_in X (by with_unfolding_all rfl)
  refine call_get2_intTab (K.keep F.keep prog w) (PyProof.V.Flat.str _ _) fun v hv => ?_
  rw [tab_word i hi] at hv
  obtain ⟨t, rfl⟩ := PyProof.V.Flat.str_inv hv
  exact h _ _
end
theorem bit_on {f i : Nat} (h : ((f / 2 ^ i % 2 * 2 ^ i : Nat) : Int) ≠ 0) : f / 2 ^ i % 2 = 1 := by
  rcases Nat.mod_two_eq_zero_or_one (f / 2 ^ i) with e | e
  · rw [e, Nat.zero_mul] at h; exact absurd rfl h
  · exact e
theorem bit_off {f i : Nat} (h : ((f / 2 ^ i % 2 * 2 ^ i : Nat) : Int) = 0) : f / 2 ^ i % 2 = 0 := by
  rcases Nat.mod_two_eq_zero_or_one (f / 2 ^ i) with e | e
  · exact e
  · rw [e, Nat.one_mul] at h
    have := Nat.two_pow_pos i
    omega
theorem bit_lt {f i : Nat} (hf : f < 65536) (hb : f / 2 ^ i % 2 = 1) : i < 16 := by
  rcases Nat.lt_or_ge i 16 with h | h
  · exact h
  · have : f < 2 ^ i := Nat.lt_of_lt_of_le hf (Nat.le_trans (by decide) (Nat.pow_le_pow_right (by decide) h))
    rw [Nat.div_eq_of_lt this] at hb; cases hb
theorem strs_length {vs : List Value} {ys : List Str} (h : StrsAre vs ys) : vs.length = ys.length := by
  induction h with
  | nil => rfl
  | cons _ _ _ ih => exact congrArg (· + 1) ih
theorem words_size {vs : List Value} {f i : Nat} (h : StrsAre vs (wordsTo f i)) (hi : i < 33) : vs.toArray.size ≤ sizeLine := by
  have e : (wordsTo f i).length ≤ i := by
    unfold wordsTo
    rw [List.length_map]
    exact Nat.le_trans (List.length_filter_le _ _) (by rw [List.length_range]; exact Nat.le_refl _)
  rw [List.size_toArray, strs_length h, sizeLine_eq]; omega
theorem strs_append {vs vs' : List Value} {ys ys' : List Str} (h : StrsAre vs ys) (h' : StrsAre vs' ys') : StrsAre (vs ++ vs') (ys ++ ys') := by
  induction h with
  | nil => exact h'
  | cons y t _ ih => exact .cons y t ih
theorem words_on {f i : Nat} (hb : f / 2 ^ i % 2 = 1) : wordsTo f (i + 1) = wordsTo f i ++ [wordOf i] := by
  unfold wordsTo
  rw [List.range_succ, List.filter_append, List.map_append]
  simp [hb]
theorem words_off {f i : Nat} (hb : f / 2 ^ i % 2 = 0) : wordsTo f (i + 1) = wordsTo f i := by
  unfold wordsTo
  rw [List.range_succ, List.filter_append, List.map_append]
  simp [hb]
theorem word_len : ∀ i < 17, (wordOf i).length ≤ 100 := by decide +kernel
theorem wordOf_len (i : Nat) : (wordOf i).length ≤ 100 := by
  rcases Nat.lt_or_ge i 17 with h | h
  · exact word_len i h
  · have : wordOf i = wordOf 16 := by
      unfold wordOf
      rw [List.getD_eq_getElem?_getD, List.getD_eq_getElem?_getD, List.getElem?_eq_none (by show 16 ≤ i; omega)]
      rfl
    rw [this]; exact word_len 16 (by decide)
theorem words_len {f i : Nat} : ∀ w ∈ wordsTo f i, w.length ≤ 100 := by
  intro w hw
  unfold wordsTo at hw
  obtain ⟨j, _, rfl⟩ := List.mem_map.mp hw
  exact wordOf_len j
theorem words_count {f i : Nat} : (wordsTo f i).length ≤ i := by
  unfold wordsTo
  rw [List.length_map]
  exact Nat.le_trans (List.length_filter_le _ _) (by rw [List.length_range]; exact Nat.le_refl _)
theorem words_stay {f : Nat} : ∀ (d i : Nat), f / 2 ^ i = 0 → wordsTo f (i + d) = wordsTo f i
  | 0, i, _ => rfl
  | d + 1, i, h => by
    have e : f / 2 ^ (i + d) = 0 := by rw [Nat.pow_add, ← Nat.div_div_eq_div_mul, h, Nat.zero_div]
    rw [← Nat.add_assoc, words_off (by rw [e]), words_stay d i h]
theorem sum_len : ∀ {ys : List Str}, (∀ w ∈ ys, w.length ≤ 100) → (ys.map (·.length)).sum ≤ 100 * ys.length
  | [], _ => by simp
  | y :: r, h => by
    have := sum_len (ys := r) fun w hw => h w (List.mem_cons_of_mem _ hw)
    have := h y List.mem_cons_self
    simp only [List.map_cons, List.sum_cons, List.length_cons]; omega
section
variable {prog : Program} {w : World} {A : Around} {E : Value → Shared → Prop} {s s₁ : Shared} {h₀ h' : Heap} {L D I nl : Addr} {m : Str → Option Value} {news : List (Addr × Obj)} {it : Obj} {fl fl' : Int} {tf t t' : Tok} {v1 v2 : Value} {vi vf : Option Value} {vs : List Value} {f i k tk : Nat}
theorem join_use {its : Array Value} {n : Nat} {ys : List Str} {sep : Str} {Q : Value → Shared → Prop} (N : News h₀ L s.heap news) (hm : (D, PySem.W.listOf its n) ∈ news) (hi : StrsAre its.toList ys) (hb : ∀ w ∈ ys, w.length ≤ 100) (hl : ys.length ≤ 40) (hs : sep.length ≤ 64)
    (h : ∀ t k, Q (.str (Txt.join sep ys) t) { s with toks := k }) : wpAny (model prog w) A (call (.builtin "str.join") [.str sep t, .ref D]) Q E s :=
  join_listC ⟨_, (N _ hm).1, rfl, n, rfl⟩ hi hs (by have := sum_len hb; omega) h
theorem pf_on (F : Fr h₀ L h' (fun y => if y = Str.ofString "flags" then some (.int ((f / 2 ^ (i + 1) * 2 ^ (i + 1) : Nat) : Int) t') else if y = Str.ofString "flag" then some v2 else if y = Str.ofString "i" then some v1 else pf m fl tf vi vf y))
    (N : News h₀ L h' ((I, it) :: (nl, PySem.W.listOf (vs.toArray.push (.str (wordOf i) t)) k) :: news)) {o9 : Obj} (off : ∀ p ∈ (nl, o9) :: news, p.1 ≠ I) (hs : StrsAre vs (wordsTo f i)) (hb : f / 2 ^ i % 2 = 1)
    (hn : ((f / 2 ^ (i + 1) * 2 ^ (i + 1) : Nat) : Int) ≠ 0) : UnrEnd h₀ L s₁ I it (PfJ m news nl f (i + 1)) { s₁ with heap := h', toks := tk } := by
  refine unr_0 F N (fun p hp => ?_) ⟨vs ++ [.str (wordOf i) t], k, t', some v1, some v2, ?_, ?_, ?_, .inr fun e => ?_⟩
  · rcases List.mem_cons.mp hp with rfl | hp
    · exact off (nl, o9) List.mem_cons_self
    · exact off p (List.mem_cons_of_mem _ hp)
  · funext y
    by_cases e1 : y = Str.ofString "flags"
    · subst e1; rfl
    · by_cases e2 : y = Str.ofString "flag"
      · subst e2; rfl
      · by_cases e3 : y = Str.ofString "i"
        · subst e3; rfl
        · simp only [pf, if_neg e1, if_neg e2, if_neg e3]
  · simp
  · rw [words_on hb]; exact strs_append hs (.cons _ _ .nil)
  · rw [e, Nat.zero_mul] at hn; exact hn rfl
theorem pf_off (F : Fr h₀ L h' (fun y => if y = Str.ofString "flag" then some v2 else if y = Str.ofString "i" then some v1 else pf m ((f / 2 ^ i * 2 ^ i : Nat) : Int) tf vi vf y))
    (N : News h₀ L h' ((I, it) :: (nl, PySem.W.listOf vs.toArray k) :: news)) {o9 : Obj} (off : ∀ p ∈ (nl, o9) :: news, p.1 ≠ I) (hs : StrsAre vs (wordsTo f i)) (hb : f / 2 ^ i % 2 = 0)
    (hn : f = 0 ∨ f / 2 ^ i ≠ 0) : UnrEnd h₀ L s₁ I it (PfJ m news nl f (i + 1)) { s₁ with heap := h', toks := tk } := by
  refine unr_0 F N (fun p hp => ?_) ⟨vs, k, tf, some v1, some v2, ?_, rfl, ?_, ?_⟩
  · rcases List.mem_cons.mp hp with rfl | hp
    · exact off (nl, o9) List.mem_cons_self
    · exact off p (List.mem_cons_of_mem _ hp)
  · rw [← next_even hb]
    funext y
    by_cases e1 : y = Str.ofString "flags"
    · subst e1; rfl
    · by_cases e2 : y = Str.ofString "flag"
      · subst e2; rfl
      · by_cases e3 : y = Str.ofString "i"
        · subst e3; rfl
        · simp only [pf, if_neg e1, if_neg e2, if_neg e3]
  · rw [words_off hb]; exact hs
  · rcases hn with e | e
    · exact .inl e
    · refine .inr fun e' => e ?_
      have q : f / 2 ^ (i + 1) = f / 2 ^ i / 2 := by rw [Nat.pow_succ, Nat.div_div_eq_div_mul]
      omega
end
theorem words_all {f i : Nat} (hf : f < 65536) (hb : f / 2 ^ i % 2 = 1) (h : ((f / 2 ^ (i + 1) * 2 ^ (i + 1) : Nat) : Int) = 0) : wordsTo f i ++ [wordOf i] = (if f = 0 then [Str.ofString "0x0"] else wordsTo f 16) := by
  have hi := bit_lt hf hb
  have e : f / 2 ^ (i + 1) = 0 := by
    have := Nat.two_pow_pos (i + 1)
    have h' : f / 2 ^ (i + 1) * 2 ^ (i + 1) = 0 := by omega
    rcases Nat.mul_eq_zero.mp h' with q | q
    · exact q
    · omega
  have f0 : f ≠ 0 := by rintro rfl; rw [Nat.zero_div] at hb; cases hb
  rw [if_neg f0, ← words_on hb, show 16 = (i + 1) + (15 - i) by omega, words_stay _ _ e]
theorem zero_of {f : Nat} (hf : f < 65536) (h : f = 0 ∨ f / 2 ^ 32 ≠ 0) : f = 0 := by
  rcases h with h | h
  · exact h
  · exact absurd (Nat.div_eq_of_lt (Nat.lt_of_lt_of_le hf (by decide))) h
theorem words_none : wordsTo 0 32 = [] := by decide +kernel
theorem hex_0 : baseText "0x" 16 ((0 / 2 ^ 32 * 2 ^ 32 : Nat) : Int) = Str.ofString "0x0" := by decide +kernel
theorem strs_push {vs : List Value} {ys : List Str} {y : Str} {t : Tok} (h : StrsAre vs ys) : StrsAre (vs.toArray.push (.str y t)).toList (ys ++ [y]) := by
  have e : (vs.toArray.push (.str y t)).toList = vs ++ [.str y t] := by simp
  rw [e]; exact strs_append h (.cons _ _ .nil)
theorem len_snoc {ys : List Str} {y : Str} (h : ∀ w ∈ ys, w.length ≤ 100) (hy : y.length ≤ 100) : ∀ w ∈ ys ++ [y], w.length ≤ 100 := fun w hw => by
  rcases List.mem_append.mp hw with q | q
  · exact h w q
  · rw [List.mem_singleton.mp q]; exact hy
section
variable {w : World} {mean : ExcName → Option Value} {mg mb : Str → Option Value} {loose : List Str}
  {dp un : Nat} {gd : Option (List Code)} {cn : Str} {cs : Scope} {a : Addr} {ccd : Value} {cl : List (Str × Addr)} {outer : List Env} {A₀ : Around} {base h₀ : Heap} {L : Addr} {m : Str → Option Value} {s : Shared} {Q E : Value → Shared → Prop} {news : List (Addr × Obj)} 

theorem flags_call {f : Nat} {tx : Tok}
  (B : Below A₀ base outer h₀) (F : Fr h₀ L s.heap m) (X : (hd.heap_39 w.params).In h₀) (N : News h₀ L s.heap news) (T : Top hd.view_39 loose mean mg mb h₀) (hk : cs.kind = .function)
  (hdp : dp + 1 < recursionLimit) (hun : un + 8 < cLine) (hfl : f < 65536)
  (ret : ∀ (t : Tok) (h' : Heap) (tk' : Nat), Fr h₀ L h' m → News h₀ L h' news → Q (.str (Txt.join (Str.ofString ", ") (if f = 0 then [Str.ofString "0x0"] else wordsTo f 16)) t) { s with heap := h', toks := tk' }) :
   wpAny (model Challenge.rw_rl0062_01.row.prog w) (ktrTop dp un gd cn cs L a ccd cl outer) (call (.ref 70) [.int (f : Int) tx]) Q E s := by
   w_top off
   k_with_none
   k_with "eval Constant int" => (k_here; k_dflt (refine ci_f (fun t' tk' => ?_)))
   k_with "eval Constant str" => (k_here; k_dflt (refine cs_f (fun t' tk' => ?_)))
   k_with "eval Constant float" => (k_here; k_dflt (refine cf_f (fun t' tk' => ?_)))
   k_with "binaryOp Add int int" => (k_here; k_dflt (refine ai_f (fun t' tk' => ?_)))
   k_with "binaryOp Sub int int" => (k_here; k_dflt (refine si_f (fun t' tk' => ?_)))
   k_with "binaryOp Add float float" => (k_here; k_dflt (refine af_f (fun t' tk' => ?_)))
   k_with "binaryOp Sub float float" => (k_here; k_dflt (refine sf_f (fun t' tk' => ?_)))
   k_with "binaryOp Mult float float" => (k_here; k_dflt (refine mf_f (fun t' tk' => ?_)))
   k_with "binaryOp Mod int int" => (k_here; k_dflt (refine mi_f (by decide) (fun t' tk' => ?_)))
   k_with "exec For Name Call cons cons" => (k_here; k_dflt (refine wpAny_For ?_))
   k_with "exec For Name Call" => (k_here; k_dflt (refine wpAny_For ?_))
   k_with "binaryOp LShift int int" => (k_here; k_dflt (refine' shl_use (by assumption) ?_; k_whole); intro t' tk')
   k_with "binaryOp BitAnd int int" => (k_here; k_dflt (refine' and_use ?_; k_whole); intro t' tk')
   k_with "inplaceOp BitXor int int" => (k_here; k_dflt (refine' xor_use (by exact bit_on (by assumption)) ?_; k_whole); intro t' tk')
   k_with "call builtin:hex" => (k_here; (with_reducible show wpAny _ _ (PySem.call _ [Value.int ((2 ^ _ : Nat) : Int) _]) _ _ _); k_dflt (refine' hex_use (by exact bit_lt (by assumption) (bit_on (by assumption))) ?_; k_whole); intro t' tk')
   k_with "call builtin:dict.get" => (k_here; k_dflt (refine' get_use (by k_asm) (by k_asm) (by exact bit_lt (by assumption) (bit_on (by assumption))) ?_; k_whole); intro t' tk')
   k_with "call builtin:list.append" => (k_here; (with_reducible show wpAny _ _ (PySem.call (Value.builtin _) [Value.ref _, _]) _ _ _); k_dflt (refine' append_K (by k_asm) (by k_asm) (by k_upd) ?_ (by assumption); k_whole); intro h' F' N'; (try k_sweep))
   revert X; k_fill; intro X
   refine wpAny_call ?_
   k_dflt cell_enter
   rename Fr _ _ _ _ => F0
   replace F0 : Fr _ _ _ (fun y => List.lookup y [(Str.ofString "flags", .int (f : Int) tx)]) := F0
   refine gen_post (fun Qf hQf => ?_)
   k_steps
   k_dflt (refine' iter_pf ?hh ?hx ?hp ?hr ?F ?N ?hm ?turn ?done ?hE)
   case hE => k_dflt passes_own
   case hh => rfl
   case hx => rfl
   case hp => rfl
   case hr => assumption
   case F => k_asm
   case N => k_asm
   case hm => exact rfl
   case turn =>
     intro I i t' h' tk' vs k tf vi vf hi hs hf off F' N'
     rename ∀ p ∈ news, p.1 < _ => l1
     have l2 := allLt_of l1
     have hne := neN (off _ List.mem_cons_self)
     have hsz := words_size hs (Nat.lt_succ_of_lt hi)
     dsimp only
     refine gen_post (fun Q2 hQ2 => ?_)
     k_steps
     all_goals (try subst hQ2)
     all_goals (try k_steps)
     · exact pf_on (by assumption) (by assumption) off hs (bit_on (by assumption)) (by assumption)
     · rename ((f / 2 ^ i % 2 * 2 ^ i : Nat) : Int) ≠ 0 => hb9
       rename ((f / 2 ^ (i + 1) * 2 ^ (i + 1) : Nat) : Int) = 0 => hz9
       have hc := words_count (f := f) (i := i)
       k_dflt (refine' join_use ?N ?m (strs_push hs) (len_snoc words_len (wordOf_len i)) ?l (by decide) ?_)
       case N => k_asm
       case m => k_mem
       case l => rw [List.length_append]; simp only [List.length_singleton]; omega
       intro t9 tk9
       rw [words_all hfl (bit_on hb9) hz9]
       k_steps
       subst hQf
       k_steps
       exact ret _ _ _ (by assumption) (news_tail (news_tail (by assumption)))
     · exact pf_off (by assumption) (by assumption) off hs (bit_off (by assumption)) hf
   case done =>
     intro h' tk' vs k tf vi vf hs hf F' N'
     rename ∀ p ∈ news, p.1 < _ => l1
     have l2 := allLt_of l1
     have hsz := words_size hs (Nat.lt_succ_self 32)
     obtain rfl := zero_of hfl hf
     k_steps
     k_dflt (refine' join_use ?N ?m (strs_push hs) ?b ?l (by decide) ?_)
     case N => k_asm
     case m => k_mem
     case b => exact len_snoc words_len (by rw [hex_0]; decide)
     case l => rw [words_none]; decide
     intro t9 tk9
     rw [words_none, hex_0]
     k_steps
     subst hQf
     k_steps
     exact ret _ _ _ (by assumption) (news_tail (by assumption))
end
end
section
open LCg
section
variable {prog : Program} {w : World} {A : Around} {E : Value → Shared → Prop} {s : Shared} {h₀ : Heap} {L : Addr} {m : Str → Option Value} {env : Env}
noncomputable def TupIn (ax : Addr) (its : Array Value) (news : List (Addr × Obj)) : Prop := ∃ n, (ax, ({ cls := .type "tuple", data := .seq its n } : Obj)) ∈ news
noncomputable def TupSrc (prog : Program) (w : World) (A : Around) (h₀ : Heap) (L : Addr) (m : Str → Option Value) (env : Env) (elt : Expr) (x : Str) (scope : Scope) (cl : List (Str × Addr)) (Fin : Shared → List Value → List (Addr × Obj) → Prop) (xv : Value) (s₁ : Shared) : Prop :=
  ∃ ax its news, xv = .ref ax ∧ A.handled = none ∧ Fr h₀ L s₁.heap m ∧ News h₀ L s₁.heap news ∧ TupIn ax its news ∧ its.size ≤ sizeLine ∧
    ∀ s₂ : Shared, (∃ h, s₂ = { s₁ with heap := h }) → CompRest prog w A h₀ L m env elt x scope cl s₂ (TupIn ax its) (fun i v => its[i]? = some v) (Fin s₂) its.size 0 [] news
theorem TupSrc.ledger {elt : Expr} {x : Str} {scope : Scope} {cl : List (Str × Addr)} {Fin : Shared → List Value → List (Addr × Obj) → Prop} {ax : Addr} {l : List Value} {k : Nat} {news : List (Addr × Obj)} {s₁ : Shared}
    (hh : A.handled = none) (F : Fr h₀ L s₁.heap m) (N : News h₀ L s₁.heap news) (hm : (ax, ({ cls := .type "tuple", data := .seq l.toArray k } : Obj)) ∈ news) (hsz : l.length ≤ sizeLine)
    (h : ∀ g, CompRest prog w A h₀ L m env elt x scope cl { s₁ with heap := g } (TupIn ax l.toArray) (fun i v => l.toArray[i]? = some v) (Fin { s₁ with heap := g }) l.length 0 [] news) :
    TupSrc prog w A h₀ L m env elt x scope cl Fin (.ref ax) s₁ :=
  ⟨ax, l.toArray, news, rfl, hh, F, N, ⟨_, hm⟩, by rw [List.size_toArray]; exact hsz, fun _ ⟨g, e⟩ => by rw [e, List.size_toArray]; exact h g⟩
theorem comp_end0 {I C D : Addr} {s₁ : Shared} {oI oC oD : Obj} {S : List (Addr × Obj) → Prop} {rest : Value → List (Addr × Obj) → Prop} {y : Value} {h' : Heap} {tk : Nat} {news' : List (Addr × Obj)}
    (F : Fr h₀ L h' m) (N : News h₀ L h' ((I, oI) :: (C, oC) :: (D, oD) :: news')) (off : Off3 I C D news') (hS : S news') (r : rest y news') :
    CompEnd h₀ L m s₁ I oI C oC D oD S rest y { s₁ with heap := h', toks := tk } := CompEnd.intro F N news' (fun _ h => h) off hS r
theorem ListComp_tup {elt iter : Expr} {x : Str} {px : Pos} {scope : Scope} {cl : List (Str × Addr)} {pos : Pos} {Q : Value → Shared → Prop} (_F₀ : Fr h₀ L s.heap m)
    (hclos : closureFor scope env = pure cl) (hcell : ∀ y ∈ scope.names, y.2 ≠ .cell) (hkind : scope.kind = .function)
    (hnames : ∀ y ∈ scope.names, y.2 = .local → scope.names.lookup y.1 = some .local) (hx : scope.names.lookup x = some .local)
    (h : wpAny (model prog w) A (eval iter env) (TupSrc prog w A h₀ L m env elt x scope cl (fun s₂ => FinE h₀ L m s₂ Q)) E s)
    (hs : ∀ x, foldedSetIterable iter env x = pure x) :
    wpAny (model prog w) A (eval (.ListComp elt [⟨.Name x px, iter, [], 0⟩] scope pos) env) Q E s := by
  rw [eval_ListComp]
  refine wpAny_comprehension_free (use := none) rfl hs hclos hkind hnames (wpAny_mono h (fun xv s₁ h₁ => ?_) fun _ _ e => e)
  obtain ⟨ax, its, news, rfl, hh, F, N, S, hsz, R⟩ := h₁
  have hl : s₁.heap.IsTuple ax its := by obtain ⟨n, hm⟩ := S; exact ⟨_, (N _ hm).1, rfl, n, rfl⟩
  have hlt : ax < s₁.heap.objs.size := by obtain ⟨_, e, _⟩ := hl; exact Heap.lt_size e
  refine wpAny_pyIter_tuple hl ?_
  have up : ∀ b o, s₁.heap.get? b = some o → (s₁.heap.push { cls := .type "tuple_iterator", data := .fields #[.ref ax, .int 0 0] }).get? b = some o := fun b o e => Heap.get?_push_of_some _ e
  refine block_U (Walks.tuple hh s₁.heap.objs.size ax (Nat.ne_of_lt hlt) its) hsz (fun i h st => by obtain ⟨o, e, _⟩ := st.1; exact ⟨o, e⟩) (fun i h h' o nw st e e' _ N' S' => ?_) hcell hkind hx ⟨⟨_, Heap.get?_push_size _ rfl, rfl, rfl⟩, hl.push _⟩ (fun b hb => ?_)
    (F.keeps up) (N.grown up) (Nat.ne_of_lt F.ns.lt) (next_is_new F) (fun p hp => Nat.ne_of_lt (Heap.lt_size (N p hp).1)) S (R _ ⟨_, rfl⟩) ?_
  · refine ⟨?_, ?_⟩
    · obtain ⟨o', q, r⟩ := st.1
      rw [e] at q; cases q
      exact ⟨o, e', r⟩
    · obtain ⟨n, hm⟩ := S'
      exact ⟨_, (N' _ hm).1, rfl, n, rfl⟩
  · show b < (s₁.heap.push _).objs.size
    rw [Heap.size_push]
    rcases List.mem_cons.mp hb with rfl | hb
    · exact Nat.lt_succ_self _
    · rw [List.mem_singleton.mp hb]; exact Nat.lt_succ_of_lt hlt
  · intro D C h tk m' ys news' F' N' o1 hn hC₀ hD₀ hCL hDL hCD offC fin
    refine ⟨m', hn, fun h'' hs'' => fin D h'' tk (F'.change hs'' hCL hC₀) (fun p hp => ?_) o1⟩
    refine ⟨hs''.extBut _ _ ?_ (N' p hp).1, (N' p hp).2⟩
    rcases List.mem_cons.mp hp with rfl | hp
    · exact Ne.symm hCD
    · exact offC p hp
end

section
variable {prog : Program} {w : World} {A : Around} {E : Value → Shared → Prop} {s : Shared} {h₀ : Heap} {L : Addr} {m : Str → Option Value} {env : Env} {ct elt : Expr} {x : Str} {scope : Scope} {cl : List (Str × Addr)} {S : List (Addr × Obj) → Prop} {P : Nat → Value → Prop} {Fin : List Value → List (Addr × Obj) → Prop} {n : Nat} {news : List (Addr × Obj)}
theorem CompEnd.weaken {I C D : Addr} {s₁ s₂ : Shared} {oI oC oD : Obj} {rest rest' : Value → List (Addr × Obj) → Prop} {y : Value} (h : CompEnd h₀ L m s₁ I oI C oC D oD S rest y s₂) (hr : ∀ news', rest y news' → rest' y news') : CompEnd h₀ L m s₁ I oI C oC D oD S rest' y s₂ := by
  obtain ⟨h', tk, news', e, F, N, off, hS, r⟩ := h
  exact ⟨h', tk, news', e, F, N, off, hS, hr _ r⟩
/-- what a turn of a comprehension must do, J said ahead of each turn -/
noncomputable abbrev TurnU (prog : Program) (w : World) (A : Around) (s : Shared) (h₀ : Heap) (L : Addr) (m : Str → Option Value) (env : Env) (elt : Expr) (x : Str) (scope : Scope) (cl : List (Str × Addr)) (S : List (Addr × Obj) → Prop) (P : Nat → Value → Prop) (n : Nat) (news : List (Addr × Obj)) (J : Nat → List Value → Prop) : Prop :=
  ∀ i ys, i < n → J i ys → ∀ v I oI C oC D m₂ h tk (E' : Value → Shared → Prop), P i v → NsObj oC m₂ → m₂ x = some v → Fr h₀ L h m → News h₀ L h ((I, oI) :: (C, oC) :: (D, lst ys) :: news) → Off3 I C D news → ((@Ne Nat I C) ∧ (@Ne Nat I D) ∧ (@Ne Nat C D)) →
    wpAny (model prog w) A (eval elt (compEnvC scope cl C env)) (CompEnd h₀ L m { s with heap := h, toks := tk } I oI C oC D (lst ys) S (fun y news' => news' = news ∧ J (i + 1) (ys ++ [y]))) E' { s with heap := h, toks := tk }
theorem rest_ind (J : Nat → List Value → Prop) (fin : ∀ ys, J n ys → Fin ys news) (step : TurnU prog w A s h₀ L m env elt x scope cl S P n news J) :
    ∀ k i ys, i + k = n → J i ys → CompRest prog w A h₀ L m env elt x scope cl s S P Fin k i ys news
  | 0, i, ys, e, hJ => by
    obtain rfl : i = n := by omega
    exact CompRest.zero (fin ys hJ)
  | k + 1, i, ys, e, hJ => by
    refine CompRest.succ fun v I oI C oC D m₂ h tk E' hP hC hx F N off ne => ?_
    refine wpAny_mono (step i ys (by omega) hJ v I oI C oC D m₂ h tk E' hP hC hx F N off ne) (fun y s₂ h₂ => CompEnd.weaken h₂ fun news' r => ?_) fun _ _ e => e
    rw [r.1]
    exact rest_ind J fin step k (i + 1) _ (by omega) r.2
theorem src_tup {Fin : Shared → List Value → List (Addr × Obj) → Prop} {ax : Addr} {l : List Value} {k : Nat} (J : Nat → List Value → Prop)
    (hh : A.handled = none) (F : Fr h₀ L s.heap m) (N : News h₀ L s.heap news) (hm : (ax, ({ cls := .type "tuple", data := .seq l.toArray k } : Obj)) ∈ news) (hsz : l.length ≤ sizeLine) (hJ : J 0 [])
    (fin : ∀ g ys, J l.length ys → Fin { s with heap := g } ys news) (step : ∀ g, TurnU prog w A { s with heap := g } h₀ L m env elt x scope cl (TupIn ax l.toArray) (fun i v => l[i]? = some v) l.length news J) :
    TupSrc prog w A h₀ L m env elt x scope cl Fin (.ref ax) s := by
  refine TupSrc.ledger hh F N hm hsz fun g => ?_
  refine rest_ind J (fin g) ?_ l.length 0 [] (by omega) hJ
  intro i ys hi hJ v I oI C oC D m₂ h tk E' hP
  exact step g i ys hi hJ _ I oI C oC D m₂ h tk E' (by simpa using hP)
end
theorem four_int {a b c d : Int} {ta tb tc td : Tok} {i : Nat} {v : Value} (e : [Value.int a ta, .int b tb, .int c tc, .int d td][i]? = some v) : ∃ z t, v = .int z t := by
  rcases i with _ | _ | _ | _ | i
  · exact ⟨_, _, (Option.some.inj e).symm⟩
  · exact ⟨_, _, (Option.some.inj e).symm⟩
  · exact ⟨_, _, (Option.some.inj e).symm⟩
  · exact ⟨_, _, (Option.some.inj e).symm⟩
  · cases e
/-- ints below 16 -/
noncomputable def PlJ (i : Nat) (ys : List Value) : Prop := ∃ l : List (Int × Tok), ys = l.map (fun p => Value.int p.1 p.2) ∧ l.length = i ∧ ∀ p ∈ l, 0 ≤ p.1 ∧ p.1 < 16
theorem plj_0 : PlJ 0 [] := ⟨[], rfl, rfl, fun _ h => nomatch h⟩
theorem plj_snoc {i : Nat} {ys : List Value} {z : Int} {t : Tok} (h : PlJ i ys) (hz : 0 ≤ z ∧ z < 16) : PlJ (i + 1) (ys ++ [.int z t]) := by
  obtain ⟨l, rfl, rfl, hl⟩ := h
  refine ⟨l ++ [(z, t)], by rw [List.map_append]; rfl, by rw [List.length_append]; rfl, fun p hp => ?_⟩
  rcases List.mem_append.mp hp with hp | hp
  · exact hl p hp
  · rw [List.mem_singleton.mp hp]; exact hz
theorem plj_4 {ys : List Value} (h : PlJ 4 ys) : ∃ (p0 p1 p2 p3 : Int) (t0 t1 t2 t3 : Tok), ys = [.int p0 t0, .int p1 t1, .int p2 t2, .int p3 t3] ∧ (0 ≤ p0 ∧ p0 < 16) ∧ (0 ≤ p1 ∧ p1 < 16) ∧ (0 ≤ p2 ∧ p2 < 16) ∧ (0 ≤ p3 ∧ p3 < 16) := by
  obtain ⟨l, rfl, hl, hp⟩ := h
  match l, hl with
  | [a, b, c, d], _ => exact ⟨_, _, _, _, _, _, _, _, rfl, hp a (.head _), hp b (.tail _ (.head _)), hp c (.tail _ (.tail _ (.head _))), hp d (.tail _ (.tail _ (.tail _ (.head _))))⟩
theorem fm16 (k : Int) : 0 ≤ k.fmod 16 ∧ k.fmod 16 < 16 := by rw [Int.fmod_eq_emod_of_nonneg _ (by decide)]; omega
section
variable {prog : Program} {w : World} {A : Around} {E : Value → Shared → Prop} {s : Shared} {Q : Value → Shared → Prop} {n k : Int} {t u : Tok} {h₀ : Heap} {L : Addr} {m : Str → Option Value} {news : List (Addr × Obj)}
theorem min_len {c : Nat} (hh : A.handled = none) (F : Fr h₀ L s.heap m) (N : News h₀ L s.heap news)
    (h : ∀ h' tk v, Fr h₀ L h' m → News h₀ L h' news → Q (.int ((min 3 c : Nat) : Int) v) { s with heap := h', toks := tk }) : wpAny (model prog w) A (call (.builtin "min") [.int 3 t, .int (c : Int) u]) Q E s :=
  min_two_N hh F N fun h' tk F' N' => by
    have e : (if (c : Int) < 3 then (c : Int) else 3) = ((min 3 c : Nat) : Int) := by split <;> omega
    rw [e]; exact h h' tk _ F' N'
theorem len_script {sl : Addr} {vs : List Value} {ns : List Int} (F : Fr h₀ L s.heap m) (hl : h₀.IsList sl vs.toArray) (hi : IntsAre vs ns) (hle : ns.length ≤ 63) (h : ∀ t k, Q (.int (ns.length : Int) t) { s with toks := k }) :
    wpAny (model prog w) A (call (.builtin "len") [.ref sl]) Q E s := by
  have e : (vs.toArray.size : Int) = (ns.length : Int) := by rw [List.size_toArray, hi.length]
  refine PyProof.Rows.len_list (hl.at fun o e => F.keep _ o e) (by rw [e]; omega) ?_
  rw [e]
  exact h _ _
end
section
variable {w : World} {mean : ExcName → Option Value} {mg mb : Str → Option Value} {loose : List Str}
  {dp un : Nat} {gd : Option (List Code)} {cn : Str} {cs : Scope} {a : Addr} {ccd : Value} {cl : List (Str × Addr)} {outer : List Env} {A₀ : Around} {base h₀ : Heap} {L : Addr} {m : Str → Option Value} {s : Shared} {Q E : Value → Shared → Prop} {news : List (Addr × Obj)} 

theorem places_call {x : Int} {tx : Tok}
  (B : Below A₀ base outer h₀) (F : Fr h₀ L s.heap m) (X : (hd.heap_39 w.params).In h₀) (N : News h₀ L s.heap news) (T : Top hd.view_39 loose mean mg mb h₀) (hk : cs.kind = .function)
  (hdp : dp + 2 < recursionLimit) (hun : un + 16 < cLine)
  (ret : ∀ (D : Addr) (p0 p1 p2 p3 : Int) (t0 t1 t2 t3 : Tok) (n : Nat) (h' : Heap) (tk' : Nat), (0 ≤ p0 ∧ p0 < 16) → (0 ≤ p1 ∧ p1 < 16) → (0 ≤ p2 ∧ p2 < 16) → (0 ≤ p3 ∧ p3 < 16) → Fr h₀ L h' m → News h₀ L h' ((D, PySem.W.listOf #[.int p0 t0, .int p1 t1, .int p2 t2, .int p3 t3] n) :: news) → Off1 D news → Q (.ref D) { s with heap := h', toks := tk' }) :
   wpAny (model Challenge.rw_rl0062_01.row.prog w) (ktrTop dp un gd cn cs L a ccd cl outer) (call (.ref 82) [.int x tx]) Q E s := by
   w_top off
   k_with_none
   k_with "eval Constant int" => (k_here; k_dflt (refine ci_f (fun t' tk' => ?_)))
   k_with "eval Constant str" => (k_here; k_dflt (refine cs_f (fun t' tk' => ?_)))
   k_with "eval Constant float" => (k_here; k_dflt (refine cf_f (fun t' tk' => ?_)))
   k_with "binaryOp Add int int" => (k_here; k_dflt (refine ai_f (fun t' tk' => ?_)))
   k_with "binaryOp Sub int int" => (k_here; k_dflt (refine si_f (fun t' tk' => ?_)))
   k_with "binaryOp Add float float" => (k_here; k_dflt (refine af_f (fun t' tk' => ?_)))
   k_with "binaryOp Sub float float" => (k_here; k_dflt (refine sf_f (fun t' tk' => ?_)))
   k_with "binaryOp Mult float float" => (k_here; k_dflt (refine mf_f (fun t' tk' => ?_)))
   k_with "binaryOp Mod int int" => (k_here; k_dflt (refine mi_f (by decide) (fun t' tk' => ?_)))
   k_with "eval ListComp" => (k_here; k_dflt (refine ListComp_tup (_F₀ := by k_asm) (by with_unfolding_all rfl) (by decide) (by rfl) (by decide) (by rfl) ?_ (fun _ => rfl)))
   k_with "TupSrc" => (k_here; k_dflt (refine' src_tup PlJ (by rfl) (by k_asm) (by k_asm) (by k_mem) (by exact Nat.le_of_ble_eq_true rfl) (by exact plj_0) (fun g' ys' hs' => ?_) (fun g' i' ys' hi' hs' v' I' oI' C' oC' D' m' h' tk' E' hP' hC' hx' F' N' off' ne' => ?_); rotate_left; (obtain ⟨z', t9', hv9'⟩ := four_int hP'); subst hv9'; rotate_left; (obtain ⟨p0', p1', p2', p3', t0', t1', t2', t3', hy', q0', q1', q2', q3'⟩ := plj_4 hs'); subst hy'; rotate_left))
   k_with "CompEnd" => (k_here; k_dflt (refine' comp_end0 (by k_asm) (by k_asm) (by assumption) (by first | exact trivial | exact ⟨_, by k_mem⟩) ?_; k_whole); (try simp only [List.nil_append, List.cons_append]))
   k_with "storeName" => (k_here; dsimp only; walk_at "storeName")
   revert X; k_fill; intro X
   refine wpAny_call ?_
   k_dflt (refine' code_defC ?k1 ?k2 ?k3 ?k4 ?k5 ?kA ?kF ?kK ?k6 ?k7 ?k8 ?k9 ?kB ?kD ?_ ?c2 ?c3 ?c4; (case kA => exact rfl); (case kF => exact rfl); (case kK => assumption); (case k1 => k_asm); (case k2 => k_asm); (case k3 => k_asm); (case k4 => k_asm); (case k5 => k_asm); (case k6 => k_is); (case k7 => k_is); (case k8 => ktr_room); (case k9 => exact BindsTo.of_eq rfl); (case kB => exact rfl); (case kD => decide +kernel); (case c2 => exact rfl); (case c3 => exact rfl); (case c4 => exact rfl); k_whole; intro g' L' h' tk' cells' FG' F' N' Y' B' X' T' l1; (try k_lt l1); k_cells Y'; (try simp only [List.cons_append, List.nil_append] at N'); (try dsimp only); (try k_lift B'); (try k_fold))
   rename Fr _ _ _ _ => F0
   replace F0 : Fr _ _ _ (fun _ => none) := F0
   refine gen_post (fun Qf hQf => ?_)
   k_steps
   all_goals (try subst hQf)
   all_goals (try k_steps)
   all_goals first
     | exact ⟨rfl, plj_snoc (by assumption) (fm16 _)⟩
     | exact plj_snoc (by assumption) (fm16 _)
     | (rename _ ≠ _ ∧ _ ≠ _ ∧ Off1 _ _ => o9
        refine ret _ _ _ _ _ _ _ _ _ _ _ _ ?_ ?_ ?_ ?_ (by assumption) (news_swap (news_swap (by assumption))) o9.2.2 <;> assumption)
     | exact True.intro


end
noncomputable abbrev nkm (m : Str → Option Value) (v : Option Value) : Str → Option Value := fun y => if y = Str.ofString "k" then v else m y
theorem nkm_0 (m : Str → Option Value) : m = nkm m (m (Str.ofString "k")) := by
  funext y
  by_cases e : y = Str.ofString "k"
  · subst e; simp only [nkm, if_true]
  · simp only [nkm, if_neg e]
theorem nkm_k {m : Str → Option Value} {v : Option Value} {x : Value} : (fun y => if y = Str.ofString "k" then some x else nkm m v y) = nkm m (some x) := by
  funext y
  by_cases e : y = Str.ofString "k"
  · subst e; simp only [nkm, if_true]
  · simp only [nkm, if_neg e]
theorem lt3 : ∀ i : Nat, i < 3 → i = 0 ∨ i = 1 ∨ i = 2 := by decide
theorem range_3 : ∀ i : Nat, i < 4 → Builtin.Range.small 0 (i : Int) 1 = true ∧ Builtin.Range.rangeSize 0 (i : Int) 1 = (i : Int) := by decide +kernel
section
variable {prog : Program} {w : World} {A : Around} {E : Value → Shared → Prop} {s : Shared} {env : Env} {h₀ : Heap} {L : Addr} {m : Str → Option Value} {px : Pos} {body : List Stmt}
noncomputable abbrev l3 (n0 n1 n2 : Int) (t0 t1 t2 : Tok) (k : Nat) : Obj := PySem.W.listOf #[.int n0 t0, .int n1 t1, .int n2 t2] k
noncomputable def NumJ (m₀ : Str → Option Value) (D : Addr) (news : List (Addr × Obj)) (I : Addr) (m₁ : Str → Option Value) (news₁ : List (Addr × Obj)) : Prop :=
  ∃ n0 n1 n2 t0 t1 t2 k v, m₁ = nkm m₀ v ∧ news₁ = (D, l3 n0 n1 n2 t0 t1 t2 k) :: news ∧ (@Ne Nat D I) ∧ ∀ p ∈ news, p.1 ≠ I
theorem iter_num {r D : Addr} {c : Nat} {t₀ u₀ v₀ a0 a1 a2 : Tok} {z0 z1 z2 : Int} {k₀ : Nat} {m₀ : Str → Option Value} {news : List (Addr × Obj)} {Q : Flow → Shared → Prop}
    (hh : A.handled = none) (hx : env.kindOf (Str.ofString "k") = some .local) (hp : (env.scope.kind == .class || (env.scope.kind == .module && env.locals != env.globals)) = false)
    (hc : c < 4) (hr : IsRange s.heap r 0 (c : Int) 1 t₀ u₀ v₀) (F : Fr h₀ env.locals s.heap m₀) (N : News h₀ env.locals s.heap ((D, l3 z0 z1 z2 a0 a1 a2 k₀) :: news))
    (turn : ∀ (I : Addr) (i : Nat) t h tk n0 n1 n2 t0 t1 t2 k, i < c → (@Ne Nat D I) → (∀ p ∈ news, p.1 ≠ I) → Fr h₀ env.locals h (nkm m₀ (some (.int (i : Int) t))) →
      News h₀ env.locals h ((I, itR ((i + 1 : Nat) : Int) ((c : Int) - ((i + 1 : Nat) : Int))) :: (D, l3 n0 n1 n2 t0 t1 t2 k) :: news) →
      wpAny (model prog w) A (execs body env) (UnrPost h₀ env.locals { s with heap := h, toks := tk } I (itR ((i + 1 : Nat) : Int) ((c : Int) - ((i + 1 : Nat) : Int))) (NumJ m₀ D news I) Q) E { s with heap := h, toks := tk })
    (done : ∀ h tk n0 n1 n2 t0 t1 t2 k v, Fr h₀ env.locals h (nkm m₀ v) → News h₀ env.locals h ((D, l3 n0 n1 n2 t0 t1 t2 k) :: news) → Q .next { s with heap := h, toks := tk })
    (hE : PassesOwn (model prog w) A env E) :
    wpAny (model prog w) A (pyIter (.ref r)) (fun it s₂ => codeAny (model prog w) A (.forLoop (.Name (Str.ofString "k") px) it body [] env) (fun r s' => match r with | .ok f => Q f s' | .error e => cameBackBy (model prog w) A env E e s') s₂) E s := by
  refine iter_else (n := c) (fun I _ => NumJ m₀ D news I) hh hx hp hr (range_3 c hc).1 (range_3 c hc).2 F N (fun I l => ⟨_, _, _, _, _, _, _, _, nkm_0 m₀, rfl, Nat.ne_of_lt (l _ (.head _)), fun p hp => Nat.ne_of_lt (l p (.tail _ hp))⟩) ?_ ?_ hE
  · rintro I i t h tk m₁ news₁ hi ⟨n0, n1, n2, t0, t1, t2, k, v, rfl, rfl, o1, o2⟩ _ F₁ N₁
    rw [nkm_k] at F₁
    exact turn I i t h tk n0 n1 n2 t0 t1 t2 k hi o1 o2 F₁ N₁
  · rintro I h tk m₁ news₁ ⟨n0, n1, n2, t0, t1, t2, k, v, rfl, rfl, _⟩ F₁ N₁
    exact wpAny_execs_nil (done h tk n0 n1 n2 t0 t1 t2 k v F₁ N₁)
theorem get3 {a : Addr} {n0 n1 n2 : Int} {t0 t1 t2 u : Tok} {k i : Nat} {news : List (Addr × Obj)} {Q : Value → Shared → Prop} (N : News h₀ L s.heap news) (hm : (a, l3 n0 n1 n2 t0 t1 t2 k) ∈ news) (hi : i < 3) (h : ∀ z t, Q (.int z t) s) :
    wpAny (model prog w) A (getItem (.ref a) (.int (i : Int) u)) Q E s := by
  have hl : s.heap.IsList a [.int n0 t0, .int n1 t1, .int n2 t2].toArray := ⟨_, (N _ hm).1, rfl, k, rfl⟩
  rcases lt3 i hi with rfl | rfl | rfl
  · exact getItem_listL hl (by decide) (by decide) rfl (h _ _)
  · exact getItem_listL hl (by decide) (by decide) rfl (h _ _)
  · exact getItem_listL hl (by decide) (by decide) rfl (h _ _)
theorem set3 {I D : Addr} {it : Obj} {n0 n1 n2 z : Int} {t0 t1 t2 u v : Tok} {k i : Nat} {news : List (Addr × Obj)} {Q : Unit → Shared → Prop} (F : Fr h₀ L s.heap m) (N : News h₀ L s.heap ((I, it) :: (D, l3 n0 n1 n2 t0 t1 t2 k) :: news)) (hi : i < 3) (o1 : @Ne Nat D I) (o2 : ∀ p ∈ news, p.1 ≠ D)
    (h : ∀ h' n0 n1 n2 t0 t1 t2, Fr h₀ L h' m → News h₀ L h' ((I, it) :: (D, l3 n0 n1 n2 t0 t1 t2 k) :: news) → Q () { s with heap := h' }) :
    wpAny (model prog w) A (setItem (.ref D) (.int (i : Int) u) (.int z v)) Q E s := by
  rcases lt3 i hi with rfl | rfl | rfl
  · exact ki_set (its := #[.int n0 t0, .int n1 t1, .int n2 t2]) F N (by decide) (by decide) rfl (.tail (Ne.symm o1) (.head o2)) fun h' F' N' => h h' _ _ _ _ _ _ F' N'
  · exact ki_set (its := #[.int n0 t0, .int n1 t1, .int n2 t2]) F N (by decide) (by decide) rfl (.tail (Ne.symm o1) (.head o2)) fun h' F' N' => h h' _ _ _ _ _ _ F' N'
  · exact ki_set (its := #[.int n0 t0, .int n1 t1, .int n2 t2]) F N (by decide) (by decide) rfl (.tail (Ne.symm o1) (.head o2)) fun h' F' N' => h h' _ _ _ _ _ _ F' N'
end
section
variable {w : World} {mean : ExcName → Option Value} {mg mb : Str → Option Value} {loose : List Str}
  {dp un : Nat} {gd : Option (List Code)} {cn : Str} {cs : Scope} {a : Addr} {ccd : Value} {cl : List (Str × Addr)} {outer : List Env} {A₀ : Around} {base h₀ : Heap} {L : Addr} {m : Str → Option Value} {s : Shared} {Q E : Value → Shared → Prop} {news : List (Addr × Obj)} 

theorem numbers_call {sl : Addr} {vs : List Value} {ns : List Int}
  (B : Below A₀ base outer h₀) (F : Fr h₀ L s.heap m) (X : (hd.heap_39 w.params).In h₀) (N : News h₀ L s.heap news) (T : Top hd.view_39 loose mean mg mb h₀) (hk : cs.kind = .function)
  (hdp : dp + 2 < recursionLimit) (hun : un + 16 < cLine) (hl : base.IsList sl vs.toArray) (hi : IntsAre vs ns) (hle : ns.length ≤ 63)
  (ret : ∀ (D : Addr) (n0 n1 n2 : Int) (t0 t1 t2 : Tok) (n : Nat) (h' : Heap) (tk' : Nat), Fr h₀ L h' m → News h₀ L h' ((D, PySem.W.listOf #[.int n0 t0, .int n1 t1, .int n2 t2] n) :: news) → AllLt D news → Q (.ref D) { s with heap := h', toks := tk' }) :
   wpAny (model Challenge.rw_rl0062_01.row.prog w) (ktrTop dp un gd cn cs L a ccd cl outer) (call (.ref 77) [.ref sl]) Q E s := by
   w_top off
   k_with_none
   k_with "eval Constant int" => (k_here; k_dflt (refine ci_f (fun t' tk' => ?_)))
   k_with "eval Constant str" => (k_here; k_dflt (refine cs_f (fun t' tk' => ?_)))
   k_with "eval Constant float" => (k_here; k_dflt (refine cf_f (fun t' tk' => ?_)))
   k_with "binaryOp Add int int" => (k_here; k_dflt (refine ai_f (fun t' tk' => ?_)))
   k_with "binaryOp Sub int int" => (k_here; k_dflt (refine si_f (fun t' tk' => ?_)))
   k_with "binaryOp Add float float" => (k_here; k_dflt (refine af_f (fun t' tk' => ?_)))
   k_with "binaryOp Sub float float" => (k_here; k_dflt (refine sf_f (fun t' tk' => ?_)))
   k_with "binaryOp Mult float float" => (k_here; k_dflt (refine mf_f (fun t' tk' => ?_)))
   k_with "binaryOp Mod int int" => (k_here; k_dflt (refine mi_f (by decide) (fun t' tk' => ?_)))
   k_with "call builtin:min" => (k_here; k_dflt (refine' min_len (by rfl) (by k_asm) (by k_asm) ?_; k_whole); intro h' tk' v' F' N'; (try k_sweep))
   k_with "call builtin:len" => (k_here; k_dflt (refine' len_script (by k_asm) (by assumption) (by assumption) (by assumption) ?_; k_whole); intro t' tk')
   k_with "exec For Name Call cons nil" => (k_here; k_dflt (refine wpAny_For ?_))
   k_with "pyIter ref" => (k_here; fail "mine")
   k_with "getItem ref int" => (k_here; k_dflt (refine' get3 (by k_asm) (by k_mem) (by assumption) ?_; k_whole); intro z' t')
   k_with "setItem ref int" => (k_here; k_dflt (refine' set3 (by k_asm) (by k_asm) (by assumption) (by assumption) (by assumption) ?_; k_whole); intro h' n0' n1' n2' t0' t1' t2' F' N')
   revert X; k_fill; intro X
   refine wpAny_call ?_
   k_dflt cell_enter
   rename Fr _ _ _ _ => F0
   replace F0 : Fr _ _ _ (fun y => List.lookup y [(Str.ofString "script", .ref sl)]) := F0
   refine gen_post (fun Qf hQf => ?_)
   k_steps
   rename ∀ p ∈ news, p.1 < _ => l9
   have l8 := allLt_of l9
   k_dflt (refine' iter_num ?hh ?hx ?hp ?hc ?hr ?F ?N ?turn ?done ?hE)
   case hE => k_dflt passes_own
   case hh => rfl
   case hx => rfl
   case hp => rfl
   case hr => assumption
   case hc => omega
   case F => k_asm
   case N => k_asm
   case turn =>
     intro I i t' h' tk' n0 n1 n2 t0 t1 t2 k hi o1 o2 F' N'
     have hi3 : i < 3 := by omega
     have hil : i < ns.length := by omega
     have o3 := allLt_ne l8
     dsimp only
     refine gen_post (fun Q2 hQ2 => ?_)
     k_steps
     all_goals (try subst hQ2)
     all_goals (try k_steps)
     exact unr_0 (by assumption) (by assumption) (List.forall_mem_cons.mpr ⟨o1, o2⟩) ⟨_, _, _, _, _, _, _, _, rfl, rfl, o1, o2⟩
   case done =>
     intro h' tk' n0 n1 n2 t0 t1 t2 k v F' N'
     k_steps
     subst hQf
     k_steps
     exact ret _ _ _ _ _ _ _ _ _ _ (by assumption) (by assumption) l8
end
end
section
open LCg
section
variable {prog : Program} {w : World} {A : Around} {E : Value → Shared → Prop} {s : Shared} {h₀ : Heap} {L : Addr} {m : Str → Option Value} {env : Env} {ct elt : Expr} {x : Str} {scope : Scope} {cl : List (Str × Addr)} {S : List (Addr × Obj) → Prop} {P : Nat → Value → Prop} {Fin : List Value → List (Addr × Obj) → Prop} {n : Nat} {news : List (Addr × Obj)}
noncomputable abbrev TurnT (prog : Program) (w : World) (A : Around) (s : Shared) (h₀ : Heap) (L : Addr) (m : Str → Option Value) (env : Env) (ct elt : Expr) (x : Str) (scope : Scope) (cl : List (Str × Addr)) (S : List (Addr × Obj) → Prop) (P : Nat → Value → Prop) (n : Nat) (news : List (Addr × Obj)) (J : Nat → List Value → Prop) : Prop :=
  ∀ i ys, i < n → J i ys → ∀ v I oI C oC D m₂ h tk (E' : Value → Shared → Prop), P i v → NsObj oC m₂ → m₂ x = some v → Fr h₀ L h m → News h₀ L h ((I, oI) :: (C, oC) :: (D, lst ys) :: news) → Off3 I C D news → ((@Ne Nat I C) ∧ (@Ne Nat I D) ∧ (@Ne Nat C D)) →
    wpAny (model prog w) A (isTrue ct (compEnvC scope cl C env) (eval ct (compEnvC scope cl C env))) (fun ok s' => if ok = true then
      wpAny (model prog w) A (eval elt (compEnvC scope cl C env)) (CompEnd h₀ L m { s with heap := h, toks := tk } I oI C oC D (lst ys) S (fun y news' => news' = news ∧ J (i + 1) (ys ++ [y]))) E' s'
      else CompEnd h₀ L m { s with heap := h, toks := tk } I oI C oC D (lst ys) S (fun _ news' => news' = news ∧ J (i + 1) ys) Value.none s') E' { s with heap := h, toks := tk }
theorem rest_indT (J : Nat → List Value → Prop) (fin : ∀ ys, J n ys → Fin ys news) (step : TurnT prog w A s h₀ L m env ct elt x scope cl S P n news J) :
    ∀ k i ys, i + k = n → J i ys → LCt.CompRestT prog w A h₀ L m env ct elt x scope cl s S P Fin k i ys news
  | 0, i, ys, e, hJ => by
    obtain rfl : i = n := by omega
    exact LCt.CompRestT.zero (fin ys hJ)
  | k + 1, i, ys, e, hJ => by
    refine LCt.CompRestT.succ fun v I oI C oC D m₂ h tk E' hP hC hx F N off ne => ?_
    refine wpAny_mono (step i ys (by omega) hJ v I oI C oC D m₂ h tk E' hP hC hx F N off ne) (fun ok s₂ h₂ => ?_) fun _ _ e => e
    cases ok with
    | true =>
      simp only [if_true] at h₂ ⊢
      refine wpAny_mono h₂ (fun y s₃ h₃ => CompEnd.weaken h₃ fun news' r => ?_) fun _ _ e => e
      rw [r.1]
      exact rest_indT J fin step k (i + 1) _ (by omega) r.2
    | false =>
      simp only [Bool.false_eq_true, if_false] at h₂ ⊢
      refine CompEnd.weaken h₂ fun news' r => ?_
      rw [r.1]
      exact rest_indT J fin step k (i + 1) _ (by omega) r.2
/-- over range(n) -/
theorem src_range {Fin : Shared → List Value → List (Addr × Obj) → Prop} {r : Addr} {b : Int} {t u v : Tok} (J : Nat → List Value → Prop) (n : Nat)
    (hh : A.handled = none) (F : Fr h₀ L s.heap m) (N : News h₀ L s.heap news) (hr : IsRange s.heap r 0 b 1 t u v) (hsm : Builtin.Range.small 0 b 1 = true) (hn : Builtin.Range.rangeSize 0 b 1 = ((n : Nat) : Int)) (hsz : n ≤ sizeLine) (hJ : J 0 [])
    (fin : ∀ g ys, J n ys → Fin { s with heap := g } ys news) (step : ∀ g, TurnU prog w A { s with heap := g } h₀ L m env elt x scope cl (fun _ => True) (fun i v => ∃ t, v = .int (i : Int) t) n news J) :
    CompSrc prog w A h₀ L m env elt x scope cl Fin (.ref r) s := by
  refine CompSrc.range hh F N hr hsm hn hsz fun g => rest_ind J (fin g) ?_ n 0 [] (by omega) hJ
  intro i ys hi hJ v I oI C oC D m₂ h tk E' hP
  obtain ⟨t, rfl⟩ := hP
  exact step g i ys hi hJ _ I oI C oC D m₂ h tk E' ⟨t, by rw [Int.zero_add]⟩
theorem src_rangeT {Fin : Shared → List Value → List (Addr × Obj) → Prop} {r : Addr} {b : Int} {t u v : Tok} (J : Nat → List Value → Prop) (n : Nat)
    (hh : A.handled = none) (F : Fr h₀ L s.heap m) (N : News h₀ L s.heap news) (hr : IsRange s.heap r 0 b 1 t u v) (hsm : Builtin.Range.small 0 b 1 = true) (hn : Builtin.Range.rangeSize 0 b 1 = ((n : Nat) : Int)) (hsz : n ≤ sizeLine) (hJ : J 0 [])
    (fin : ∀ g ys, J n ys → Fin { s with heap := g } ys news) (step : ∀ g, TurnT prog w A { s with heap := g } h₀ L m env ct elt x scope cl (fun _ => True) (fun i v => ∃ t, v = .int (i : Int) t) n news J) :
    LCt.CompSrcT prog w A h₀ L m env ct elt x scope cl Fin (.ref r) s := by
  refine LCt.CompSrcT.range hh F N hr hsm hn hsz fun g => rest_indT J (fin g) ?_ n 0 [] (by omega) hJ
  intro i ys hi hJ v I oI C oC D m₂ h tk E' hP
  obtain ⟨t, rfl⟩ := hP
  exact step g i ys hi hJ _ I oI C oC D m₂ h tk E' ⟨t, by rw [Int.zero_add]⟩
/-- over a list of the ledger -/
theorem src_list {Fin : Shared → List Value → List (Addr × Obj) → Prop} {ax : Addr} {l : List Value} {k : Nat} (J : Nat → List Value → Prop)
    (hh : A.handled = none) (F : Fr h₀ L s.heap m) (N : News h₀ L s.heap news) (hm : (ax, PySem.W.listOf l.toArray k) ∈ news) (hsz : l.length ≤ sizeLine) (hJ : J 0 [])
    (fin : ∀ g ys, J l.length ys → Fin { s with heap := g } ys news) (step : ∀ g, TurnU prog w A { s with heap := g } h₀ L m env elt x scope cl (SrcAt h₀ ax l.toArray) (fun i v => l[i]? = some v) l.length news J) :
    CompSrc prog w A h₀ L m env elt x scope cl Fin (.ref ax) s := by
  refine CompSrc.ledger hh F N hm (by rw [List.size_toArray]; exact hsz) fun g => ?_
  rw [List.size_toArray]
  refine rest_ind J (fin g) ?_ l.length 0 [] (by omega) hJ
  intro i ys hi hJ v I oI C oC D m₂ h tk E' hP
  exact step g i ys hi hJ _ I oI C oC D m₂ h tk E' (by simpa using hP)
theorem src_listT {Fin : Shared → List Value → List (Addr × Obj) → Prop} {ax : Addr} {l : List Value} {k : Nat} (J : Nat → List Value → Prop)
    (hh : A.handled = none) (F : Fr h₀ L s.heap m) (N : News h₀ L s.heap news) (hm : (ax, PySem.W.listOf l.toArray k) ∈ news) (hsz : l.length ≤ sizeLine) (hJ : J 0 [])
    (fin : ∀ g ys, J l.length ys → Fin { s with heap := g } ys news) (step : ∀ g, TurnT prog w A { s with heap := g } h₀ L m env ct elt x scope cl (SrcAt h₀ ax l.toArray) (fun i v => l[i]? = some v) l.length news J) :
    LCt.CompSrcT prog w A h₀ L m env ct elt x scope cl Fin (.ref ax) s := by
  refine LCt.CompSrcT.ledger hh F N hm (by rw [List.size_toArray]; exact hsz) fun g => ?_
  rw [List.size_toArray]
  refine rest_indT J (fin g) ?_ l.length 0 [] (by omega) hJ
  intro i ys hi hJ v I oI C oC D m₂ h tk E' hP
  exact step g i ys hi hJ _ I oI C oC D m₂ h tk E' (by simpa using hP)
end
end
section
open LCg
noncomputable def dueWord (g : Int) : Str := if g.fmod 2 ≠ 0 then Str.ofString "OPTIMIZED" else if g.fmod 4 ≠ 0 then Str.ofString "NEWLOCALS" else if g.fmod 8 ≠ 0 then Str.ofString "VARARGS" else if g.fmod 16 ≠ 0 then Str.ofString "VARKEYWORDS" else Str.ofString "0x0"
/-- the words of the pairs (i, j), j below i, i below n -/
noncomputable def nestW (word : Nat → Nat → Str) (n : Nat) : List Str := (List.range n).flatMap fun i => (List.range i).map (word i)
noncomputable def rowW (word : Nat → Nat → Str) (i j : Nat) : List Str := nestW word i ++ (List.range j).map (word i)
theorem rowW_zero (word : Nat → Nat → Str) (i : Nat) : rowW word i 0 = nestW word i := by simp [rowW]
theorem rowW_next (word : Nat → Nat → Str) (i j : Nat) : rowW word i (j + 1) = rowW word i j ++ [word i j] := by simp [rowW, List.range_succ, List.append_assoc]
theorem rowW_done (word : Nat → Nat → Str) (i : Nat) : rowW word i i = nestW word (i + 1) := by simp [rowW, nestW, List.range_succ]
theorem range_i : ∀ i : Nat, i < 4 → Builtin.Range.small 0 (i : Int) 1 = true ∧ Builtin.Range.rangeSize 0 (i : Int) 1 = (i : Int) := by
  intro i hi
  have hc := lt4 i (by assumption)
  rcases hc with rfl | rfl | rfl | rfl <;> exact ⟨by decide, by decide⟩
theorem allLt_next {d : Nat} : ∀ {l : List (Addr × Obj)}, AllLt d l → AllLt (d + 1) l
  | [], _ => trivial
  | _ :: _, h => ⟨Nat.lt_succ_of_lt h.1, allLt_next h.2⟩
noncomputable def sel (g : Int) (n : Nat) : List Str := ((List.range n).filter fun k => decide (g.fmod ((2 ^ (k + 1) : Nat) : Int) ≠ 0)).map wordOf
theorem sel_on {g : Int} {i : Nat} (h : g.fmod ((2 ^ (i + 1) : Nat) : Int) ≠ 0) : sel g (i + 1) = sel g i ++ [wordOf i] := by
  unfold sel
  rw [List.range_succ, List.filter_append, List.map_append]
  simp only [List.filter_cons, decide_eq_true h, if_true, List.filter_nil, List.map_cons, List.map_nil]
theorem sel_off {g : Int} {i : Nat} (h : g.fmod ((2 ^ (i + 1) : Nat) : Int) = 0) : sel g (i + 1) = sel g i := by
  unfold sel
  rw [List.range_succ, List.filter_append, List.map_append]
  have e : decide (g.fmod ((2 ^ (i + 1) : Nat) : Int) ≠ 0) = false := decide_eq_false (fun q => q h)
  simp only [List.filter_cons, e, Bool.false_eq_true, if_false, List.filter_nil, List.map_nil, List.append_nil]
theorem sel_len (g : Int) (n : Nat) : (sel g n).length ≤ n := by
  unfold sel
  rw [List.length_map]
  exact Nat.le_trans (List.length_filter_le _ _) (by rw [List.length_range]; exact Nat.le_refl _)
theorem sel_first (g : Int) : (sel g 4 ++ [Str.ofString "0x0"])[0]? = some (dueWord g) := by
  have e0 : sel g 0 = [] := rfl
  have n1 : ((2 ^ (0 + 1) : Nat) : Int) = 2 := rfl
  have n2 : ((2 ^ (1 + 1) : Nat) : Int) = 4 := rfl
  have n3 : ((2 ^ (2 + 1) : Nat) : Int) = 8 := rfl
  have n4 : ((2 ^ (3 + 1) : Nat) : Int) = 16 := rfl
  unfold dueWord
  by_cases h1 : g.fmod 2 = 0
  · have s1 : sel g 1 = [] := by rw [sel_off (i := 0) h1, e0]
    by_cases h2 : g.fmod 4 = 0
    · have s2 : sel g 2 = [] := by rw [sel_off (i := 1) h2, s1]
      by_cases h3 : g.fmod 8 = 0
      · have s3 : sel g 3 = [] := by rw [sel_off (i := 2) h3, s2]
        by_cases h4 : g.fmod 16 = 0
        · have s4 : sel g 4 = [] := by rw [sel_off (i := 3) h4, s3]
          rw [s4, if_neg (fun q => q h1), if_neg (fun q => q h2), if_neg (fun q => q h3), if_neg (fun q => q h4)]; rfl
        · have s4 : sel g 4 = [wordOf 3] := by rw [sel_on (i := 3) h4, s3]; rfl
          rw [s4, if_neg (fun q => q h1), if_neg (fun q => q h2), if_neg (fun q => q h3), if_pos h4]; rfl
      · have s3 : sel g 3 = [wordOf 2] := by rw [sel_on (i := 2) h3, s2]; rfl
        obtain ⟨r, s4⟩ : ∃ r, sel g 4 = wordOf 2 :: r := by
          by_cases h4 : g.fmod 16 = 0
          · exact ⟨[], by rw [sel_off (i := 3) h4, s3]⟩
          · exact ⟨[wordOf 3], by rw [sel_on (i := 3) h4, s3]; rfl⟩
        rw [s4, if_neg (fun q => q h1), if_neg (fun q => q h2), if_pos h3]; rfl
    · have s2 : sel g 2 = [wordOf 1] := by rw [sel_on (i := 1) h2, s1]; rfl
      obtain ⟨r, s3⟩ : ∃ r, sel g 3 = wordOf 1 :: r := by
        by_cases h4 : g.fmod 8 = 0
        · exact ⟨[], by rw [sel_off (i := 2) h4, s2]⟩
        · exact ⟨[wordOf 2], by rw [sel_on (i := 2) h4, s2]; rfl⟩
      obtain ⟨r, s4⟩ : ∃ r, sel g 4 = wordOf 1 :: r := by
        by_cases h4 : g.fmod 16 = 0
        · exact ⟨r, by rw [sel_off (i := 3) h4, s3]⟩
        · exact ⟨r ++ [wordOf 3], by rw [sel_on (i := 3) h4, s3]; rfl⟩
      rw [s4, if_neg (fun q => q h1), if_pos h2]; rfl
  · have s1 : sel g 1 = [wordOf 0] := by rw [sel_on (i := 0) h1, e0]; rfl
    obtain ⟨r, s2⟩ : ∃ r, sel g 2 = wordOf 0 :: r := by
      by_cases h4 : g.fmod 4 = 0
      · exact ⟨[], by rw [sel_off (i := 1) h4, s1]⟩
      · exact ⟨[wordOf 1], by rw [sel_on (i := 1) h4, s1]; rfl⟩
    obtain ⟨r, s3⟩ : ∃ r, sel g 3 = wordOf 0 :: r := by
      by_cases h4 : g.fmod 8 = 0
      · exact ⟨r, by rw [sel_off (i := 2) h4, s2]⟩
      · exact ⟨r ++ [wordOf 2], by rw [sel_on (i := 2) h4, s2]; rfl⟩
    obtain ⟨r, s4⟩ : ∃ r, sel g 4 = wordOf 0 :: r := by
      by_cases h4 : g.fmod 16 = 0
      · exact ⟨r, by rw [sel_off (i := 3) h4, s3]⟩
      · exact ⟨r ++ [wordOf 3], by rw [sel_on (i := 3) h4, s3]; rfl⟩
    rw [s4, if_pos h1]; rfl
theorem strs_get {vs : List Value} {ys : List Str} (h : StrsAre vs ys) : ∀ {i : Nat} {y : Str}, ys[i]? = some y → ∃ t, vs[i]? = some (.str y t) := by
  induction h with
  | nil => intro i y e; exact absurd e (fun e => nomatch i, e)
  | cons z t _ ih => intro i y e; exact match i, e with
    | 0, e => ⟨t, congrArg (fun o => o.map (Value.str · t)) e⟩
    | i + 1, e => ih e
section
variable {prog : Program} {w : World} {A : Around} {E : Value → Shared → Prop} {s : Shared} {h₀ : Heap} {L : Addr} {m : Str → Option Value} {env : Env} {ct elt : Expr} {x : Str} {scope : Scope} {cl : List (Str × Addr)} {news : List (Addr × Obj)}
theorem src_due {Fin : Shared → List Value → List (Addr × Obj) → Prop} {r : Addr} {t u v : Tok} {o : Obj} {g : Int} {tg : Tok} (_hd : o.data = .cell (some (.int g tg)))
    (hh : A.handled = none) (F : Fr h₀ L s.heap m) (N : News h₀ L s.heap news) (hr : IsRange s.heap r 0 4 1 t u v)
    (fin : ∀ g' ys, StrsAre ys (sel g 4) → Fin { s with heap := g' } ys news) (step : ∀ g', TurnT prog w A { s with heap := g' } h₀ L m env ct elt x scope cl (fun _ => True) (fun i v => ∃ t, v = .int (i : Int) t) 4 news (fun i ys => StrsAre ys (sel g i))) :
    LCt.CompSrcT prog w A h₀ L m env ct elt x scope cl Fin (.ref r) s :=
  src_rangeT (fun i ys => StrsAre ys (sel g i)) 4 hh F N hr (by decide) (by decide) (by rw [sizeLine_eq]; decide) .nil fin step
theorem pow_use {i : Nat} {t u : Tok} {Q : Value → Shared → Prop} (hi : i < 4) (h : ∀ t k, Q (.int ((2 ^ (i + 1) : Nat) : Int) t) { s with toks := k }) : wpAny (model prog w) A (binaryOp .Pow (.int 2 t) (.int ((i : Int) + 1) u)) Q E s := by
  refine pow_int_small (by omega) (by omega) (by decide) ?_
  have e : (2 : Int) ^ ((i : Int) + 1).toNat = ((2 ^ (i + 1) : Nat) : Int) := by rw [two_nat]; congr 1
  rw [e]; exact h _ _
theorem pow_ne (i : Nat) : ((2 ^ (i + 1) : Nat) : Int) ≠ 0 := by have := Nat.two_pow_pos (i + 1); omega
theorem item_known {value slice : Expr} {a : Addr} {t0 t1 t2 t3 : Tok} {n i : Nat} {u : Tok} {Q : Value → Shared → Prop}
    (N : News h₀ L s.heap news) (hm : (a, PySem.W.listOf #[.str (Str.ofString "OPTIMIZED") t0, .str (Str.ofString "NEWLOCALS") t1, .str (Str.ofString "VARARGS") t2, .str (Str.ofString "VARKEYWORDS") t3] n) ∈ news) (hi : i < 4) (h : ∀ t, Q (.str (wordOf i) t) s)
    (hs : subscripted slice false (.ref a) (.int (i : Int) u) = operate [.ref a, .int (i : Int) u] (getItem (.ref a) (.int (i : Int) u))) (hg : ∀ r, letTemporaryGo value (.ref a) r = pure ()) :
    wpAny (model prog w) A (subscriptTail value slice (.ref a) (.int (i : Int) u)) Q E s := by
  have hc := lt4 i (by assumption)
  rcases hc with rfl | rfl | rfl | rfl
  · exact item_news N hm (by decide) (by decide) (x := .str (Str.ofString "OPTIMIZED") t0) rfl (h _) hs hg
  · exact item_news N hm (by decide) (by decide) (x := .str (Str.ofString "NEWLOCALS") t1) rfl (h _) hs hg
  · exact item_news N hm (by decide) (by decide) (x := .str (Str.ofString "VARARGS") t2) rfl (h _) hs hg
  · exact item_news N hm (by decide) (by decide) (x := .str (Str.ofString "VARKEYWORDS") t3) rfl (h _) hs hg
theorem add_due {l b : Addr} {ys : List Value} {k1 k2 : Nat} {g : Int} {tz : Tok} {Q : Value → Shared → Prop} (F : Fr h₀ L s.heap m) (N : News h₀ L s.heap news) (hl : (l, lst ys) ∈ news) (hb : (b, PySem.W.listOf #[.str (Str.ofString "0x0") tz] k2) ∈ news) (hs : StrsAre ys (sel g 4))
    (h : ∀ h' D t, Fr h₀ L h' m → News h₀ L h' ((D, PySem.W.listOf (t :: (ys ++ [Value.str (Str.ofString "0x0") tz]).tail).toArray k1) :: news) → (∃ u, t = .str (dueWord g) u) → AllLt D news → Q (.ref D) { s with heap := h' }) (hk : k1 = 0) : wpAny (model prog w) A (binaryOp .Add (.ref l) (.ref b)) Q E s := by
  subst hk
  have hlen := strs_length hs
  have := sel_len g 4
  refine add_arrays (its := ys.toArray) (its2 := #[.str (Str.ofString "0x0") tz]) F N ⟨_, (N _ hl).1, rfl, _, rfl⟩ ⟨_, (N _ hb).1, rfl, _, rfl⟩ (fun h' F' N' => ?_) (by rw [List.size_toArray, hlen, sizeLine_eq]; show _ + 1 ≤ _; omega)
  obtain ⟨u, e⟩ := strs_get (strs_append hs (.cons (Str.ofString "0x0") tz .nil)) (sel_first g)
  have e2 : (ys ++ [Value.str (Str.ofString "0x0") tz]) = Value.str (dueWord g) u :: (ys ++ [Value.str (Str.ofString "0x0") tz]).tail := by
    cases hc : (ys ++ [Value.str (Str.ofString "0x0") tz]) with
    | nil => simp at hc
    | cons a r => rw [hc] at e; simp at e; rw [e]; rfl
  refine h h' _ (.str (dueWord g) u) F' ?_ ⟨u, rfl⟩ (allLt_of fun p hp => Heap.lt_size (N p hp).1)
  have e3 : (ys.toArray.toList ++ #[Value.str (Str.ofString "0x0") tz].toList) = (ys ++ [Value.str (Str.ofString "0x0") tz]) := by simp
  rw [e3, e2] at N'
  exact N'
end
theorem unr_d4 {h₀ : Heap} {L I : Addr} {it : Obj} {rest : (Str → Option Value) → List (Addr × Obj) → Prop} {s₁ : Shared} {h' : Heap} {tk : Nat} {m' : Str → Option Value} {r : List (Addr × Obj)} {a b c d : Addr × Obj}
    (F : Fr h₀ L h' m') (N : News h₀ L h' (a :: b :: c :: d :: (I, it) :: r)) (off : AllLt I r) (h : rest m' r) : UnrEnd h₀ L s₁ I it rest { s₁ with heap := h', toks := tk } :=
  unr_0 F (news_tail (news_tail (news_tail (news_tail N)))) (allLt_ne off) h
noncomputable abbrev nm (m : Str → Option Value) (vi vj vg : Option Value) : Str → Option Value :=
  fun y => if y = Str.ofString "i" then vi else if y = Str.ofString "j" then vj else if y = Str.ofString "gap" then vg else m y
theorem nm_i {m : Str → Option Value} {vi vj vg : Option Value} {v : Value} : (fun y => if y = Str.ofString "i" then some v else nm m vi vj vg y) = nm m (some v) vj vg := by
  funext y
  by_cases e1 : y = Str.ofString "i"
  · subst e1; rfl
  · simp only [nm, if_neg e1]
theorem nm_j {m : Str → Option Value} {vi vj vg : Option Value} {v : Value} : (fun y => if y = Str.ofString "j" then some v else nm m vi vj vg y) = nm m vi (some v) vg := by
  funext y
  by_cases e1 : y = Str.ofString "j"
  · subst e1; rfl
  · by_cases e2 : y = Str.ofString "i"
    · subst e2; rfl
    · simp only [nm, if_neg e1, if_neg e2]
theorem nm_g {m : Str → Option Value} {vi vj vg : Option Value} {v : Value} : (fun y => if y = Str.ofString "gap" then some v else nm m vi vj vg y) = nm m vi vj (some v) := by
  funext y
  by_cases e1 : y = Str.ofString "gap"
  · subst e1; rfl
  · by_cases e2 : y = Str.ofString "i"
    · subst e2; rfl
    · by_cases e3 : y = Str.ofString "j"
      · subst e3; rfl
      · simp only [nm, if_neg e1, if_neg e2, if_neg e3]
theorem nm_0 (m : Str → Option Value) : m = nm m (m (Str.ofString "i")) (m (Str.ofString "j")) (m (Str.ofString "gap")) := by
  funext y
  by_cases e1 : y = Str.ofString "i"
  · subst e1; rfl
  · by_cases e2 : y = Str.ofString "j"
    · subst e2; rfl
    · by_cases e3 : y = Str.ofString "gap"
      · subst e3; rfl
      · simp only [nm, if_neg e1, if_neg e2, if_neg e3]
noncomputable def NestJ (m : Str → Option Value) (R : List (Addr × Obj) → Prop) (wl : Addr) (ws : List Str) (I : Addr) (m₁ : Str → Option Value) (news₁ : List (Addr × Obj)) : Prop :=
  ∃ vs k vi vj vg rest, m₁ = nm m vi vj vg ∧ news₁ = (wl, PySem.W.listOf vs.toArray k) :: rest ∧ R rest ∧ StrsAre vs ws ∧ AllLt I news₁
noncomputable def NestK (m : Str → Option Value) (R : List (Addr × Obj) → Prop) (wl I : Addr) (it : Obj) (v : Value) (ws : List Str) (I₂ : Addr) (m₁ : Str → Option Value) (news₁ : List (Addr × Obj)) : Prop :=
  ∃ vs k vj vg rest, m₁ = nm m (some v) vj vg ∧ news₁ = (I, it) :: (wl, PySem.W.listOf vs.toArray k) :: rest ∧ R rest ∧ StrsAre vs ws ∧ AllLt I₂ news₁
section
variable {prog : Program} {w : World} {A : Around} {E : Value → Shared → Prop} {s : Shared} {env : Env} {h₀ : Heap} {px : Pos} {body : List Stmt} {Q : Flow → Shared → Prop}
theorem iter_outer {r wl : Addr} {t₀ u₀ v₀ : Tok} {k₀ : Nat} {m₀ : Str → Option Value} {rest₀ : List (Addr × Obj)} (R : List (Addr × Obj) → Prop) (word : Nat → Nat → Str)
    (hh : A.handled = none) (hx : env.kindOf (Str.ofString "i") = some .local) (hp : (env.scope.kind == .class || (env.scope.kind == .module && env.locals != env.globals)) = false)
    (hr : IsRange s.heap r 0 4 1 t₀ u₀ v₀) (F : Fr h₀ env.locals s.heap m₀) (N : News h₀ env.locals s.heap ((wl, PySem.W.listOf #[] k₀) :: rest₀)) (hR : R rest₀)
    (turn : ∀ (I : Addr) (i : Nat) t h tk vs k vj vg rest, i < 4 → R rest → StrsAre vs (rowW word i 0) → AllLt I ((wl, PySem.W.listOf vs.toArray k) :: rest) → Fr h₀ env.locals h (nm m₀ (some (.int (i : Int) t)) vj vg) →
      News h₀ env.locals h ((I, itR ((i + 1 : Nat) : Int) (((4 : Nat) : Int) - ((i + 1 : Nat) : Int))) :: (wl, PySem.W.listOf vs.toArray k) :: rest) →
      wpAny (model prog w) A (execs body env) (UnrPost h₀ env.locals { s with heap := h, toks := tk } I (itR ((i + 1 : Nat) : Int) (((4 : Nat) : Int) - ((i + 1 : Nat) : Int))) (NestJ m₀ R wl (nestW word (i + 1)) I) Q) E { s with heap := h, toks := tk })
    (done : ∀ h tk vs k vi vj vg rest, R rest → StrsAre vs (nestW word 4) → Fr h₀ env.locals h (nm m₀ vi vj vg) → News h₀ env.locals h ((wl, PySem.W.listOf vs.toArray k) :: rest) → Q .next { s with heap := h, toks := tk })
    (hE : PassesOwn (model prog w) A env E) :
    wpAny (model prog w) A (pyIter (.ref r)) (fun it s₂ => codeAny (model prog w) A (.forLoop (.Name (Str.ofString "i") px) it body [] env) (fun r s' => match r with | .ok f => Q f s' | .error e => cameBackBy (model prog w) A env E e s') s₂) E s := by
  refine iter_else (n := 4) (fun I i => NestJ m₀ R wl (nestW word i) I) hh hx hp hr (by decide) (by decide) F N (fun _ l => ⟨[], k₀, _, _, _, rest₀, nm_0 m₀, rfl, hR, .nil, allLt_of l⟩) ?_ ?_ hE
  · rintro I i t h tk m₁ news₁ hi ⟨vs, k, vi, vj, vg, rest, rfl, rfl, hR, hs, l⟩ _ F₁ N₁
    rw [nm_i] at F₁
    exact turn I i t h tk vs k vj vg rest hi hR (by rw [rowW_zero]; exact hs) l F₁ N₁
  · rintro I h tk m₁ news₁ ⟨vs, k, vi, vj, vg, rest, rfl, rfl, hR, hs, _⟩ F₁ N₁
    exact wpAny_execs_nil (done h tk vs k vi vj vg rest hR hs F₁ N₁)
theorem iter_inner {r wl I : Addr} {it : Obj} {i : Nat} {ti : Tok} {t₀ u₀ v₀ : Tok} {k₀ : Nat} {m₀ : Str → Option Value} {vs₀ : List Value} {vj₀ vg₀ : Option Value} {rest₀ : List (Addr × Obj)} (R : List (Addr × Obj) → Prop) (word : Nat → Nat → Str)
    (hh : A.handled = none) (hx : env.kindOf (Str.ofString "j") = some .local) (hp : (env.scope.kind == .class || (env.scope.kind == .module && env.locals != env.globals)) = false) (hi : i < 4)
    (hr : IsRange s.heap r 0 (i : Int) 1 t₀ u₀ v₀) (F : Fr h₀ env.locals s.heap (nm m₀ (some (.int (i : Int) ti)) vj₀ vg₀)) (N : News h₀ env.locals s.heap ((I, it) :: (wl, PySem.W.listOf vs₀.toArray k₀) :: rest₀)) (hR : R rest₀) (hs₀ : StrsAre vs₀ (rowW word i 0))
    (turn : ∀ (I₂ : Addr) (j : Nat) t h tk vs k vg rest, j < i → R rest → StrsAre vs (rowW word i j) → AllLt I₂ ((I, it) :: (wl, PySem.W.listOf vs.toArray k) :: rest) → Fr h₀ env.locals h (nm m₀ (some (.int (i : Int) ti)) (some (.int (j : Int) t)) vg) →
      News h₀ env.locals h ((I₂, itR ((j + 1 : Nat) : Int) (((i : Nat) : Int) - ((j + 1 : Nat) : Int))) :: (I, it) :: (wl, PySem.W.listOf vs.toArray k) :: rest) →
      wpAny (model prog w) A (execs body env) (UnrPost h₀ env.locals { s with heap := h, toks := tk } I₂ (itR ((j + 1 : Nat) : Int) (((i : Nat) : Int) - ((j + 1 : Nat) : Int))) (NestK m₀ R wl I it (.int (i : Int) ti) (rowW word i (j + 1)) I₂) Q) E { s with heap := h, toks := tk })
    (done : ∀ h tk vs k vj vg rest, R rest → StrsAre vs (nestW word (i + 1)) → Fr h₀ env.locals h (nm m₀ (some (.int (i : Int) ti)) vj vg) → News h₀ env.locals h ((I, it) :: (wl, PySem.W.listOf vs.toArray k) :: rest) → Q .next { s with heap := h, toks := tk })
    (hE : PassesOwn (model prog w) A env E) :
    wpAny (model prog w) A (pyIter (.ref r)) (fun it s₂ => codeAny (model prog w) A (.forLoop (.Name (Str.ofString "j") px) it body [] env) (fun r s' => match r with | .ok f => Q f s' | .error e => cameBackBy (model prog w) A env E e s') s₂) E s := by
  refine iter_else (n := i) (fun I₂ j => NestK m₀ R wl I it (.int (i : Int) ti) (rowW word i j) I₂) hh hx hp hr (range_i i hi).1 (range_i i hi).2 F N (fun _ l => ⟨vs₀, k₀, vj₀, vg₀, rest₀, rfl, rfl, hR, hs₀, allLt_of l⟩) ?_ ?_ hE
  · rintro I₂ j t h tk m₁ news₁ hj ⟨vs, k, vj, vg, rest, rfl, rfl, hR, hs, l⟩ _ F₁ N₁
    rw [nm_j] at F₁
    exact turn I₂ j t h tk vs k vg rest hj hR hs l F₁ N₁
  · rintro I₂ h tk m₁ news₁ ⟨vs, k, vj, vg, rest, rfl, rfl, hR, hs, _⟩ F₁ N₁
    exact wpAny_execs_nil (done h tk vs k vj vg rest hR (by rw [← rowW_done]; exact hs) F₁ N₁)
end
section
variable {w : World} {mean : ExcName → Option Value} {mg mb : Str → Option Value} {loose : List Str}
  {dp un : Nat} {gd : Option (List Code)} {cn : Str} {cs : Scope} {a : Addr} {ccd : Value} {cl : List (Str × Addr)} {outer : List Env} {A₀ : Around} {base h₀ : Heap} {L : Addr} {m : Str → Option Value} {s : Shared} {Q E : Value → Shared → Prop} {news : List (Addr × Obj)} 
theorem lt5 : ∀ i : Nat, i ≤ 4 → i = 0 ∨ i = 1 ∨ i = 2 ∨ i = 3 ∨ i = 4 := by decide
theorem nestW_len {word : Nat → Nat → Str} : ∀ i ≤ 4, (nestW word i).length ≤ 6 := by
  intro i hi
  have hc := lt5 i hi
  rcases hc with rfl | rfl | rfl | rfl | rfl <;> simp [nestW, List.range_succ]
theorem row_size {word : Nat → Nat → Str} {vs : List Value} {i j : Nat} (h : StrsAre vs (rowW word i j)) (hi : i < 4) (hj : j < i) : vs.toArray.size ≤ sizeLine := by
  have := nestW_len (word := word) i (Nat.le_of_lt hi)
  rw [List.size_toArray, strs_length h, sizeLine_eq]
  unfold rowW
  rw [List.length_append, List.length_map, List.length_range]; omega
noncomputable def DueR (L' pl : Addr) (p0 p1 p2 p3 : Int) (t0 t1 t2 t3 : Tok) (n : Nat) (news : List (Addr × Obj)) (rest : List (Addr × Obj)) : Prop :=
  ∃ o1 o2 v1 v2, rest = (L' + 1 + 1, o1) :: (L' + 1, o2) :: (pl, PySem.W.listOf #[.int p0 t0, .int p1 t1, .int p2 t2, .int p3 t3] n) :: news ∧ o1.data = .cell v1 ∧ o2.data = .cell v2
theorem due_call {pl : Addr} {p0 p1 p2 p3 : Int} {t0 t1 t2 t3 : Tok} {n : Nat}
  (B : Below A₀ base outer h₀) (F : Fr h₀ L s.heap m) (X : (hd.heap_39 w.params).In h₀) (N : News h₀ L s.heap ((pl, PySem.W.listOf #[.int p0 t0, .int p1 t1, .int p2 t2, .int p3 t3] n) :: news)) (T : Top hd.view_39 loose mean mg mb h₀) (hk : cs.kind = .function)
  (hdp : dp + 2 < recursionLimit) (hun : un + 16 < cLine)
  (ret : ∀ (D : Addr) (vs : List Value) (k : Nat) (h' : Heap) (tk' : Nat), Fr h₀ L h' m → News h₀ L h' ((D, PySem.W.listOf vs.toArray k) :: (pl, PySem.W.listOf #[.int p0 t0, .int p1 t1, .int p2 t2, .int p3 t3] n) :: news) →
    StrsAre vs (nestW (fun i j => dueWord ((pick p0 p1 p2 p3 i - pick p0 p1 p2 p3 j).fmod 16)) 4) → (pl < D ∧ AllLt D news) → Q (.ref D) { s with heap := h', toks := tk' }) :
   wpAny (model Challenge.rw_rl0062_01.row.prog w) (ktrTop dp un gd cn cs L a ccd cl outer) (call (.ref 113) [.ref pl]) Q E s := by
   w_top off
   k_with_none
   k_with "eval Constant int" => (k_here; k_dflt (refine ci_f (fun t' tk' => ?_)))
   k_with "eval Constant str" => (k_here; k_dflt (refine cs_f (fun t' tk' => ?_)))
   k_with "eval Constant float" => (k_here; k_dflt (refine cf_f (fun t' tk' => ?_)))
   k_with "binaryOp Add int int" => (k_here; k_dflt (refine ai_f (fun t' tk' => ?_)))
   k_with "binaryOp Sub int int" => (k_here; k_dflt (refine si_f (fun t' tk' => ?_)))
   k_with "binaryOp Add float float" => (k_here; k_dflt (refine af_f (fun t' tk' => ?_)))
   k_with "binaryOp Sub float float" => (k_here; k_dflt (refine sf_f (fun t' tk' => ?_)))
   k_with "binaryOp Mult float float" => (k_here; k_dflt (refine mf_f (fun t' tk' => ?_)))
   k_with "binaryOp Mod int int" => (k_here; k_dflt (refine mi_f (by decide) (fun t' tk' => ?_)))
   k_with "eval ListComp" => (k_here; k_dflt (refine LCt.ListComp_T (F₀ := by k_asm) (by with_unfolding_all rfl) (by decide) (by rfl) (by decide) (by rfl) ?_))
   k_with "CompSrcT" => (k_here; k_dflt (refine' src_due (by assumption) (by rfl) (by k_asm) (by k_asm) (by assumption) (fun g' ys' hs' => ?_) (fun g' i' ys' hi' hs' v' I' oI' C' oC' D' m' h' tk' E' hP' hC' hx' F' N' off' ne' => ?_); rotate_left; obtain ⟨t9', hv9'⟩ := hP'; subst hv9'; (try simp only [LCg.Off3, and_true] at off')))
   k_with "binaryOp Pow int int" => (k_here; k_dflt (refine' pow_use (by assumption) ?_; k_whole); intro t' tk')
   k_with "binaryOp Mod int int" => (k_here; (with_reducible show wpAny _ _ (binaryOp _ (Value.int _ _) (Value.int ((2 ^ (_ + 1) : Nat) : Int) _)) _ _ _); k_dflt (refine mod_int' (pow_ne _) ?_))
   k_with "binaryOp Add ref ref" => (k_here; k_dflt (refine' add_due (by k_asm) (by k_asm) (by k_mem) (by k_mem) (by assumption) (fun h' D' v' F' N' hv' l1 => ?_) rfl; obtain ⟨u', hv9'⟩ := hv'; subst hv9'; (try simp only [AllLt, and_true] at l1); (try k_sweep)))
   k_with "CompEnd" => (k_here; k_dflt (refine' comp_end0 (by k_asm) (by k_asm) (by assumption) (by first | exact trivial | exact ⟨_, by k_mem⟩) ?_; k_whole); (try simp only [List.nil_append, List.cons_append]))
   k_with "exec For Name Call cons nil" => (k_here; k_dflt (refine wpAny_For ?_))
   k_with "pyIter ref" => (k_here; fail "mine")
   k_with "subscriptTail Name Name ref int" => (k_here; (with_reducible show wpAny _ _ (subscriptTail _ _ (Value.ref _) (Value.int _ _)) _ _ _); k_dflt (first | (refine' item4 (by k_asm) (by k_mem) (by omega) ?_ (by with_unfolding_all rfl) (by intro _; with_unfolding_all rfl); k_whole) | (refine' item_known (by k_asm) (by k_mem) (by assumption) ?_ (by with_unfolding_all rfl) (by intro _; with_unfolding_all rfl); k_whole)); intro t')
   k_with "call builtin:list.append" => (k_here; (with_reducible show wpAny _ _ (PySem.call (Value.builtin _) [Value.ref _, _]) _ _ _); k_dflt (refine' append_K (by k_asm) (by k_asm) (by k_upd) ?_ (by assumption); k_whole); intro h' F' N'; (try k_sweep))
   revert X; k_fill; intro X
   refine wpAny_call ?_
   k_dflt (refine' code_defC ?k1 ?k2 ?k3 ?k4 ?k5 ?kA ?kF ?kK ?k6 ?k7 ?k8 ?k9 ?kB ?kD ?_ ?c2 ?c3 ?c4; (case kA => exact rfl); (case kF => exact rfl); (case kK => assumption); (case k1 => k_asm); (case k2 => k_asm); (case k3 => k_asm); (case k4 => k_asm); (case k5 => k_asm); (case k6 => k_is); (case k7 => k_is); (case k8 => ktr_room); (case k9 => exact BindsTo.of_eq rfl); (case kB => exact rfl); (case kD => decide +kernel); (case c2 => exact rfl); (case c3 => exact rfl); (case c4 => exact rfl); k_whole; intro g' L' h' tk' cells' FG' F' N' Y' B' X' T' l1; (try k_lt l1); k_cells Y'; (try simp only [List.cons_append, List.nil_append] at N'); (try dsimp only); (try k_lift B'); (try k_fold))
   rename Fr _ _ _ _ => F0
   replace F0 : Fr _ _ _ (fun y => if y = Str.ofString "places" then some (.ref pl) else none) := F0
   rename _ < _ ∧ AllLt _ _ => l9
   have l10 := allLt_next l9.2
   have l11 := allLt_next l10
   refine gen_post (fun Qf hQf => ?_)
   k_steps
   k_dflt (refine' iter_outer (DueR L' pl p0 p1 p2 p3 t0 t1 t2 t3 n news) (fun i j => dueWord ((pick p0 p1 p2 p3 i - pick p0 p1 p2 p3 j).fmod 16)) ?hh ?hx ?hp ?hr ?F ?N ?hR ?turn ?done ?hE)
   case hE => k_dflt passes_own
   case hh => rfl
   case hx => rfl
   case hp => rfl
   case hr => assumption
   case F => k_asm
   case N => k_asm
   case hR => exact ⟨_, _, _, _, rfl, by assumption, by assumption⟩
   case turn =>
     intro I i t' h' tk' vs k vj vg rest hi hR hs off F' N'
     obtain ⟨o1, o2, v1, v2, rfl, d1, d2⟩ := hR
     dsimp only
     refine gen_post (fun Q2 hQ2 => ?_)
     k_steps
     k_dflt (refine' iter_inner (DueR L' pl p0 p1 p2 p3 t0 t1 t2 t3 n news) (fun i j => dueWord ((pick p0 p1 p2 p3 i - pick p0 p1 p2 p3 j).fmod 16)) ?hh2 ?hx2 ?hp2 hi ?hr2 ?F2 ?N2 ?hR2 hs ?turn2 ?done2 ?hE2)
     case hE2 => k_dflt passes_own
     case hh2 => rfl
     case hx2 => rfl
     case hp2 => rfl
     case hr2 => assumption
     case F2 => k_asm
     case N2 => k_asm
     case hR2 => exact ⟨_, _, _, _, rfl, d1, d2⟩
     case turn2 =>
       clear hs
       intro I₂ j t9 h9 tk9 vs9 k9 vg9 rest9 hj hR9 hs off₂ F' N'
       obtain ⟨o3, o4, v3, v4, rfl, d3, d4⟩ := hR9
       simp only [AllLt] at off off₂
       have hsz := row_size hs hi hj
       dsimp only
       refine gen_post (fun Q3 hQ3 => ?_)
       k_steps
       all_goals (try subst hQ3)
       all_goals (try k_steps)
       all_goals try exact True.intro
       all_goals try (first | (rw [sel_on (by assumption)]; exact strs_append (by assumption) (.cons _ _ .nil)) | (rw [sel_off (by assumption)]; assumption))
       rw [push_is] at *
       refine' unr_d4 ?F9 ?N9 ?o9 ?r9
       case F9 => assumption
       case N9 => assumption
       case o9 => exact off₂
       case r9 =>
         refine ⟨_, _, _, _, _, rfl, rfl, ⟨_, _, _, _, rfl, by assumption, by assumption⟩, ?_, off₂⟩
         rw [rowW_next]
         exact strs_append hs (.cons _ _ .nil)
     case done2 =>
       intro h9 tk9 vs9 k9 vj9 vg9 rest9 hR9 hs9 F' N'
       obtain ⟨o3, o4, v3, v4, rfl, d3, d4⟩ := hR9
       k_steps
       subst hQ2
       k_steps
       refine' unr_0 ?F8 ?N8 ?o8 ?r8
       case F8 => assumption
       case N8 => assumption
       case o8 => exact allLt_ne off
       case r8 => exact ⟨_, _, _, _, _, _, rfl, rfl, ⟨_, _, _, _, rfl, d3, d4⟩, hs9, off⟩
   case done =>
     intro h' tk' vs k vi vj vg rest hR hs F' N'
     obtain ⟨o1, o2, v1, v2, rfl, d1, d2⟩ := hR
     k_steps
     subst hQf
     k_steps
     refine ret _ _ _ _ _ (by assumption) (news_swap (news_swap (by assumption))) hs ?_
     rename _ < _ ∧ _ < _ ∧ _ < _ ∧ AllLt _ _ => l8
     exact l8.2.2
end
end
section
open LCg
noncomputable def pickN (p0 p1 p2 p3 : Nat) (k : Nat) : Nat := [p0, p1, p2, p3].getD k 0
theorem pickN_lt {p0 p1 p2 p3 k : Nat} (h0 : p0 < 16) (h1 : p1 < 16) (h2 : p2 < 16) (h3 : p3 < 16) (hk : k < 4) : pickN p0 p1 p2 p3 k < 16 := by
  have hc := lt4 k (by assumption)
  rcases hc with rfl | rfl | rfl | rfl <;> assumption
noncomputable def lowN (g : Nat) : Nat := (Builtin.bitAnd (g : Int) (-(g : Int))).toNat
theorem low_is : ∀ g < 16, Builtin.bitAnd ((g : Nat) : Int) (-((g : Nat) : Int)) = ((lowN g : Nat) : Int) := by decide +kernel
theorem low_lt : ∀ g < 16, lowN g < 65536 := by decide +kernel
theorem told_word : ∀ g < 16, Txt.join (Str.ofString ", ") (if lowN g = 0 then [Str.ofString "0x0"] else wordsTo (lowN g) 16) = dueWord ((g : Nat) : Int) := by decide +kernel
theorem marks_count : ∀ q < 16, (List.range 16).countP (fun x => decide (x < q)) = q := by decide +kernel
theorem marks_climb : Climbs (List.range 16) := by
  intro i j hij hj
  rw [List.length_range] at hj
  rw [List.getD_eq_getElem?_getD, List.getD_eq_getElem?_getD, List.getElem?_range (by omega), List.getElem?_range hj]
  exact hij
theorem marks_lt : ∀ i ∈ List.range 16, i < 16 := fun i hi => List.mem_range.mp hi
section
variable {prog : Program} {w : World} {A : Around} {E : Value → Shared → Prop} {s : Shared} {h₀ : Heap} {L : Addr} {m : Str → Option Value} {news : List (Addr × Obj)} {t u : Tok}
theorem back_use {q : Nat} {Q : Value → Shared → Prop} (hq : q < 16) (h : ∀ t k, Q (.float (F16 (16 - q)) t) { s with toks := k }) : wpAny (model prog w) A (binaryOp .Sub (.int 1 t) (.float (F16 q) u)) Q E s := by
  refine sub_if_fits (small_fits (by decide) (by decide)) ?_
  rw [F16_back0 q hq]; exact h _ _
theorem low_use {g : Nat} {Q : Value → Shared → Prop} (hg : g < 16) (h : ∀ t k, Q (.int ((lowN g : Nat) : Int) t) { s with toks := k }) : wpAny (model prog w) A (binaryOp .BitAnd (.int ((g : Nat) : Int) t) (.int (-((g : Nat) : Int)) u)) Q E s := by
  refine and_int ?_
  rw [low_is g hg]; exact h _ _
theorem item_col {value slice : Expr} {a c0 c1 c2 c3 : Addr} {o0 o1 o2 o3 : Obj} {p0 p1 p2 p3 n i : Nat} {Q : Value → Shared → Prop}
    (N : News h₀ L s.heap news) (hm : (a, PySem.W.listOf #[.ref c0, .ref c1, .ref c2, .ref c3] n) ∈ news) (m0 : (c0, o0) ∈ news) (m1 : (c1, o1) ∈ news) (m2 : (c2, o2) ∈ news) (m3 : (c3, o3) ∈ news)
    (h0 : IsCol o0 p0) (h1 : IsCol o1 p1) (h2 : IsCol o2 p2) (h3 : IsCol o3 p3) (hi : i < 4) (h : ∀ c o, (c, o) ∈ news → IsCol o (pickN p0 p1 p2 p3 i) → Q (.ref c) s)
    (hs : subscripted slice false (.ref a) (.int (i : Int) u) = operate [.ref a, .int (i : Int) u] (getItem (.ref a) (.int (i : Int) u))) (hg : ∀ r, letTemporaryGo value (.ref a) r = pure ()) :
    wpAny (model prog w) A (subscriptTail value slice (.ref a) (.int (i : Int) u)) Q E s := by
  have hc := lt4 i (by assumption)
  rcases hc with rfl | rfl | rfl | rfl
  · exact item_news N hm (by decide) (by decide) (x := .ref c0) rfl (h _ _ m0 h0) hs hg
  · exact item_news N hm (by decide) (by decide) (x := .ref c1) rfl (h _ _ m1 h1) hs hg
  · exact item_news N hm (by decide) (by decide) (x := .ref c2) rfl (h _ _ m2 h2) hs hg
  · exact item_news N hm (by decide) (by decide) (x := .ref c3) rfl (h _ _ m3 h3) hs hg
theorem item_hue4 {value slice : Expr} {a : Addr} {t0 t1 t2 t3 : Tok} {p0 p1 p2 p3 n i : Nat} {Q : Value → Shared → Prop}
    (N : News h₀ L s.heap news) (hm : (a, PySem.W.listOf [.float (F16 p0) t0, .float (F16 p1) t1, .float (F16 p2) t2, .float (F16 p3) t3].toArray n) ∈ news) (hi : i < 4) (h : ∀ t, Q (.float (F16 (pickN p0 p1 p2 p3 i)) t) s)
    (hs : subscripted slice false (.ref a) (.int (i : Int) u) = operate [.ref a, .int (i : Int) u] (getItem (.ref a) (.int (i : Int) u))) (hg : ∀ r, letTemporaryGo value (.ref a) r = pure ()) :
    wpAny (model prog w) A (subscriptTail value slice (.ref a) (.int (i : Int) u)) Q E s := by
  have hc := lt4 i (by assumption)
  rcases hc with rfl | rfl | rfl | rfl
  · exact item_news N hm (by decide) (by decide) (x := .float (F16 p0) t0) rfl (h _) hs hg
  · exact item_news N hm (by decide) (by decide) (x := .float (F16 p1) t1) rfl (h _) hs hg
  · exact item_news N hm (by decide) (by decide) (x := .float (F16 p2) t2) rfl (h _) hs hg
  · exact item_news N hm (by decide) (by decide) (x := .float (F16 p3) t3) rfl (h _) hs hg
end
section
variable {prog : Program} {w : World} {A : Around} {E : Value → Shared → Prop} {s : Shared} {env : Env} {h₀ : Heap} {px : Pos} {body : List Stmt} {Q : Flow → Shared → Prop}
theorem iter_outerM {r wl : Addr} {t₀ u₀ v₀ : Tok} {k₀ : Nat} {m₀ : Str → Option Value} {rest₀ : List (Addr × Obj)} (R : (Str → Option Value) → List (Addr × Obj) → Prop) (word : Nat → Nat → Str)
    (hh : A.handled = none) (hx : env.kindOf (Str.ofString "i") = some .local) (hp : (env.scope.kind == .class || (env.scope.kind == .module && env.locals != env.globals)) = false)
    (hr : IsRange s.heap r 0 4 1 t₀ u₀ v₀) (F : Fr h₀ env.locals s.heap m₀) (N : News h₀ env.locals s.heap ((wl, PySem.W.listOf #[] k₀) :: rest₀)) (hR : R m₀ rest₀)
    (turn : ∀ (I : Addr) (i : Nat) t h tk vs k vj vg rest, i < 4 → R m₀ rest → StrsAre vs (rowW word i 0) → AllLt I ((wl, PySem.W.listOf vs.toArray k) :: rest) → Fr h₀ env.locals h (nm m₀ (some (.int (i : Int) t)) vj vg) →
      News h₀ env.locals h ((I, itR ((i + 1 : Nat) : Int) (((4 : Nat) : Int) - ((i + 1 : Nat) : Int))) :: (wl, PySem.W.listOf vs.toArray k) :: rest) →
      wpAny (model prog w) A (execs body env) (UnrPost h₀ env.locals { s with heap := h, toks := tk } I (itR ((i + 1 : Nat) : Int) (((4 : Nat) : Int) - ((i + 1 : Nat) : Int))) (NestJ m₀ (R m₀) wl (nestW word (i + 1)) I) Q) E { s with heap := h, toks := tk })
    (done : ∀ h tk vs k vi vj vg rest, R m₀ rest → StrsAre vs (nestW word 4) → Fr h₀ env.locals h (nm m₀ vi vj vg) → News h₀ env.locals h ((wl, PySem.W.listOf vs.toArray k) :: rest) → Q .next { s with heap := h, toks := tk })
    (hE : PassesOwn (model prog w) A env E) :
    wpAny (model prog w) A (pyIter (.ref r)) (fun it s₂ => codeAny (model prog w) A (.forLoop (.Name (Str.ofString "i") px) it body [] env) (fun r s' => match r with | .ok f => Q f s' | .error e => cameBackBy (model prog w) A env E e s') s₂) E s :=
  iter_outer (R m₀) word hh hx hp hr F N hR turn done hE
theorem iter_innerM {r wl I : Addr} {it : Obj} {i : Nat} {ti : Tok} {t₀ u₀ v₀ : Tok} {k₀ : Nat} {m₀ : Str → Option Value} {vs₀ : List Value} {vj₀ vg₀ : Option Value} {rest₀ : List (Addr × Obj)} (R : (Str → Option Value) → List (Addr × Obj) → Prop) (word : Nat → Nat → Str)
    (hh : A.handled = none) (hx : env.kindOf (Str.ofString "j") = some .local) (hp : (env.scope.kind == .class || (env.scope.kind == .module && env.locals != env.globals)) = false) (hi : i < 4)
    (hr : IsRange s.heap r 0 (i : Int) 1 t₀ u₀ v₀) (F : Fr h₀ env.locals s.heap (nm m₀ (some (.int (i : Int) ti)) vj₀ vg₀)) (N : News h₀ env.locals s.heap ((I, it) :: (wl, PySem.W.listOf vs₀.toArray k₀) :: rest₀)) (hR : R m₀ rest₀) (hs₀ : StrsAre vs₀ (rowW word i 0))
    (turn : ∀ (I₂ : Addr) (j : Nat) t h tk vs k vg rest, j < i → R m₀ rest → StrsAre vs (rowW word i j) → AllLt I₂ ((I, it) :: (wl, PySem.W.listOf vs.toArray k) :: rest) → Fr h₀ env.locals h (nm m₀ (some (.int (i : Int) ti)) (some (.int (j : Int) t)) vg) →
      News h₀ env.locals h ((I₂, itR ((j + 1 : Nat) : Int) (((i : Nat) : Int) - ((j + 1 : Nat) : Int))) :: (I, it) :: (wl, PySem.W.listOf vs.toArray k) :: rest) →
      wpAny (model prog w) A (execs body env) (UnrPost h₀ env.locals { s with heap := h, toks := tk } I₂ (itR ((j + 1 : Nat) : Int) (((i : Nat) : Int) - ((j + 1 : Nat) : Int))) (NestK m₀ (R m₀) wl I it (.int (i : Int) ti) (rowW word i (j + 1)) I₂) Q) E { s with heap := h, toks := tk })
    (done : ∀ h tk vs k vj vg rest, R m₀ rest → StrsAre vs (nestW word (i + 1)) → Fr h₀ env.locals h (nm m₀ (some (.int (i : Int) ti)) vj vg) → News h₀ env.locals h ((I, it) :: (wl, PySem.W.listOf vs.toArray k) :: rest) → Q .next { s with heap := h, toks := tk })
    (hE : PassesOwn (model prog w) A env E) :
    wpAny (model prog w) A (pyIter (.ref r)) (fun it s₂ => codeAny (model prog w) A (.forLoop (.Name (Str.ofString "j") px) it body [] env) (fun r s' => match r with | .ok f => Q f s' | .error e => cameBackBy (model prog w) A env E e s') s₂) E s :=
  iter_inner (R m₀) word hh hx hp hi hr F N hR hs₀ turn done hE
end
section
variable {w : World} {mean : ExcName → Option Value} {mg mb : Str → Option Value} {loose : List Str}
  {dp un : Nat} {gd : Option (List Code)} {cn : Str} {cs : Scope} {a : Addr} {ccd : Value} {cl : List (Str × Addr)} {outer : List Env} {A₀ : Around} {base h₀ : Heap} {L : Addr} {m : Str → Option Value} {s : Shared} {Q E : Value → Shared → Prop} {news : List (Addr × Obj)} 
theorem flags_low {g : Nat} {tx : Tok}
  (B : Below A₀ base outer h₀) (F : Fr h₀ L s.heap m) (X : (hd.heap_39 w.params).In h₀) (N : News h₀ L s.heap news) (T : Top hd.view_39 loose mean mg mb h₀) (hk : cs.kind = .function)
  (hdp : dp + 1 < recursionLimit) (hun : un + 8 < cLine) (hg : g < 16)
  (ret : ∀ (t : Tok) (h' : Heap) (tk' : Nat), Fr h₀ L h' m → News h₀ L h' news → Q (.str (dueWord ((g : Nat) : Int)) t) { s with heap := h', toks := tk' }) :
   wpAny (model Challenge.rw_rl0062_01.row.prog w) (ktrTop dp un gd cn cs L a ccd cl outer) (call (.ref 70) [.int ((lowN g : Nat) : Int) tx]) Q E s :=
  flags_call B F X N T hk hdp hun (low_lt g hg) (by rw [told_word g hg]; exact ret)
theorem left_mark {la : Addr} {vs : List Value} {q : Nat} {tx : Tok} {n : Nat}
  (B : Below A₀ base outer h₀) (F : Fr h₀ L s.heap m) (X : (hd.heap_39 w.params).In h₀) (N : News h₀ L s.heap news) (T : Top hd.view_39 loose mean mg mb h₀) (hk : cs.kind = .function)
  (hdp : dp + 1 < recursionLimit) (hun : un + 8 < cLine) (hm : (la, PySem.W.listOf vs.toArray n) ∈ news) (hv : HuesAre vs (List.range 16)) (hq : q < 16)
  (ret : ∀ (t : Tok) (h' : Heap) (tk' : Nat), Fr h₀ L h' m → News h₀ L h' news → Q (.int ((q : Nat) : Int) t) { s with heap := h', toks := tk' }) :
   wpAny (model Challenge.rw_rl0062_01.row.prog w) (ktrTop dp un gd cn cs L a ccd cl outer) (call (.ref 62) [.ref la, .float (F16 q) tx]) Q E s :=
  left_use B F X N T hk hdp hun hm hv (by decide) marks_lt hq marks_climb (by rw [marks_count q hq]; exact ret)

noncomputable abbrev toldRest (c0 c1 c2 c3 pl ml : Addr) (o0 o1 o2 o3 : Obj) (n mn : Nat) (vm : List Value) (news : List (Addr × Obj)) : List (Addr × Obj) :=
  (c3, o3) :: (c2, o2) :: (c1, o1) :: (c0, o0) :: (pl, PySem.W.listOf #[.ref c0, .ref c1, .ref c2, .ref c3] n) :: (ml, PySem.W.listOf vm.toArray mn) :: news
theorem unr_e1 {h₀ : Heap} {L I : Addr} {it : Obj} {rest : (Str → Option Value) → List (Addr × Obj) → Prop} {s₁ : Shared} {h' : Heap} {tk : Nat} {m' : Str → Option Value} {r : List (Addr × Obj)} {a : Addr × Obj}
    (F : Fr h₀ L h' m') (N : News h₀ L h' (a :: (I, it) :: r)) (off : AllLt I r) (h : rest m' r) : UnrEnd h₀ L s₁ I it rest { s₁ with heap := h', toks := tk } :=
  unr_0 F (news_tail N) (allLt_ne off) h
noncomputable def ToldR (c0 c1 c2 c3 pl ml : Addr) (o0 o1 o2 o3 : Obj) (p0 p1 p2 p3 n mn : Nat) (vm : List Value) (news : List (Addr × Obj)) (m : Str → Option Value) (rest : List (Addr × Obj)) : Prop :=
  ∃ hl t0 t1 t2 t3 k, m (Str.ofString "hues") = some (.ref hl) ∧ rest = (hl, PySem.W.listOf [.float (F16 p0) t0, .float (F16 p1) t1, .float (F16 p2) t2, .float (F16 p3) t3].toArray k) :: toldRest c0 c1 c2 c3 pl ml o0 o1 o2 o3 n mn vm news ∧
    ∀ wl, m (Str.ofString "words") = some (.ref wl) → ∀ p ∈ rest, p.1 ≠ wl
theorem ToldR.use {P : Prop} {c0 c1 c2 c3 pl ml : Addr} {o0 o1 o2 o3 : Obj} {p0 p1 p2 p3 n mn : Nat} {vm : List Value} {news : List (Addr × Obj)} {m : Str → Option Value} {rest : List (Addr × Obj)} {hl : Addr}
    (hR : ToldR c0 c1 c2 c3 pl ml o0 o1 o2 o3 p0 p1 p2 p3 n mn vm news m rest) (he : m (Str.ofString "hues") = some (.ref hl))
    (h : ∀ t0 t1 t2 t3 k, (hl, PySem.W.listOf [.float (F16 p0) t0, .float (F16 p1) t1, .float (F16 p2) t2, .float (F16 p3) t3].toArray k) ∈ rest → (pl, PySem.W.listOf #[.ref c0, .ref c1, .ref c2, .ref c3] n) ∈ rest →
      (ml, PySem.W.listOf vm.toArray mn) ∈ rest → (c0, o0) ∈ rest → (c1, o1) ∈ rest → (c2, o2) ∈ rest → (c3, o3) ∈ rest → P) : P := by
  obtain ⟨hl', t0, t1, t2, t3, k, e, rfl, _⟩ := hR
  cases Value.ref.inj (Option.some.inj (he.symm.trans e))
  exact h t0 t1 t2 t3 k (by k_mem) (by k_mem) (by k_mem) (by k_mem) (by k_mem) (by k_mem) (by k_mem)
theorem ToldR.ne {c0 c1 c2 c3 pl ml : Addr} {o0 o1 o2 o3 : Obj} {p0 p1 p2 p3 n mn : Nat} {vm : List Value} {news : List (Addr × Obj)} {m : Str → Option Value} {rest : List (Addr × Obj)} {wl : Addr}
    (hR : ToldR c0 c1 c2 c3 pl ml o0 o1 o2 o3 p0 p1 p2 p3 n mn vm news m rest) (he : m (Str.ofString "words") = some (.ref wl)) : ∀ p ∈ rest, p.1 ≠ wl := by
  obtain ⟨_, _, _, _, _, _, _, _, h⟩ := hR
  exact h wl he
theorem ToldR.lt {c0 c1 c2 c3 pl ml : Addr} {o0 o1 o2 o3 : Obj} {p0 p1 p2 p3 n mn : Nat} {vm : List Value} {news : List (Addr × Obj)} {m : Str → Option Value} {rest rest' : List (Addr × Obj)} {I : Nat}
    (hR : ToldR c0 c1 c2 c3 pl ml o0 o1 o2 o3 p0 p1 p2 p3 n mn vm news m rest) (hR' : ToldR c0 c1 c2 c3 pl ml o0 o1 o2 o3 p0 p1 p2 p3 n mn vm news m rest') (h : AllLt I rest) : AllLt I rest' := by
  obtain ⟨hl, t0, t1, t2, t3, k, e, rfl, _⟩ := hR
  obtain ⟨hl', u0, u1, u2, u3, k', e', rfl, _⟩ := hR'
  cases Value.ref.inj (Option.some.inj (e.symm.trans e'))
  exact h
noncomputable abbrev toldW (p0 p1 p2 p3 : Nat) : Nat → Nat → Str := fun i j => dueWord (((pickN p0 p1 p2 p3 i + (16 - pickN p0 p1 p2 p3 j)) % 16 : Nat) : Int)
theorem told_call {c0 c1 c2 c3 pl ml : Addr} {o0 o1 o2 o3 : Obj} {p0 p1 p2 p3 n mn : Nat} {vm : List Value}
  (B : Below A₀ base outer h₀) (F : Fr h₀ L s.heap m) (X : (hd.heap_39 w.params).In h₀) (N : News h₀ L s.heap (toldRest c0 c1 c2 c3 pl ml o0 o1 o2 o3 n mn vm news)) (T : Top hd.view_39 loose mean mg mb h₀) (hk : cs.kind = .function)
  (hdp : dp + 4 < recursionLimit) (hun : un + 32 < cLine)
  (h0 : IsCol o0 p0) (h1 : IsCol o1 p1) (h2 : IsCol o2 p2) (h3 : IsCol o3 p3) (l0 : p0 < 16) (l1 : p1 < 16) (l2 : p2 < 16) (l3 : p3 < 16) (hv : HuesAre vm (List.range 16))
  (ret : ∀ (D : Addr) (vs : List Value) (k : Nat) (h' : Heap) (tk' : Nat), Fr h₀ L h' m → News h₀ L h' ((D, PySem.W.listOf vs.toArray k) :: toldRest c0 c1 c2 c3 pl ml o0 o1 o2 o3 n mn vm news) →
    StrsAre vs (nestW (toldW p0 p1 p2 p3) 4) → AllLt D (toldRest c0 c1 c2 c3 pl ml o0 o1 o2 o3 n mn vm news) → Q (.ref D) { s with heap := h', toks := tk' }) :
   wpAny (model Challenge.rw_rl0062_01.row.prog w) (ktrTop dp un gd cn cs L a ccd cl outer) (call (.ref 108) [.ref pl, .ref ml]) Q E s := by
   w_top off
   k_with_none
   k_with "eval Constant int" => (k_here; k_dflt (refine ci_f (fun t' tk' => ?_)))
   k_with "eval Constant str" => (k_here; k_dflt (refine cs_f (fun t' tk' => ?_)))
   k_with "eval Constant float" => (k_here; k_dflt (refine cf_f (fun t' tk' => ?_)))
   k_with "binaryOp Add int int" => (k_here; k_dflt (refine ai_f (fun t' tk' => ?_)))
   k_with "binaryOp Sub int int" => (k_here; k_dflt (refine si_f (fun t' tk' => ?_)))
   k_with "binaryOp Add float float" => (k_here; k_dflt (refine af_f (fun t' tk' => ?_)))
   k_with "binaryOp Sub float float" => (k_here; k_dflt (refine sf_f (fun t' tk' => ?_)))
   k_with "binaryOp Mult float float" => (k_here; k_dflt (refine mf_f (fun t' tk' => ?_)))
   k_with "binaryOp Mod int int" => (k_here; k_dflt (refine mi_f (by decide) (fun t' tk' => ?_)))
   k_with "call ref" => (k_here; (with_reducible show wpAny _ _ (PySem.call (Value.ref 89) [Value.ref _]) _ _ _); k_dflt (refine' hue_use (by k_asm) (by k_asm) (by k_asm) (by k_asm) (by k_asm) (by first | exact rfl | assumption) (by ktr_room) (by ktr_units) (by first | k_mem | assumption | exact List.mem_cons_of_mem _ (by assumption)) (by assumption) (by first | assumption | exact Nat.mod_lt _ (by decide)) ?_; k_whole); intro t' h' tk' F' N'; (try k_sweep))
   k_with "eval ListComp" => (k_here; k_dflt (refine ListComp_U (F₀ := by k_asm) (by with_unfolding_all rfl) (by decide) (by rfl) (by decide) (by rfl) ?_))
   k_with "CompSrc" => (k_here; k_dflt (refine CompSrc.ledger (by rfl) (by k_asm) (by k_asm) (by k_mem) (by exact Nat.le_of_ble_eq_true rfl) ?_; intro g'))
   k_with "CompEnd" => (k_here; k_dflt (refine' comp_end0 (by k_asm) (by k_asm) (by assumption) (by first | exact trivial | exact .inr ⟨_, by k_mem, rfl, _, rfl⟩) ?_; k_whole); (try simp only [List.nil_append, List.cons_append]))
   k_with "exec For Name Call cons nil" => (k_here; k_dflt (refine wpAny_For ?_))
   k_with "subscriptTail Name Name ref int" => (k_here; (with_reducible show wpAny _ _ (subscriptTail _ _ (Value.ref _) (Value.int _ _)) _ _ _); k_dflt (first | (refine' item_hue4 (by k_asm) (by first | k_mem | ((repeat (refine List.mem_cons_of_mem _ ?_)); ktr_member)) (by omega) ?_ (by with_unfolding_all rfl) (by intro _; with_unfolding_all rfl); k_whole; intro t') | (refine' item_col (by k_asm) (by first | k_mem | ((repeat (refine List.mem_cons_of_mem _ ?_)); ktr_member)) (by first | k_mem | ((repeat (refine List.mem_cons_of_mem _ ?_)); ktr_member)) (by first | k_mem | ((repeat (refine List.mem_cons_of_mem _ ?_)); ktr_member)) (by first | k_mem | ((repeat (refine List.mem_cons_of_mem _ ?_)); ktr_member)) (by first | k_mem | ((repeat (refine List.mem_cons_of_mem _ ?_)); ktr_member)) (by assumption) (by assumption) (by assumption) (by assumption) (by omega) ?_ (by with_unfolding_all rfl) (by intro _; with_unfolding_all rfl); k_whole; intro c' o' hm' hc')))
   k_with "binaryOp Sub int float" => (k_here; k_dflt (refine' back_use (by assumption) ?_; k_whole); intro t' tk')
   k_with "binaryOp BitAnd int int" => (k_here; k_dflt (refine' low_use (by exact Nat.mod_lt _ (by decide)) ?_; k_whole); intro t' tk')
   k_with "call ref" => (k_here; (with_reducible show wpAny _ _ (PySem.call (Value.ref 96) [Value.ref _, Value.float (F16 _) _]) _ _ _); k_dflt (refine' turned_use (by k_asm) (by k_asm) (by k_asm) (by k_asm) (by k_asm) (by first | exact rfl | assumption) (by ktr_room) (by ktr_units) (by first | k_mem | assumption) (by assumption) (by assumption) (by exact ways_back _ (by omega)) (by omega) ?_; k_whole); intro D' o' h' tk' F' N' hc' l1; (try simp only [AllLt, and_true] at l1); (try k_sweep))
   k_with "call ref" => (k_here; (with_reducible show wpAny _ _ (PySem.call (Value.ref 62) [Value.ref _, Value.float (F16 _) _]) _ _ _); k_dflt (refine' left_mark (by k_asm) (by k_asm) (by k_asm) (by k_asm) (by k_asm) (by first | exact rfl | assumption) (by ktr_room) (by ktr_units) (by first | k_mem | ((repeat (refine List.mem_cons_of_mem _ ?_)); ktr_member)) (by assumption) (by exact Nat.mod_lt _ (by decide)) ?_; k_whole); intro t' h' tk' F' N'; (try k_sweep))
   k_with "call ref" => (k_here; (with_reducible show wpAny _ _ (PySem.call (Value.ref 70) [Value.int _ _]) _ _ _); k_dflt (refine' flags_low (by k_asm) (by k_asm) (by k_asm) (by k_asm) (by k_asm) (by first | exact rfl | assumption) (by ktr_room) (by ktr_units) (by exact Nat.mod_lt _ (by decide)) ?_; k_whole); intro t' h' tk' F' N'; (try k_sweep))
   k_with "call builtin:list.append" => (k_here; (with_reducible show wpAny _ _ (PySem.call (Value.builtin _) [Value.ref _, _]) _ _ _); k_dflt (refine' append_K (by k_asm) (by k_asm) (by first | k_upd | exact .tail (by k_ne) (.tail (by k_ne) (.tail (by k_ne) (.head (by with_reducible assumption))))) ?_ (by assumption); k_whole); intro h' F' N'; (try k_sweep))
   revert X; k_fill; intro X
   refine wpAny_call ?_
   k_dflt cell_enter
   rename Fr _ _ _ _ => F0
   replace F0 : Fr _ _ _ (fun y => List.lookup y [(Str.ofString "marks", .ref ml), (Str.ofString "colours", .ref pl)]) := F0
   refine gen_post (fun Qf hQf => ?_)
   k_steps
   rename _ ∧ c3 < _ ∧ c2 < _ ∧ _ ∧ _ ∧ _ ∧ _ ∧ AllLt _ news => lw
   k_dflt (refine' iter_outerM (ToldR c0 c1 c2 c3 pl ml o0 o1 o2 o3 p0 p1 p2 p3 n mn vm news) (toldW p0 p1 p2 p3) ?hh ?hx ?hp ?hr ?F ?N ?hR ?turn ?done ?hE)
   case hE => k_dflt passes_own
   case hh => rfl
   case hx => rfl
   case hp => rfl
   case hr => assumption
   case F => k_asm
   case N => exact news_tail (by assumption)
   case hR => exact ⟨_, _, _, _, _, _, rfl, rfl, fun wl e => by have e2 := Value.ref.inj (Option.some.inj e); subst e2; exact allLt_ne lw⟩
   case turn =>
     intro I i t' h' tk' vs k vj vg rest hi hR hs off F' N'
     have hpi := pickN_lt l0 l1 l2 l3 hi
     refine ToldR.use hR rfl fun t0 t1 t2 t3 k3 hhl hpl hml hc0 hc1 hc2 hc3 => ?_
     dsimp only
     refine gen_post (fun Q2 hQ2 => ?_)
     k_steps
     k_dflt (refine' iter_innerM (ToldR c0 c1 c2 c3 pl ml o0 o1 o2 o3 p0 p1 p2 p3 n mn vm news) (toldW p0 p1 p2 p3) ?hh2 ?hx2 ?hp2 hi ?hr2 ?F2 ?N2 ?hR2 hs ?turn2 ?done2 ?hE2)
     case hE2 => k_dflt passes_own
     case hh2 => rfl
     case hx2 => rfl
     case hp2 => rfl
     case hr2 => assumption
     case F2 => k_asm
     case N2 => k_asm
     case hR2 => exact hR
     case turn2 =>
       intro I₂ j t9 h9 tk9 vs9 k9 vg9 rest9 hj hR9 hs off₂ F' N'
       clear hR hhl hpl hml hc0 hc1 hc2 hc3
       refine ToldR.use hR9 rfl fun t0 t1 t2 t3 k3 hhl hpl hml hc0 hc1 hc2 hc3 => ?_
       have hwl := hR9.ne rfl
       have hpj := pickN_lt l0 l1 l2 l3 (Nat.lt_trans hj hi)
       simp only [AllLt] at off off₂
       have hsz := row_size hs hi hj
       dsimp only
       refine gen_post (fun Q3 hQ3 => ?_)
       k_steps
       all_goals (try subst hQ3)
       all_goals (try k_steps)
       rw [push_is] at *
       refine' unr_e1 ?F9 ?N9 ?o9 ?r9
       case F9 => assumption
       case N9 => assumption
       case o9 => exact off₂
       case r9 =>
         refine ⟨_, _, _, _, _, nm_g, rfl, hR9, ?_, off₂⟩
         rw [rowW_next]
         exact strs_append hs (.cons _ _ .nil)
     case done2 =>
       intro h9 tk9 vs9 k9 vj9 vg9 rest9 hR9 hs9 F' N'
       have off' := hR.lt hR9 off.2
       k_steps
       subst hQ2
       k_steps
       refine' unr_0 ?F8 ?N8 ?o8 ?r8
       case F8 => assumption
       case N8 => assumption
       case o8 => exact allLt_ne (l := _ :: _) ⟨off.1, off'⟩
       case r8 => exact ⟨_, _, _, _, _, _, rfl, rfl, hR9, hs9, off.1, off'⟩
   case done =>
     intro h' tk' vs k vi vj vg rest hR hs F' N'
     obtain ⟨hl, t0, t1, t2, t3, k3, he, rfl, _⟩ := hR
     have he2 := Value.ref.inj (Option.some.inj he)
     subst he2
     k_steps
     subst hQf
     k_steps
     refine ret _ _ _ _ _ (by assumption) (news_swap (by assumption)) hs ?_
     rename _ < _ ∧ c3 < _ ∧ _ ∧ _ ∧ _ ∧ _ ∧ ml < _ ∧ AllLt _ news => l8
     exact l8.2
end
end
section
open LCg
noncomputable def bodyOf : Stmt → List Stmt
  | .FunctionDef _ _ b _ _ _ _ _ _ _ => b
  | _ => []
noncomputable def scopesOf : Stmt → List Scope
  | .FunctionDef _ _ _ _ _ _ sc _ _ _ => [sc]
  | _ => []
/-- the law's statements from the k-th on -/
noncomputable def lawTail (k : Nat) (l : List Stmt) : List Stmt := (l.drop 19).flatMap fun st => (bodyOf st).drop k
noncomputable def lawScope (l : List Stmt) : Scope := ((l.drop 19).flatMap scopesOf).headD { kind := .function, names := [], isGenerator := false, isCoroutine := false, more := [] }
noncomputable abbrev lawBody : List Stmt := PySem.Challenge.pw_rl0062_01.main.body
noncomputable abbrev lawCells (L : Addr) : List (Str × Addr) := cellsFrom (L + 1) (lawScope lawBody).names []
noncomputable abbrev lawA (dp un : Nat) (gd : Option (List Code)) (L a : Addr) (ccd : Value) (outer : List Env) : Around := ktrTop dp un gd (Str.ofString "law") (lawScope lawBody) L a ccd (lawCells L) outer
noncomputable abbrev lawEnv (L a : Addr) (ccd : Value) : Env := envX (Str.ofString "law") (lawScope lawBody) L a ccd (lawCells L)
noncomputable def OffH (D : Nat) : List (Addr × Obj) → Prop
  | [] => True
  | p :: r => NeH p.1 D ∧ OffH D r
theorem offH_of {D : Addr} : ∀ {l : List (Addr × Obj)}, Off1 D l → OffH D l
  | [], _ => trivial
  | _ :: _, h => ⟨⟨h.1⟩, offH_of h.2⟩
theorem places_use {w : World} {mean : ExcName → Option Value} {mg mb : Str → Option Value} {loose : List Str}
  {dp un : Nat} {gd : Option (List Code)} {cn : Str} {cs : Scope} {a : Addr} {ccd : Value} {cl : List (Str × Addr)} {outer : List Env} {A₀ : Around} {base h₀ : Heap} {L : Addr} {m : Str → Option Value} {s : Shared} {Q E : Value → Shared → Prop} {news : List (Addr × Obj)} {x : Int} {tx : Tok}
  (B : Below A₀ base outer h₀) (F : Fr h₀ L s.heap m) (X : (hd.heap_39 w.params).In h₀) (N : News h₀ L s.heap news) (T : Top hd.view_39 loose mean mg mb h₀) (hk : cs.kind = .function)
  (hdp : dp + 2 < recursionLimit) (hun : un + 16 < cLine)
  (ret : ∀ (D : Addr) (p0 p1 p2 p3 : Int) (t0 t1 t2 t3 : Tok) (n : Nat) (h' : Heap) (tk' : Nat), (0 ≤ p0 ∧ p0 < 16) → (0 ≤ p1 ∧ p1 < 16) → (0 ≤ p2 ∧ p2 < 16) → (0 ≤ p3 ∧ p3 < 16) → Fr h₀ L h' m → News h₀ L h' ((D, PySem.W.listOf #[.int p0 t0, .int p1 t1, .int p2 t2, .int p3 t3] n) :: news) → OffH D news → Q (.ref D) { s with heap := h', toks := tk' }) :
   wpAny (model Challenge.rw_rl0062_01.row.prog w) (ktrTop dp un gd cn cs L a ccd cl outer) (call (.ref 82) [.int x tx]) Q E s :=
  places_call B F X N T hk hdp hun fun D p0 p1 p2 p3 t0 t1 t2 t3 n h' tk' a0 a1 a2 a3 F' N' o => ret D p0 p1 p2 p3 t0 t1 t2 t3 n h' tk' a0 a1 a2 a3 F' N' (offH_of o)
theorem mark_use {prog : Program} {w : World} {A : Around} {E : Value → Shared → Prop} {s : Shared} {Q : Value → Shared → Prop} {i : Nat} {t u : Tok} (hi : i < 16) (h : ∀ t k, Q (.float (F16 i) t) { s with toks := k }) :
    wpAny (model prog w) A (binaryOp .Mult (.int (i : Int) t) (.float 4589168020290535424 u)) Q E s := by
  refine mul_if_fits (small_fits (by omega) (by omega)) ?_
  rw [F16_of0 i hi]; exact h _ _
theorem hues_snoc {ys : List Value} {i : Nat} {t : Tok} (h : HuesAre ys (List.range i)) : HuesAre (ys ++ [.float (F16 i) t]) (List.range (i + 1)) := by
  rw [List.range_succ]; exact h.append ⟨⟨t, rfl⟩, trivial⟩
noncomputable abbrev mA (m : Str → Option Value) (nl al ml : Addr) : Str → Option Value :=
  fun y => if y = Str.ofString "marks" then some (.ref ml) else if y = Str.ofString "ones" then some (.ref al) else if y = Str.ofString "numbers" then some (.ref nl) else m y
noncomputable abbrev cellsL (L : Addr) (w8 w7 w6 w5 w4 w3 w2 w1 : Obj) : List (Addr × Obj) :=
  [(L + 1 + 1 + 1 + 1 + 1 + 1 + 1 + 1, w8), (L + 1 + 1 + 1 + 1 + 1 + 1 + 1, w7), (L + 1 + 1 + 1 + 1 + 1 + 1, w6), (L + 1 + 1 + 1 + 1 + 1, w5), (L + 1 + 1 + 1 + 1, w4), (L + 1 + 1 + 1, w3), (L + 1 + 1, w2), (L + 1, w1)]
/-- a stage's end: the walk stops here -/
noncomputable def StageAt (P : Prop) : Prop := P
theorem StageAt.intro {P : Prop} (h : StageAt P) : P := h
/-- it is none of the law's cells -/
noncomputable def OffC (L x : Nat) : Prop := NeH (L + 1 + 1 + 1 + 1 + 1 + 1 + 1 + 1) x ∧ NeH (L + 1 + 1 + 1 + 1 + 1 + 1 + 1) x ∧ NeH (L + 1 + 1 + 1 + 1 + 1 + 1) x ∧ NeH (L + 1 + 1 + 1 + 1 + 1) x ∧ NeH (L + 1 + 1 + 1 + 1) x ∧ NeH (L + 1 + 1 + 1) x ∧ NeH (L + 1 + 1) x ∧ NeH (L + 1) x
/-- a list of four ints -/
noncomputable abbrev four (p0 p1 p2 p3 : Int) (t0 t1 t2 t3 : Tok) (n : Nat) : Obj := PySem.W.listOf #[.int p0 t0, .int p1 t1, .int p2 t2, .int p3 t3] n
noncomputable def In16 (p0 p1 p2 p3 : Int) : Prop := (0 ≤ p0 ∧ p0 < 16) ∧ (0 ≤ p1 ∧ p1 < 16) ∧ (0 ≤ p2 ∧ p2 < 16) ∧ (0 ≤ p3 ∧ p3 < 16)
noncomputable def IsFour (o : Obj) (p0 p1 p2 p3 : Int) : Prop := ∃ t0 t1 t2 t3 n, o = four p0 p1 p2 p3 t0 t1 t2 t3 n
noncomputable def IsThree (o : Obj) (n0 n1 n2 : Int) : Prop := ∃ t0 t1 t2 n, o = PySem.W.listOf #[.int n0 t0, .int n1 t1, .int n2 t2] n
noncomputable def IsMarks (o : Obj) : Prop := ∃ vm k, o = PySem.W.listOf vm.toArray k ∧ HuesAre vm (List.range 16)
noncomputable abbrev cellOf (o : Obj) (v : Value) : Prop := o.data = .cell (some v)
noncomputable abbrev ledA (L nl al bl ml : Addr) (on oa ob om w8 w7 w6 w5 w4 w3 w2 w1 : Obj) : List (Addr × Obj) := (ml, om) :: (bl, ob) :: (al, oa) :: (nl, on) :: cellsL L w8 w7 w6 w5 w4 w3 w2 w1
section
variable {w : World} {mean : ExcName → Option Value} {mg mb : Str → Option Value} {loose : List Str}
  {dp un : Nat} {gd : Option (List Code)} {a : Addr} {ccd : Value} {outer : List Env} {A₀ : Around} {base h₀ : Heap} {L : Addr} {m : Str → Option Value} {s : Shared} {Q : Flow → Shared → Prop} {E : Value → Shared → Prop}
theorem stage1 {sl : Addr} {vs : List Value} {ns : List Int} {w8 w7 w6 w5 w4 w3 w2 w1 : Obj} {v8 v7 v6 v5 v4 v3 v2 v1 : Option Value}
  (B : Below A₀ base outer h₀) (F : Fr h₀ L s.heap (fun y => if y = Str.ofString "script" then some (.ref sl) else m y)) (X : (hd.heap_39 w.params).In h₀) (N : News h₀ L s.heap (cellsL L w8 w7 w6 w5 w4 w3 w2 w1)) (T : Top hd.view_39 loose mean mg mb h₀)
  (hdp : dp + 8 < recursionLimit) (hun : un + 64 < cLine) (hl : base.IsList sl vs.toArray) (hi : IntsAre vs ns) (hle : ns.length ≤ 63)
  (d8 : w8.data = .cell v8) (d7 : w7.data = .cell v7) (d6 : w6.data = .cell v6) (d5 : w5.data = .cell v5) (d4 : w4.data = .cell v4) (d3 : w3.data = .cell v3) (d2 : w2.data = .cell v2) (d1 : w1.data = .cell v1)
  (next : ∀ (nl al bl ml : Addr) (on oa ob om o3 o2 o1 : Obj) (n0 n1 n2 p0 p1 p2 p3 q0 q1 q2 q3 : Int) (t1 t2 : Tok) (h' : Heap) (tk' : Nat), IsThree on n0 n1 n2 → IsFour oa p0 p1 p2 p3 → IsFour ob q0 q1 q2 q3 → IsMarks om → In16 p0 p1 p2 p3 → In16 q0 q1 q2 q3 →
    cellOf o1 (.ref bl) → cellOf o2 (.int (1 + 2 * n2.fmod 8) t1) → cellOf o3 (.float 4589168020290535424 t2) → AllLt nl (cellsL L w8 w7 w6 w5 w4 o3 o2 o1) → OffC L al → OffC L bl → OffC L ml →
    Fr h₀ L h' (mA (fun y => if y = Str.ofString "script" then some (.ref sl) else m y) nl al ml) → News h₀ L h' (ledA L nl al bl ml on oa ob om w8 w7 w6 w5 w4 o3 o2 o1) →
    wpAny (model Challenge.rw_rl0062_01.row.prog w) (lawA dp un gd L a ccd outer) (execs (lawTail 4 lawBody) (lawEnv L a ccd)) Q E { s with heap := h', toks := tk' }) :
   wpAny (model Challenge.rw_rl0062_01.row.prog w) (lawA dp un gd L a ccd outer) (execs (lawTail 0 lawBody) (lawEnv L a ccd)) Q E s := by
   w_top off
   k_with_none
   k_with "eval Constant int" => (k_here; k_dflt (refine ci_f (fun t' tk' => ?_)))
   k_with "eval Constant str" => (k_here; k_dflt (refine cs_f (fun t' tk' => ?_)))
   k_with "eval Constant float" => (k_here; k_dflt (refine cf_f (fun t' tk' => ?_)))
   k_with "binaryOp Add int int" => (k_here; k_dflt (refine ai_f (fun t' tk' => ?_)))
   k_with "binaryOp Sub int int" => (k_here; k_dflt (refine si_f (fun t' tk' => ?_)))
   k_with "binaryOp Add float float" => (k_here; k_dflt (refine af_f (fun t' tk' => ?_)))
   k_with "binaryOp Sub float float" => (k_here; k_dflt (refine sf_f (fun t' tk' => ?_)))
   k_with "binaryOp Mult float float" => (k_here; k_dflt (refine mf_f (fun t' tk' => ?_)))
   k_with "binaryOp Mod int int" => (k_here; k_dflt (refine mi_f (by decide) (fun t' tk' => ?_)))
   k_with "FinA" => (k_here; dsimp only [LCg.FinA]; intro D' h' tk' F' N' o1'; replace o1' := offH_of o1'; (try simp only [OffH, and_true] at o1'); (repeat (obtain ⟨q9', o1'⟩ := o1')); (try k_sweep))
   k_with "FinE" => (k_here; dsimp only [LCg.FinE]; intro D' h' tk' F' N' o1'; replace o1' := offH_of o1'; (try simp only [OffH, and_true] at o1'); (repeat (obtain ⟨q9', o1'⟩ := o1')); (try k_sweep))
   k_with "call ref" => (k_here; (with_reducible show wpAny _ _ (PySem.call (Value.ref 77) [Value.ref _]) _ _ _); k_dflt (refine' numbers_call (by k_asm) (by k_asm) (by k_asm) (by k_asm) (by k_asm) (by first | exact rfl | assumption) (by ktr_room) (by ktr_units) (by assumption) (by assumption) (by omega) ?_; k_whole); intro D' n0' n1' n2' t0' t1' t2' n' h' tk' F' N' l1; (try simp only [AllLt, and_true] at l1); (try k_sweep))
   k_with "call ref" => (k_here; (with_reducible show wpAny _ _ (PySem.call (Value.ref 82) [Value.int _ _]) _ _ _); k_dflt (refine' places_use (by k_asm) (by k_asm) (by k_asm) (by k_asm) (by k_asm) (by first | exact rfl | assumption) (by ktr_room) (by ktr_units) ?_; k_whole); intro D' p0' p1' p2' p3' t0' t1' t2' t3' n' h' tk' hp0' hp1' hp2' hp3' F' N' l1; (try simp only [OffH, and_true] at l1); (repeat (obtain ⟨q9', l1⟩ := l1)); (try k_sweep))
   k_with "call ref" => (k_here; (with_reducible show wpAny _ _ (PySem.call (Value.ref 28) [Value.int 15 _, Value.int 16 _, Value.int 16 _]) _ _ _); k_dflt (refine' hsv_15 (by k_asm) (by k_asm) (by k_asm) (by k_asm) (by k_asm) (by first | exact rfl | assumption) (by ktr_room) (by ktr_units) ?_; k_whole); intro D' a' b' t2' n' h' tk' F' N' l1; (try simp only [AllLt, and_true] at l1); (try k_sweep))
   k_with "exec Assign cons ListComp" => (k_here; k_dflt (refine Assign_ListComp_U (F₀ := by k_asm) (by rfl) (by with_unfolding_all rfl) (by with_unfolding_all rfl) (by decide) (by rfl) (by decide) (by rfl) (by rfl) (by rfl) ?_))
   k_with "CompSrc" => (k_here; k_dflt (refine' src_range (fun i ys => HuesAre ys (List.range i)) 16 (by rfl) (by k_asm) (by k_asm) (by assumption) (by decide) (by decide) (by rw [sizeLine_eq]; decide) (by exact trivial) (fun g' ys' hs' => ?_) (fun g' i' ys' hi' hs' v' I' oI' C' oC' D' m' h' tk' E' hP' hC' hx' F' N' off' ne' => ?_); rotate_left; obtain ⟨t9', hv9'⟩ := hP'; subst hv9'))
   k_with "CompEnd" => (k_here; k_dflt (refine' comp_end0 (by k_asm) (by k_asm) (by assumption) (by first | exact trivial | exact .inr ⟨_, by k_mem, rfl, _, rfl⟩) ⟨rfl, ?_⟩))
   k_with "binaryOp Mult int float" => (k_here; k_dflt (refine' mark_use (by assumption) ?_; k_whole); intro t' tk')
   k_with "execs cons" => (k_extra "stage")
   revert X; k_fill; intro X
   dsimp only [lawA, lawEnv, lawCells, lawBody, PySem.Challenge.pw_rl0062_01, lawTail, lawScope, bodyOf, scopesOf, List.drop, List.flatMap, List.map, List.flatten, List.append, HAppend.hAppend, Append.append, List.headD]
   dsimp only [lawA, lawEnv, lawCells, lawBody, PySem.Challenge.pw_rl0062_01, lawTail, lawScope, bodyOf, scopesOf, List.drop, List.flatMap, List.map, List.flatten, List.append, HAppend.hAppend, Append.append, List.headD] at next
   k_with "stage" => ((with_reducible show wpAny _ _ (execs (Stmt.Assign [Expr.Name (Str.ofString "first") _] _ _ :: _) _) _ _ _); refine StageAt.intro ?_)
   k_steps
   · exact hues_snoc (by assumption)
   unfold StageAt
   rename Fr _ _ _ _ => F5
   rename News _ _ _ _ => N5
   rename _ = Data.cell (some (Value.ref _)) => d5
   rename _ = Data.cell (some (Value.int _ _)) => d6
   rename _ = Data.cell (some (Value.float _ _)) => d7
   refine next _ _ _ _ _ _ _ _ _ _ _ _ _ _ _ _ _ _ _ _ _ _ _ _ _ _ ⟨_, _, _, _, rfl⟩ ⟨_, _, _, _, _, rfl⟩ ⟨_, _, _, _, _, rfl⟩ ⟨_, _, rfl, by assumption⟩ ?_ ?_ d5 d6 d7 ?_ ?_ ?_ ?_ F5 (cb_drop N5 (by (repeat' (first | exact List.forall_mem_nil _ | refine List.forall_mem_cons.mpr ⟨by k_mem, ?_⟩))))
   · exact ⟨by with_reducible assumption, by with_reducible assumption, by with_reducible assumption, by with_reducible assumption⟩
   · exact ⟨by with_reducible assumption, by with_reducible assumption, by with_reducible assumption, by with_reducible assumption⟩
   · simp only [AllLt, and_true]; omega
   · exact ⟨by with_reducible assumption, by with_reducible assumption, by with_reducible assumption, by with_reducible assumption, by with_reducible assumption, by with_reducible assumption, by with_reducible assumption, by with_reducible assumption⟩
   · exact ⟨by with_reducible assumption, by with_reducible assumption, by with_reducible assumption, by with_reducible assumption, by with_reducible assumption, by with_reducible assumption, by with_reducible assumption, by with_reducible assumption⟩
   · exact ⟨by with_reducible assumption, by with_reducible assumption, by with_reducible assumption, by with_reducible assumption, by with_reducible assumption, by with_reducible assumption, by with_reducible assumption, by with_reducible assumption⟩
end
end
section
open LCg
section
variable {w : World} {mean : ExcName → Option Value} {mg mb : Str → Option Value} {loose : List Str}
  {dp un : Nat} {gd : Option (List Code)} {cn : Str} {cs : Scope} {a : Addr} {ccd : Value} {cl : List (Str × Addr)} {outer : List Env} {A₀ : Around} {base h₀ : Heap} {L : Addr} {m : Str → Option Value} {s : Shared} {Q E : Value → Shared → Prop} {news : List (Addr × Obj)}
noncomputable abbrev palL (l : Addr) (k : Nat) (c0 c1 c2 c3 : Addr) (o0 o1 o2 o3 : Obj) (news : List (Addr × Obj)) : List (Addr × Obj) :=
  (c3, o3) :: (c2, o2) :: (c1, o1) :: (c0, o0) :: (l, PySem.W.listOf #[.ref c0, .ref c1, .ref c2, .ref c3] k) :: news
theorem painted_use {pl : Addr} {op : Obj} {p0 p1 p2 p3 num : Int} {t4 t5 : Tok}
  (B : Below A₀ base outer h₀) (F : Fr h₀ L s.heap m) (X : (hd.heap_39 w.params).In h₀) (N : News h₀ L s.heap news) (T : Top hd.view_39 loose mean mg mb h₀) (hk : cs.kind = .function)
  (hdp : dp + 2 < recursionLimit) (hun : un + 16 < cLine) (hm : (pl, op) ∈ news) (ho : IsFour op p0 p1 p2 p3) (hi : In16 p0 p1 p2 p3)
  (ret : ∀ (lst c0 c1 c2 c3 : Addr) (o0 o1 o2 o3 : Obj) (k : Nat) (h' : Heap) (tk' : Nat), Fr h₀ L h' m →
    News h₀ L h' (palL lst k c0 c1 c2 c3 o0 o1 o2 o3 news) →
    IsCol o0 p0.toNat → IsCol o1 p1.toNat → IsCol o2 p2.toNat → IsCol o3 p3.toNat → AllLt lst news → (lst < c0 ∧ c0 < c1 ∧ c1 < c2 ∧ c2 < c3) → Q (.ref lst) { s with heap := h', toks := tk' }) :
   wpAny (model Challenge.rw_rl0062_01.row.prog w) (ktrTop dp un gd cn cs L a ccd cl outer) (call (.ref 103) [.ref pl, .float 4589168020290535424 t4, .int num t5]) Q E s := by
  obtain ⟨t0, t1, t2, t3, n, rfl⟩ := ho
  obtain ⟨⟨a0, b0⟩, ⟨a1, b1⟩, ⟨a2, b2⟩, a3, b3⟩ := hi
  refine painted_call B F X (news_dup N hm) T hk hdp hun a0 b0 a1 b1 a2 b2 a3 b3 fun lst c0 c1 c2 c3 o0 o1 o2 o3 k h' tk' F' N' i0 i1 i2 i3 l1 l2 => ?_
  refine ret lst c0 c1 c2 c3 o0 o1 o2 o3 k h' tk' F' (cb_drop N' fun p hp => ?_) i0 i1 i2 i3 l1.2 l2
  simp only [palL, List.mem_cons] at hp ⊢
  rcases hp with h | h | h | h | h | h
  · exact .inl h
  · exact .inr (.inl h)
  · exact .inr (.inr (.inl h))
  · exact .inr (.inr (.inr (.inl h)))
  · exact .inr (.inr (.inr (.inr (.inl h))))
  · exact .inr (.inr (.inr (.inr (.inr (.inr h)))))
end
section
variable {w : World} {mean : ExcName → Option Value} {mg mb : Str → Option Value} {loose : List Str}
  {dp un : Nat} {gd : Option (List Code)} {a : Addr} {ccd : Value} {outer : List Env} {A₀ : Around} {base h₀ : Heap} {L : Addr} {m : Str → Option Value} {s : Shared} {Q : Flow → Shared → Prop} {E : Value → Shared → Prop}
noncomputable abbrev mB (m : Str → Option Value) (fl sl : Addr) : Str → Option Value :=
  fun y => if y = Str.ofString "second" then some (.ref sl) else if y = Str.ofString "first" then some (.ref fl) else m y
noncomputable abbrev ledB (L nl al bl ml fl sl c0 c1 c2 c3 e0 e1 e2 e3 : Addr) (k j : Nat) (o0 o1 o2 o3 u0 u1 u2 u3 on oa ob om w8 w7 w6 w5 w4 w3 w2 w1 : Obj) : List (Addr × Obj) :=
  palL sl j e0 e1 e2 e3 u0 u1 u2 u3 (palL fl k c0 c1 c2 c3 o0 o1 o2 o3 (ledA L nl al bl ml on oa ob om w8 w7 w6 w5 w4 w3 w2 w1))
theorem stage2 {nl al bl ml : Addr} {oa ob om w8 w7 w6 w5 w4 w3 w2 w1 : Obj} {v8 v7 v6 v5 v4 : Option Value} {n0 n1 n2 tm p0 p1 p2 p3 q0 q1 q2 q3 : Int} {y0 y1 y2 y3 y4 : Tok} {nn : Nat}
  (B : Below A₀ base outer h₀) (F : Fr h₀ L s.heap (mA m nl al ml)) (X : (hd.heap_39 w.params).In h₀) (N : News h₀ L s.heap (ledA L nl al bl ml (PySem.W.listOf #[.int n0 y0, .int n1 y1, .int n2 y2] nn) oa ob om w8 w7 w6 w5 w4 w3 w2 w1)) (T : Top hd.view_39 loose mean mg mb h₀)
  (hdp : dp + 8 < recursionLimit) (hun : un + 64 < cLine)
  (d8 : w8.data = .cell v8) (d7 : w7.data = .cell v7) (d6 : w6.data = .cell v6) (d5 : w5.data = .cell v5) (d4 : w4.data = .cell v4) (d3 : w3.data = .cell (some (.float 4589168020290535424 y3))) (d2 : w2.data = .cell (some (.int tm y4))) (d1 : w1.data = .cell (some (.ref bl)))
  (ha : IsFour oa p0 p1 p2 p3) (hb : IsFour ob q0 q1 q2 q3) (ia : In16 p0 p1 p2 p3) (ib : In16 q0 q1 q2 q3)
  (next : ∀ (fl c0 c1 c2 c3 sl e0 e1 e2 e3 : Addr) (k j : Nat) (o0 o1 o2 o3 u0 u1 u2 u3 : Obj) (h' : Heap) (tk' : Nat), IsCol o0 p0.toNat → IsCol o1 p1.toNat → IsCol o2 p2.toNat → IsCol o3 p3.toNat → IsCol u0 q0.toNat → IsCol u1 q1.toNat → IsCol u2 q2.toNat → IsCol u3 q3.toNat →
    AllLt fl (ledA L nl al bl ml (PySem.W.listOf #[.int n0 y0, .int n1 y1, .int n2 y2] nn) oa ob om w8 w7 w6 w5 w4 w3 w2 w1) → (fl < c0 ∧ c0 < c1 ∧ c1 < c2 ∧ c2 < c3) → c3 < sl → (sl < e0 ∧ e0 < e1 ∧ e1 < e2 ∧ e2 < e3) →
    Fr h₀ L h' (mB (mA m nl al ml) fl sl) → News h₀ L h' (ledB L nl al bl ml fl sl c0 c1 c2 c3 e0 e1 e2 e3 k j o0 o1 o2 o3 u0 u1 u2 u3 (PySem.W.listOf #[.int n0 y0, .int n1 y1, .int n2 y2] nn) oa ob om w8 w7 w6 w5 w4 w3 w2 w1) →
    wpAny (model Challenge.rw_rl0062_01.row.prog w) (lawA dp un gd L a ccd outer) (execs (lawTail 6 lawBody) (lawEnv L a ccd)) Q E { s with heap := h', toks := tk' }) :
   wpAny (model Challenge.rw_rl0062_01.row.prog w) (lawA dp un gd L a ccd outer) (execs (lawTail 4 lawBody) (lawEnv L a ccd)) Q E s := by
   w_top off
   k_with_none
   k_with "eval Constant int" => (k_here; k_dflt (refine ci_f (fun t' tk' => ?_)))
   k_with "eval Constant str" => (k_here; k_dflt (refine cs_f (fun t' tk' => ?_)))
   k_with "eval Constant float" => (k_here; k_dflt (refine cf_f (fun t' tk' => ?_)))
   k_with "binaryOp Add int int" => (k_here; k_dflt (refine ai_f (fun t' tk' => ?_)))
   k_with "binaryOp Sub int int" => (k_here; k_dflt (refine si_f (fun t' tk' => ?_)))
   k_with "binaryOp Add float float" => (k_here; k_dflt (refine af_f (fun t' tk' => ?_)))
   k_with "binaryOp Sub float float" => (k_here; k_dflt (refine sf_f (fun t' tk' => ?_)))
   k_with "binaryOp Mult float float" => (k_here; k_dflt (refine mf_f (fun t' tk' => ?_)))
   k_with "binaryOp Mod int int" => (k_here; k_dflt (refine mi_f (by decide) (fun t' tk' => ?_)))
   k_with "call ref" => (k_here; (with_reducible show wpAny _ _ (PySem.call (Value.ref 103) [Value.ref _, Value.float _ _, Value.int _ _]) _ _ _); k_dflt (refine' painted_use (by k_asm) (by k_asm) (by k_asm) (by k_asm) (by k_asm) (by first | exact rfl | assumption) (by ktr_room) (by ktr_units) (by k_mem) (by with_reducible assumption) (by with_reducible assumption) ?_; k_whole); intro lst' c0' c1' c2' c3' o0' o1' o2' o3' k' h' tk' F' N' i0' i1' i2' i3' l1 l2; (try simp only [AllLt, and_true] at l1); (try k_sweep))
   k_with "execs cons" => (k_extra "stage")
   k_with "execs cons Assign cons" => (k_extra "stage")
   revert X; k_fill; intro X
   dsimp only [lawA, lawEnv, lawCells, lawBody, PySem.Challenge.pw_rl0062_01, lawTail, lawScope, bodyOf, scopesOf, List.drop, List.flatMap, List.map, List.flatten, List.append, HAppend.hAppend, Append.append, List.headD]
   dsimp only [lawA, lawEnv, lawCells, lawBody, PySem.Challenge.pw_rl0062_01, lawTail, lawScope, bodyOf, scopesOf, List.drop, List.flatMap, List.map, List.flatten, List.append, HAppend.hAppend, Append.append, List.headD] at next
   k_with "stage" => ((with_reducible show wpAny _ _ (execs (Stmt.Assign [Expr.Name (Str.ofString "row") _] _ _ :: _) _) _ _ _); refine StageAt.intro ?_)
   k_steps
   unfold StageAt
   rename Fr _ _ _ _ => F5
   rename News _ _ _ _ => N5
   refine next _ _ _ _ _ _ _ _ _ _ _ _ _ _ _ _ _ _ _ _ _ _ (by with_reducible assumption) (by with_reducible assumption) (by with_reducible assumption) (by with_reducible assumption) (by with_reducible assumption) (by with_reducible assumption) (by with_reducible assumption) (by with_reducible assumption) ?_ (by with_reducible assumption) ?_ (by with_reducible assumption) F5 N5
   · simp only [AllLt, and_true]; with_reducible assumption
   · exact ltN (by omega)
end
end
section
open LCg
/-- the row after n hues were laid in -/
noncomputable def rowN (f : Nat → Nat) : Nat → List Nat
  | 0 => []
  | n + 1 => insR (rowN f n) (f n)
theorem insR_perm (ns : List Nat) (q : Nat) : (insR ns q).Perm (q :: ns) := by
  unfold insR
  refine List.perm_middle.trans ?_
  rw [List.take_append_drop]
theorem climbs_pair {ns : List Nat} (h : ns.Pairwise (· ≤ ·)) : Climbs ns := by
  intro i j hij hj
  rw [List.getD_eq_getElem?_getD, List.getD_eq_getElem?_getD, List.getElem?_eq_getElem hj, List.getElem?_eq_getElem (by omega)]
  simp only [Option.getD_some]
  rcases Nat.lt_or_eq_of_le hij with h1 | h1
  · exact List.pairwise_iff_getElem.mp h i j (by omega) hj h1
  · subst h1; exact Nat.le_refl _
theorem take_count : ∀ {ns : List Nat} {q : Nat}, ns.Pairwise (· ≤ ·) → ns.take (ns.countP fun x => decide (x ≤ q)) = ns.filter (fun x => decide (x ≤ q)) ∧ ns.drop (ns.countP fun x => decide (x ≤ q)) = ns.filter (fun x => !decide (x ≤ q))
  | [], _, _ => ⟨rfl, rfl⟩
  | a :: r, q, h => by
    have h' := List.pairwise_cons.mp h
    by_cases ha : a ≤ q
    · obtain ⟨i1, i2⟩ := take_count (q := q) h'.2
      simp only [List.countP_cons, ha, decide_true, if_true, List.take_succ_cons, List.drop_succ_cons, List.filter_cons, Bool.not_true, Bool.false_eq_true, if_false]
      exact ⟨by rw [i1], i2⟩
    · have z : (a :: r).countP (fun x => decide (x ≤ q)) = 0 := by
        rw [List.countP_eq_zero]
        intro x hx
        rcases List.mem_cons.mp hx with rfl | hx
        · simpa using ha
        · have := h'.1 x hx; simp; omega
      rw [z]
      refine ⟨?_, ?_⟩
      · rw [List.take_zero]; symm
        rw [List.filter_eq_nil_iff]
        intro x hx
        have := (List.countP_eq_zero.mp z) x hx
        exact this
      · rw [List.drop_zero]; symm
        rw [List.filter_eq_self]
        intro x hx
        have := (List.countP_eq_zero.mp z) x hx
        simpa using this
theorem insR_pair {ns : List Nat} {q : Nat} (h : ns.Pairwise (· ≤ ·)) : (insR ns q).Pairwise (· ≤ ·) := by
  unfold insR
  rw [(take_count h).1, (take_count h).2]
  rw [List.pairwise_append]
  refine ⟨h.filter _, ?_, ?_⟩
  · rw [List.pairwise_cons]
    refine ⟨fun x hx => ?_, h.filter _⟩
    have := (List.mem_filter.mp hx).2
    simp at this; omega
  · intro x hx y hy
    have h1 := (List.mem_filter.mp hx).2
    simp at h1
    rcases List.mem_cons.mp hy with rfl | hy
    · exact h1
    · have := (List.mem_filter.mp hy).2
      simp at this; omega
theorem rowN_pair (f : Nat → Nat) : ∀ n, (rowN f n).Pairwise (· ≤ ·)
  | 0 => .nil
  | n + 1 => insR_pair (rowN_pair f n)
theorem rowN_perm (f : Nat → Nat) : ∀ n, (rowN f n).Perm ((List.range n).map f)
  | 0 => .nil
  | n + 1 => by
    rw [List.range_succ, List.map_append]
    refine (insR_perm _ _).trans ?_
    refine ((rowN_perm f n).cons _).trans ?_
    exact (List.perm_append_singleton _ _).symm
theorem rowN_len (f : Nat → Nat) (n : Nat) : (rowN f n).length = n := by
  rw [(rowN_perm f n).length_eq, List.length_map, List.length_range]
theorem rowN_lt {f : Nat → Nat} (hf : ∀ k, f k < 16) (n : Nat) : ∀ i ∈ rowN f n, i < 16 := fun i hi => by
  obtain ⟨k, _, rfl⟩ := List.mem_map.mp ((rowN_perm f n).mem_iff.mp hi)
  exact hf k
theorem rowN_climbs (f : Nat → Nat) (n : Nat) : Climbs (rowN f n) := climbs_pair (rowN_pair f n)
/-- the k-th of the sums -/
noncomputable def sumAt (t p0 p1 p2 p3 q0 q1 q2 q3 : Nat) (k : Nat) : Nat := (pickN q0 q1 q2 q3 (k % 4) + (1 + 2 * t) * pickN p0 p1 p2 p3 (k / 4)) % 16
theorem sumAt_lt {t p0 p1 p2 p3 q0 q1 q2 q3 : Nat} (k : Nat) : sumAt t p0 p1 p2 p3 q0 q1 q2 q3 k < 16 := Nat.mod_lt _ (by decide)
theorem sumAt_is {t p0 p1 p2 p3 q0 q1 q2 q3 i j : Nat} (hj : j < 4) : sumAt t p0 p1 p2 p3 q0 q1 q2 q3 (4 * i + j) = (pickN q0 q1 q2 q3 j + (1 + 2 * t) * pickN p0 p1 p2 p3 i) % 16 := by
  unfold sumAt
  rw [show (4 * i + j) % 4 = j by omega, show (4 * i + j) / 4 = i by omega]
section
variable {prog : Program} {w : World} {A : Around} {E : Value → Shared → Prop} {s : Shared} {env : Env} {h₀ : Heap} {x : Str} {px : Pos} {body : List Stmt} {Q : Flow → Shared → Prop}
theorem UnrPost.weaken {L I : Addr} {it : Obj} {s₁ s₂ : Shared} {r r' : (Str → Option Value) → List (Addr × Obj) → Prop} {f : Flow} (h : UnrPost h₀ L s₁ I it r Q f s₂) (hr : ∀ m' n', r m' n' → r' m' n') : UnrPost h₀ L s₁ I it r' Q f s₂ := by
  have go : UnrEnd h₀ L s₁ I it r s₂ → UnrEnd h₀ L s₁ I it r' s₂ := by
    rintro ⟨h', tk, m', news', e, F, N, off, hh⟩
    exact ⟨h', tk, m', news', e, F, N, off, hr _ _ hh⟩
  cases f with
  | ret v => exact h
  | brk => exact h
  | next => exact go h
  | cont => exact go h
theorem rest_for {I : Addr} {lp : Addr × Obj} {vs : List Value} (J : Nat → (Str → Option Value) → List (Addr × Obj) → Prop)
    (turn : ∀ i v it h tk m₁ news₁, i < vs.length → vs[i]? = some v → J i m₁ news₁ → it.cls = .type "list_iterator" → Fr h₀ env.locals h (fun y => if y = x then some v else m₁ y) → News h₀ env.locals h ((I, it) :: news₁) →
      wpAny (model prog w) A (execs body env) (UnrPost h₀ env.locals { s with heap := h, toks := tk } I it (fun m' n' => lp ∈ n' ∧ J (i + 1) m' n') Q) E { s with heap := h, toks := tk })
    (done : ∀ h tk m₁ news₁, J vs.length m₁ news₁ → Fr h₀ env.locals h m₁ → News h₀ env.locals h news₁ → Q .next { s with heap := h, toks := tk }) :
    ∀ k i m₁ news₁, i + k = vs.length → J i m₁ news₁ → ListRest prog w A E h₀ env x body Q s I lp (vs.drop i) m₁ news₁
  | 0, i, m₁, news₁, e, hJ => by
    obtain rfl : i = vs.length := by omega
    rw [List.drop_length]
    exact ListRest.zero fun h tk F N => done h tk m₁ news₁ hJ F N
  | k + 1, i, m₁, news₁, e, hJ => by
    have hlt : i < vs.length := by omega
    rw [List.drop_eq_getElem_cons hlt]
    refine ListRest.succ fun it h tk hc F N => ?_
    refine wpAny_mono (turn i _ it h tk m₁ news₁ hlt (List.getElem?_eq_getElem hlt) hJ hc F N) (fun f s₂ h₂ => UnrPost.weaken h₂ fun m' n' r => ⟨r.1, rest_for J turn done k (i + 1) m' n' (by omega) r.2⟩) fun _ _ e => e
/-- a loop over a list of the ledger, by what holds ahead of each turn -/
theorem iter_listJ {ax : Addr} {lo : Obj} {vs : List Value} {n : Nat} {m₀ : Str → Option Value} {news : List (Addr × Obj)} (J : Addr → Nat → (Str → Option Value) → List (Addr × Obj) → Prop)
    (hh : A.handled = none) (hx : env.kindOf x = some .local) (hp : (env.scope.kind == .class || (env.scope.kind == .module && env.locals != env.globals)) = false)
    (F : Fr h₀ env.locals s.heap m₀) (N : News h₀ env.locals s.heap news) (hm : (ax, lo) ∈ news) (hc : lo.cls = .type "list") (hd : lo.data = .seq vs.toArray n)
    (hJ : ∀ I : Addr, AllLt I news → J I 0 m₀ news)
    (turn : ∀ (I : Addr) i v it h tk m₁ news₁, i < vs.length → vs[i]? = some v → J I i m₁ news₁ → it.cls = .type "list_iterator" → Fr h₀ env.locals h (fun y => if y = x then some v else m₁ y) → News h₀ env.locals h ((I, it) :: news₁) →
      wpAny (model prog w) A (execs body env) (UnrPost h₀ env.locals { s with heap := h, toks := tk } I it (fun m' n' => (ax, lo) ∈ n' ∧ J I (i + 1) m' n') Q) E { s with heap := h, toks := tk })
    (done : ∀ (I : Addr) h tk m₁ news₁, J I vs.length m₁ news₁ → Fr h₀ env.locals h m₁ → News h₀ env.locals h news₁ → Q .next { s with heap := h, toks := tk })
    (hE : PassesOwn (model prog w) A env E) :
    wpAny (model prog w) A (pyIter (.ref ax)) (fun it s₂ => codeAny (model prog w) A (.forLoop (.Name x px) it body [] env) (fun r s' => match r with | .ok f => Q f s' | .error e => cameBackBy (model prog w) A env E e s') s₂) E s := by
  refine wpAny_mono (iter_listUnr (x := x) (body := body) (Q := Q) hh F N hm hc hd fun I l => ?_) (fun it s₂ h₂ => ?_) fun _ _ e => e
  · have r := rest_for (prog := prog) (w := w) (A := A) (E := E) (s := s) (env := env) (h₀ := h₀) (x := x) (body := body) (Q := Q) (I := I) (lp := (ax, lo)) (vs := vs) (J I) (turn I) (done I) vs.length 0 m₀ news (by omega) (hJ I (allLt_of l))
    rw [List.drop_zero] at r
    exact r
  · obtain ⟨I, fp, wr, n, P, St, m, news, J, rfl, W, hLf, hwr, hnw, hst, F, N, h0, step, hQ⟩ := h₂
    exact codeAny_forLoop_frV (R := fun r s' => match r with | .ok f => Q f s' | .error e => cameBackBy (model prog w) A env E e s') W hx hp hLf hwr hnw hst F N J h0 (by intros; exact wpAny_passesOwn hE (by apply step <;> assumption)) hQ
end
end
section
open LCg
noncomputable def nw (m : Str → Option Value) (v1 v2 v3 : Option Value) : Str → Option Value :=
  fun y => if y = Str.ofString "other" then v3 else if y = Str.ofString "way" then v2 else if y = Str.ofString "one" then v1 else m y
theorem nw_one {m : Str → Option Value} {v1 v2 v3 : Option Value} {v : Value} : (fun y => if y = Str.ofString "one" then some v else nw m v1 v2 v3 y) = nw m (some v) v2 v3 := by
  funext y
  by_cases e1 : y = Str.ofString "one"
  · subst e1; rfl
  · simp only [nw, if_neg e1]
theorem nw_way {m : Str → Option Value} {v1 v2 v3 : Option Value} {v : Value} : (fun y => if y = Str.ofString "way" then some v else nw m v1 v2 v3 y) = nw m v1 (some v) v3 := by
  funext y
  by_cases e1 : y = Str.ofString "way"
  · subst e1; rfl
  · simp only [nw, if_neg e1]
theorem nw_other {m : Str → Option Value} {v1 v2 v3 : Option Value} {v : Value} : (fun y => if y = Str.ofString "other" then some v else nw m v1 v2 v3 y) = nw m v1 v2 (some v) := by
  funext y
  by_cases e1 : y = Str.ofString "other"
  · subst e1; rfl
  · simp only [nw, if_neg e1]
theorem nw_0 (m : Str → Option Value) : m = nw m (m (Str.ofString "one")) (m (Str.ofString "way")) (m (Str.ofString "other")) := by
  funext y
  by_cases e1 : y = Str.ofString "one"
  · subst e1; rfl
  · by_cases e2 : y = Str.ofString "way"
    · subst e2; rfl
    · by_cases e3 : y = Str.ofString "other"
      · subst e3; rfl
      · simp only [nw, if_neg e1, if_neg e2, if_neg e3]
noncomputable def OutJ (m₀ : Str → Option Value) (f : Nat → Nat) (rl : Addr) (R : List (Addr × Obj)) (I : Addr) (i : Nat) (m₁ : Str → Option Value) (news₁ : List (Addr × Obj)) : Prop :=
  ∃ vs k v1 v2 v3, m₁ = nw m₀ v1 v2 v3 ∧ news₁ = (rl, PySem.W.listOf vs.toArray k) :: R ∧ HuesAre vs (rowN f (4 * i)) ∧ AllLt I news₁
noncomputable def InJ (m₀ : Str → Option Value) (f : Nat → Nat) (rl : Addr) (R : List (Addr × Obj)) (I : Addr) (it : Obj) (v1 v2 : Value) (i : Nat) (I₂ : Addr) (j : Nat) (m₁ : Str → Option Value) (news₁ : List (Addr × Obj)) : Prop :=
  ∃ vs k v3, m₁ = nw m₀ (some v1) (some v2) v3 ∧ news₁ = (I, it) :: (rl, PySem.W.listOf vs.toArray k) :: R ∧ HuesAre vs (rowN f (4 * i + j)) ∧ AllLt I₂ news₁
theorem upd_row {D I₂ I rl : Addr} {oD it₂ it o o' o3 : Obj} {R : List (Addr × Obj)} (h1 : AllLt D ((I₂, it₂) :: (I, it) :: (rl, o) :: R)) (h2 : AllLt I₂ ((I, it) :: (rl, o) :: R)) (h3 : AllLt I ((rl, o3) :: R)) (h4 : AllLt rl R) :
    Upd rl o o' ((D, oD) :: (I₂, it₂) :: (I, it) :: (rl, o) :: R) ((D, oD) :: (I₂, it₂) :: (I, it) :: (rl, o') :: R) :=
  .tail (Nat.ne_of_gt h1.2.2.1) (.tail (Nat.ne_of_gt h2.2.1) (.tail (Nat.ne_of_gt h3.1) (.head (allLt_ne h4))))
theorem pal_at {c0 c1 c2 c3 : Addr} {o0 o1 o2 o3 : Obj} {p0 p1 p2 p3 : Nat} {R : List (Addr × Obj)} (m0 : (c0, o0) ∈ R) (m1 : (c1, o1) ∈ R) (m2 : (c2, o2) ∈ R) (m3 : (c3, o3) ∈ R)
    (h0 : IsCol o0 p0) (h1 : IsCol o1 p1) (h2 : IsCol o2 p2) (h3 : IsCol o3 p3) {i : Nat} {v : Value} (hi : i < 4) (hv : [Value.ref c0, .ref c1, .ref c2, .ref c3][i]? = some v) : ∃ c o, v = .ref c ∧ (c, o) ∈ R ∧ IsCol o (pickN p0 p1 p2 p3 i) := by
  have hc := lt4 i (by assumption)
  rcases hc with rfl | rfl | rfl | rfl
  · exact ⟨c0, o0, (Option.some.inj hv).symm, m0, h0⟩
  · exact ⟨c1, o1, (Option.some.inj hv).symm, m1, h1⟩
  · exact ⟨c2, o2, (Option.some.inj hv).symm, m2, h2⟩
  · exact ⟨c3, o3, (Option.some.inj hv).symm, m3, h3⟩
theorem way_use {prog : Program} {w : World} {A : Around} {E : Value → Shared → Prop} {s : Shared} {Q : Value → Shared → Prop} {t q : Nat} {u v : Tok} (ht : t < 8) (hq : q < 16) (h : ∀ t' k, Q (.float (F16 ((1 + 2 * t) * q)) t') { s with toks := k }) :
    wpAny (model prog w) A (binaryOp .Mult (.int (1 + 2 * (t : Int)) u) (.float (F16 q) v)) Q E s := by
  refine mul_if_fits (small_fits (by omega) (by omega)) ?_
  rw [F16_times0 t ht q hq]; exact h _ _
theorem way_room {t q p : Nat} (ht : t < 8) (hq : q < 16) (hp : p < 16) : p + (1 + 2 * t) * q < 241 := by
  have : (1 + 2 * t) * q ≤ 15 * 15 := Nat.mul_le_mul (by omega) (by omega)
  omega
section
variable {prog : Program} {w : World} {A : Around} {E : Value → Shared → Prop} {s : Shared} {env : Env} {h₀ : Heap} {px : Pos} {body : List Stmt} {Q : Flow → Shared → Prop}
theorem iter_one {ax rl c0 c1 c2 c3 : Addr} {n k₀ : Nat} {m₀ : Str → Option Value} {R : List (Addr × Obj)} (f : Nat → Nat) {o0 o1 o2 o3 : Obj} {p0 p1 p2 p3 : Nat}
    (hh : A.handled = none) (hx : env.kindOf (Str.ofString "one") = some .local) (hp : (env.scope.kind == .class || (env.scope.kind == .module && env.locals != env.globals)) = false)
    (F : Fr h₀ env.locals s.heap m₀) (N : News h₀ env.locals s.heap ((rl, PySem.W.listOf #[] k₀) :: R)) (hm : (ax, PySem.W.listOf #[.ref c0, .ref c1, .ref c2, .ref c3] n) ∈ R)
    (m0 : (c0, o0) ∈ R) (m1 : (c1, o1) ∈ R) (m2 : (c2, o2) ∈ R) (m3 : (c3, o3) ∈ R) (h0 : IsCol o0 p0) (h1 : IsCol o1 p1) (h2 : IsCol o2 p2) (h3 : IsCol o3 p3)
    (turn : ∀ (I : Addr) (i : Nat) c o it h tk vs k v2 v3, i < 4 → (c, o) ∈ R → IsCol o (pickN p0 p1 p2 p3 i) → HuesAre vs (rowN f (4 * i)) → AllLt I ((rl, PySem.W.listOf vs.toArray k) :: R) → Fr h₀ env.locals h (nw m₀ (some (.ref c)) v2 v3) →
      News h₀ env.locals h ((I, it) :: (rl, PySem.W.listOf vs.toArray k) :: R) →
      wpAny (model prog w) A (execs body env) (UnrPost h₀ env.locals { s with heap := h, toks := tk } I it (fun m' n' => (ax, PySem.W.listOf #[.ref c0, .ref c1, .ref c2, .ref c3] n) ∈ n' ∧ OutJ m₀ f rl R I (i + 1) m' n') Q) E { s with heap := h, toks := tk })
    (done : ∀ h tk vs k v1 v2 v3, HuesAre vs (rowN f 16) → Fr h₀ env.locals h (nw m₀ v1 v2 v3) → News h₀ env.locals h ((rl, PySem.W.listOf vs.toArray k) :: R) → Q .next { s with heap := h, toks := tk })
    (hE : PassesOwn (model prog w) A env E) :
    wpAny (model prog w) A (pyIter (.ref ax)) (fun it s₂ => codeAny (model prog w) A (.forLoop (.Name (Str.ofString "one") px) it body [] env) (fun r s' => match r with | .ok f => Q f s' | .error e => cameBackBy (model prog w) A env E e s') s₂) E s := by
  refine iter_listJ (vs := [.ref c0, .ref c1, .ref c2, .ref c3]) (fun I i => OutJ m₀ f rl R I i) hh hx hp F N (List.mem_cons_of_mem _ hm) rfl rfl (fun I l => ⟨[], k₀, _, _, _, nw_0 m₀, rfl, trivial, l⟩) ?_ ?_ hE
  · rintro I i v it h tk m₁ news₁ hi hv ⟨vs, k, v1, v2, v3, rfl, rfl, hs, l⟩ _ F₁ N₁
    rw [nw_one] at F₁
    obtain ⟨c, o, rfl, hm', hc'⟩ := pal_at m0 m1 m2 m3 h0 h1 h2 h3 hi hv
    exact turn I i c o it h tk vs k v2 v3 hi hm' hc' hs l F₁ N₁
  · rintro I h tk m₁ news₁ ⟨vs, k, v1, v2, v3, rfl, rfl, hs, _⟩ F₁ N₁
    exact done h tk vs k v1 v2 v3 hs F₁ N₁
theorem iter_two {ax rl I c0 c1 c2 c3 : Addr} {it : Obj} {n k₀ i : Nat} {m₀ : Str → Option Value} {R : List (Addr × Obj)} (f : Nat → Nat) {o0 o1 o2 o3 : Obj} {p0 p1 p2 p3 : Nat} {vs₀ : List Value} {v1 v2 : Value} {v3₀ : Option Value}
    (hh : A.handled = none) (hx : env.kindOf (Str.ofString "other") = some .local) (hp : (env.scope.kind == .class || (env.scope.kind == .module && env.locals != env.globals)) = false)
    (F : Fr h₀ env.locals s.heap (nw m₀ (some v1) (some v2) v3₀)) (N : News h₀ env.locals s.heap ((I, it) :: (rl, PySem.W.listOf vs₀.toArray k₀) :: R)) (hs₀ : HuesAre vs₀ (rowN f (4 * i))) (hm : (ax, PySem.W.listOf #[.ref c0, .ref c1, .ref c2, .ref c3] n) ∈ R)
    (m0 : (c0, o0) ∈ R) (m1 : (c1, o1) ∈ R) (m2 : (c2, o2) ∈ R) (m3 : (c3, o3) ∈ R) (h0 : IsCol o0 p0) (h1 : IsCol o1 p1) (h2 : IsCol o2 p2) (h3 : IsCol o3 p3)
    (turn : ∀ (I₂ : Addr) (j : Nat) c o it₂ h tk vs k, j < 4 → (c, o) ∈ R → IsCol o (pickN p0 p1 p2 p3 j) → HuesAre vs (rowN f (4 * i + j)) → AllLt I₂ ((I, it) :: (rl, PySem.W.listOf vs.toArray k) :: R) → Fr h₀ env.locals h (nw m₀ (some v1) (some v2) (some (.ref c))) →
      News h₀ env.locals h ((I₂, it₂) :: (I, it) :: (rl, PySem.W.listOf vs.toArray k) :: R) →
      wpAny (model prog w) A (execs body env) (UnrPost h₀ env.locals { s with heap := h, toks := tk } I₂ it₂ (fun m' n' => (ax, PySem.W.listOf #[.ref c0, .ref c1, .ref c2, .ref c3] n) ∈ n' ∧ InJ m₀ f rl R I it v1 v2 i I₂ (j + 1) m' n') Q) E { s with heap := h, toks := tk })
    (done : ∀ h tk vs k v3, HuesAre vs (rowN f (4 * (i + 1))) → Fr h₀ env.locals h (nw m₀ (some v1) (some v2) v3) → News h₀ env.locals h ((I, it) :: (rl, PySem.W.listOf vs.toArray k) :: R) → Q .next { s with heap := h, toks := tk })
    (hE : PassesOwn (model prog w) A env E) :
    wpAny (model prog w) A (pyIter (.ref ax)) (fun it s₂ => codeAny (model prog w) A (.forLoop (.Name (Str.ofString "other") px) it body [] env) (fun r s' => match r with | .ok f => Q f s' | .error e => cameBackBy (model prog w) A env E e s') s₂) E s := by
  refine iter_listJ (vs := [.ref c0, .ref c1, .ref c2, .ref c3]) (fun I₂ j => InJ m₀ f rl R I it v1 v2 i I₂ j) hh hx hp F N (List.mem_cons_of_mem _ (List.mem_cons_of_mem _ hm)) rfl rfl (fun I l => ⟨vs₀, k₀, v3₀, rfl, rfl, hs₀, l⟩) ?_ ?_ hE
  · rintro I₂ j v it₂ h tk m₁ news₁ hj hv ⟨vs, k, v3, rfl, rfl, hs, l⟩ _ F₁ N₁
    rw [nw_other] at F₁
    obtain ⟨c, o, rfl, hm', hc'⟩ := pal_at m0 m1 m2 m3 h0 h1 h2 h3 hj hv
    exact turn I₂ j c o it₂ h tk vs k hj hm' hc' hs l F₁ N₁
  · rintro I₂ h tk m₁ news₁ ⟨vs, k, v3, rfl, rfl, hs, _⟩ F₁ N₁
    exact done h tk vs k v3 hs F₁ N₁
end
end
section
open LCg
section
variable {w : World} {mean : ExcName → Option Value} {mg mb : Str → Option Value} {loose : List Str}
  {dp un : Nat} {gd : Option (List Code)} {a : Addr} {ccd : Value} {outer : List Env} {A₀ : Around} {base h₀ : Heap} {L : Addr} {m : Str → Option Value} {s : Shared} {Q : Flow → Shared → Prop} {E : Value → Shared → Prop}
theorem tail_lt {h₀ : Heap} {L : Addr} {h : Heap} {a : Addr} {o : Obj} {R : List (Addr × Obj)} (_ : News h₀ L h ((a, o) :: R)) (l : AllLt a R) : AllLt a R := l
theorem stage3 {nl al bl ml fl sl c0 c1 c2 c3 e0 e1 e2 e3 : Addr} {k j : Nat} {o0 o1 o2 o3 u0 u1 u2 u3 on oa ob om w8 w7 w6 w5 w4 w3 w2 w1 : Obj} {v4 : Option Value} {t p0 p1 p2 p3 q0 q1 q2 q3 : Nat} {y4 : Tok}
  (B : Below A₀ base outer h₀) (F : Fr h₀ L s.heap (mB (mA m nl al ml) fl sl)) (X : (hd.heap_39 w.params).In h₀) (N : News h₀ L s.heap (ledB L nl al bl ml fl sl c0 c1 c2 c3 e0 e1 e2 e3 k j o0 o1 o2 o3 u0 u1 u2 u3 on oa ob om w8 w7 w6 w5 w4 w3 w2 w1)) (T : Top hd.view_39 loose mean mg mb h₀)
  (hdp : dp + 8 < recursionLimit) (hun : un + 64 < cLine)
  (d4 : w4.data = .cell v4) (d2 : w2.data = .cell (some (.int (1 + 2 * (t : Int)) y4))) (ht : t < 8)
  (h0 : IsCol o0 p0) (h1 : IsCol o1 p1) (h2 : IsCol o2 p2) (h3 : IsCol o3 p3) (l0 : p0 < 16) (l1 : p1 < 16) (l2 : p2 < 16) (l3 : p3 < 16)
  (g0 : IsCol u0 q0) (g1 : IsCol u1 q1) (g2 : IsCol u2 q2) (g3 : IsCol u3 q3) (b0 : q0 < 16) (b1 : q1 < 16) (b2 : q2 < 16) (b3 : q3 < 16)
  (lf : AllLt fl (ledA L nl al bl ml on oa ob om w8 w7 w6 w5 w4 w3 w2 w1)) (lc : fl < c0 ∧ c0 < c1 ∧ c1 < c2 ∧ c2 < c3) (ls : c3 < sl) (le : sl < e0 ∧ e0 < e1 ∧ e1 < e2 ∧ e2 < e3)
  (ln : AllLt nl (cellsL L w8 w7 w6 w5 w4 w3 w2 w1)) (fa : OffC L al) (fb : OffC L bl) (fm : OffC L ml)
  (hE : PassesOwn (model Challenge.rw_rl0062_01.row.prog w) (lawA dp un gd L a ccd outer) (lawEnv L a ccd) E)
  (next : ∀ (rl : Addr) (vs : List Value) (kr : Nat) (v1 v2 v3 : Option Value) (o4 : Obj) (h' : Heap) (tk' : Nat), HuesAre vs (rowN (sumAt t p0 p1 p2 p3 q0 q1 q2 q3) 16) → cellOf o4 (.ref rl) → AllLt rl (ledB L nl al bl ml fl sl c0 c1 c2 c3 e0 e1 e2 e3 k j o0 o1 o2 o3 u0 u1 u2 u3 on oa ob om w8 w7 w6 w5 o4 w3 w2 w1) →
    Fr h₀ L h' (nw (mB (mA m nl al ml) fl sl) v1 v2 v3) → News h₀ L h' ((rl, PySem.W.listOf vs.toArray kr) :: ledB L nl al bl ml fl sl c0 c1 c2 c3 e0 e1 e2 e3 k j o0 o1 o2 o3 u0 u1 u2 u3 on oa ob om w8 w7 w6 w5 o4 w3 w2 w1) →
    wpAny (model Challenge.rw_rl0062_01.row.prog w) (lawA dp un gd L a ccd outer) (execs (lawTail 8 lawBody) (lawEnv L a ccd)) Q E { s with heap := h', toks := tk' }) :
   wpAny (model Challenge.rw_rl0062_01.row.prog w) (lawA dp un gd L a ccd outer) (execs (lawTail 6 lawBody) (lawEnv L a ccd)) Q E s := by
   w_top off
   k_with_none
   k_with "eval Constant int" => (k_here; k_dflt (refine ci_f (fun t' tk' => ?_)))
   k_with "eval Constant str" => (k_here; k_dflt (refine cs_f (fun t' tk' => ?_)))
   k_with "eval Constant float" => (k_here; k_dflt (refine cf_f (fun t' tk' => ?_)))
   k_with "binaryOp Add int int" => (k_here; k_dflt (refine ai_f (fun t' tk' => ?_)))
   k_with "binaryOp Sub int int" => (k_here; k_dflt (refine si_f (fun t' tk' => ?_)))
   k_with "binaryOp Add float float" => (k_here; k_dflt (refine af_f (fun t' tk' => ?_)))
   k_with "binaryOp Sub float float" => (k_here; k_dflt (refine sf_f (fun t' tk' => ?_)))
   k_with "binaryOp Mult float float" => (k_here; k_dflt (refine mf_f (fun t' tk' => ?_)))
   k_with "binaryOp Mod int int" => (k_here; k_dflt (refine mi_f (by decide) (fun t' tk' => ?_)))
   k_with "exec For Name Name cons nil" => (k_here; k_dflt (refine wpAny_For ?_))
   k_with "execs cons" => (k_extra "stage")
   k_with "execs cons Assign cons" => (k_extra "stage")
   k_with "call ref" => (k_here; (with_reducible show wpAny _ _ (PySem.call (Value.ref 89) [Value.ref _]) _ _ _); k_dflt (refine' hue_use (by k_asm) (by k_asm) (by k_asm) (by k_asm) (by k_asm) (by first | exact rfl | assumption) (by ktr_room) (by ktr_units) (by first | exact List.mem_cons_self | (repeat (first | with_reducible assumption | refine List.mem_cons_of_mem _ ?_))) (by with_reducible assumption) (by first | with_reducible assumption | exact Nat.mod_lt _ (by decide)) ?_; k_whole); intro t' h' tk' F' N'; (try k_sweep))
   k_with "call ref" => (k_here; (with_reducible show wpAny _ _ (PySem.call (Value.ref 96) [Value.ref _, Value.float (F16 _) _]) _ _ _); k_dflt (refine' turned_use (by k_asm) (by k_asm) (by k_asm) (by k_asm) (by k_asm) (by first | exact rfl | assumption) (by ktr_room) (by ktr_units) (by (repeat (first | with_reducible assumption | refine List.mem_cons_of_mem _ ?_))) (by with_reducible assumption) (by with_reducible assumption) (by exact ways_times _ (by with_reducible assumption) _ (by with_reducible assumption)) (by exact way_room (by with_reducible assumption) (by with_reducible assumption) (by with_reducible assumption)) ?_; k_whole); intro D' o' h' tk' F' N' hc' l1; (try k_sweep))
   k_with "call ref" => (k_here; (with_reducible show wpAny _ _ (PySem.call (Value.ref 44) [Value.ref _, Value.float (F16 _) _]) _ _ _); k_dflt (refine' insort_call (by k_asm) (by k_asm) (by k_asm) (by k_asm) (by k_asm) (by first | exact rfl | assumption) (by ktr_room) (by ktr_units) (by (intro l9; exact upd_row (by with_reducible assumption) (by with_reducible assumption) (by with_reducible assumption) (by with_reducible assumption))) (by with_reducible assumption) (by (rw [rowN_len]; omega)) (by exact rowN_lt sumAt_lt _) (by exact Nat.mod_lt _ (by decide)) (by exact rowN_climbs _ _) ?_; k_whole); intro vs' h' tk' hv' F' N'; (try k_sweep))
   k_with "binaryOp Mult int float" => (k_here; k_dflt (refine' way_use (by with_reducible assumption) (by with_reducible assumption) ?_; k_whole); intro t' tk')
   have lc' : @LT.lt Nat _ fl c0 ∧ @LT.lt Nat _ c0 c1 ∧ @LT.lt Nat _ c1 c2 ∧ @LT.lt Nat _ c2 c3 ∧ @LT.lt Nat _ c3 sl ∧ @LT.lt Nat _ sl e0 ∧ @LT.lt Nat _ e0 e1 ∧ @LT.lt Nat _ e1 e2 ∧ @LT.lt Nat _ e2 e3 := ⟨lc.1, lc.2.1, lc.2.2.1, lc.2.2.2, ls, le⟩
   clear lc ls le
   simp only [AllLt, and_true] at lf ln
   obtain ⟨fa1, fa2, fa3, fa4, fa5, fa6, fa7, fa8⟩ := fa
   obtain ⟨fb1, fb2, fb3, fb4, fb5, fb6, fb7, fb8⟩ := fb
   obtain ⟨fm1, fm2, fm3, fm4, fm5, fm6, fm7, fm8⟩ := fm
   revert X; k_fill; intro X
   dsimp only [lawA, lawEnv, lawCells, lawBody, PySem.Challenge.pw_rl0062_01, lawTail, lawScope, bodyOf, scopesOf, List.drop, List.flatMap, List.map, List.flatten, List.append, HAppend.hAppend, Append.append, List.headD]
   dsimp only [lawA, lawEnv, lawCells, lawBody, PySem.Challenge.pw_rl0062_01, lawTail, lawScope, bodyOf, scopesOf, List.drop, List.flatMap, List.map, List.flatten, List.append, HAppend.hAppend, Append.append, List.headD] at next hE
   k_with "stage" => ((with_reducible show wpAny _ _ (execs (Stmt.Assign [Expr.Name (Str.ofString "counts") _] _ _ :: _) _) _ _ _); refine StageAt.intro ?_)
   k_steps
   rename _ = Data.cell (some (Value.ref _)) => d5
   rename Fr _ _ _ _ => F5
   rename News _ _ _ _ => N5
   rename _ ∧ _ ∧ _ ∧ _ ∧ _ ∧ _ ∧ _ ∧ _ ∧ _ ∧ _ ∧ _ ∧ _ ∧ _ ∧ _ ∧ _ ∧ _ ∧ _ ∧ _ ∧ _ ∧ _ ∧ _ ∧ _ => l5
   have hR := tail_lt N5 ⟨l5.1, l5.2.1, l5.2.2.1, l5.2.2.2.1, l5.2.2.2.2.1, l5.2.2.2.2.2.1, l5.2.2.2.2.2.2.1, l5.2.2.2.2.2.2.2.1, l5.2.2.2.2.2.2.2.2.1, l5.2.2.2.2.2.2.2.2.2.1, l5.2.2.2.2.2.2.2.2.2.2.1, l5.2.2.2.2.2.2.2.2.2.2.2.1, l5.2.2.2.2.2.2.2.2.2.2.2.2.1, l5.2.2.2.2.2.2.2.2.2.2.2.2.2.1, l5.2.2.2.2.2.2.2.2.2.2.2.2.2.2.1, l5.2.2.2.2.2.2.2.2.2.2.2.2.2.2.2.1, l5.2.2.2.2.2.2.2.2.2.2.2.2.2.2.2.2.1, l5.2.2.2.2.2.2.2.2.2.2.2.2.2.2.2.2.2.1, l5.2.2.2.2.2.2.2.2.2.2.2.2.2.2.2.2.2.2.1, l5.2.2.2.2.2.2.2.2.2.2.2.2.2.2.2.2.2.2.2.1, l5.2.2.2.2.2.2.2.2.2.2.2.2.2.2.2.2.2.2.2.2.1, l5.2.2.2.2.2.2.2.2.2.2.2.2.2.2.2.2.2.2.2.2.2, trivial⟩
   clear l5 lf ln lc' fa1 fa2 fa3 fa4 fa5 fa6 fa7 fa8 fb1 fb2 fb3 fb4 fb5 fb6 fb7 fb8 fm1 fm2 fm3 fm4 fm5 fm6 fm7 fm8
   k_dflt (refine' iter_one (sumAt t p0 p1 p2 p3 q0 q1 q2 q3) ?hh ?hx ?hp F5 N5 ?hm ?m0 ?m1 ?m2 ?m3 h0 h1 h2 h3 ?turn ?done hE)
   case hh => rfl
   case hx => rfl
   case hp => rfl
   case hm => k_mem
   case m0 => k_mem
   case m1 => k_mem
   case m2 => k_mem
   case m3 => k_mem
   case turn =>
     clear F5 N5
     intro I i c o it h' tk' vs kk v2 v3 hi hm hc hs off F' N'
     have hpi := pickN_lt l0 l1 l2 l3 hi
     k_steps
     rename Fr _ _ _ _ => F6
     rename News _ _ _ _ => N6
     rw [nw_way] at F6
     k_dflt (refine' iter_two (sumAt t p0 p1 p2 p3 q0 q1 q2 q3) ?hh2 ?hx2 ?hp2 F6 N6 hs ?hm2 ?m02 ?m12 ?m22 ?m32 g0 g1 g2 g3 ?turn2 ?done2 hE)
     case hh2 => rfl
     case hx2 => rfl
     case hp2 => rfl
     case hm2 => k_mem
     case m02 => k_mem
     case m12 => k_mem
     case m22 => k_mem
     case m32 => k_mem
     case turn2 =>
       clear F6 N6
       intro I₂ jj c9 o9 it₂ h9 tk9 vs9 kk9 hj hm9 hc9 hs9 off₂ F' N'
       have hqj := pickN_lt b0 b1 b2 b3 hj
       k_steps
       rename Fr _ _ _ _ => F7
       rename News _ _ _ _ => N7
       rename HuesAre _ (insR _ _) => hv7
       refine' unr_0 F7 (news_tail N7) (allLt_ne off₂) ⟨?_, _, _, _, rfl, rfl, ?_, off₂⟩
       · exact List.mem_cons_of_mem _ (List.mem_cons_of_mem _ (by k_mem))
       · rw [← sumAt_is hj] at hv7; exact hv7
     case done2 =>
       clear F6 N6
       intro h9 tk9 vs9 kk9 v39 hs9 F' N'
       k_steps
       rename Fr _ _ _ _ => F7
       rename News _ _ _ _ => N7
       refine' unr_0 F7 N7 (allLt_ne off) ⟨?_, _, _, _, _, _, rfl, rfl, hs9, off⟩
       exact List.mem_cons_of_mem _ (by k_mem)
   case done =>
     clear F5 N5
     intro h' tk' vs kk v1 v2 v3 hs F' N'
     k_steps
     unfold StageAt
     exact next _ _ _ _ _ _ _ _ _ hs d5 hR (by assumption) (by assumption)
end
end
section
open LCg
/-- how often q is in the row -/
noncomputable def cntR (ns : List Nat) (q : Nat) : Int := ((ns.countP (fun x => decide (x ≤ q)) : Nat) : Int) - ((ns.countP (fun x => decide (x < q)) : Nat) : Int)
theorem marks_at {vs : List Value} {i : Nat} {v : Value} (h : HuesAre vs (List.range 16)) (e : vs[i]? = some v) : ∃ t, v = .float (F16 i) t := by
  have hi : i < 16 := by
    rcases Nat.lt_or_ge i vs.length with q | q
    · rwa [h.length, List.length_range] at q
    · rw [List.getElem?_eq_none q] at e; cases e
  obtain ⟨t, e'⟩ := h.get i (by rwa [List.length_range])
  refine ⟨t, Option.some.inj (e.symm.trans (e'.trans ?_))⟩
  rw [List.getD_eq_getElem?_getD, List.getElem?_range hi]; rfl
theorem ints_snoc {ys : List Value} {g : Nat → Int} {i : Nat} {t : Tok} (h : IntsAre ys ((List.range i).map g)) : IntsAre (ys ++ [.int (g i) t]) ((List.range (i + 1)).map g) := by
  rw [List.range_succ, List.map_append]
  exact IntsAre.append h (.cons _ _ .nil)
section
variable {w : World} {mean : ExcName → Option Value} {mg mb : Str → Option Value} {loose : List Str}
  {dp un : Nat} {gd : Option (List Code)} {a : Addr} {ccd : Value} {outer : List Env} {A₀ : Around} {base h₀ : Heap} {L : Addr} {m : Str → Option Value} {s : Shared} {Q : Flow → Shared → Prop} {E : Value → Shared → Prop}
noncomputable abbrev mC (m : Str → Option Value) (nl al ml fl sl : Addr) (x1 x2 x3 : Option Value) : Str → Option Value := nw (mB (mA m nl al ml) fl sl) x1 x2 x3
theorem stage4 {rl nl al bl ml fl sl c0 c1 c2 c3 e0 e1 e2 e3 : Addr} {kr km k j : Nat} {o0 o1 o2 o3 u0 u1 u2 u3 on oa ob w8 w7 w6 w5 w4 w3 w2 w1 : Obj} {v5 x1 x2 x3 : Option Value} {vr vm : List Value} {ns : List Nat}
  (B : Below A₀ base outer h₀) (F : Fr h₀ L s.heap (mC m nl al ml fl sl x1 x2 x3)) (X : (hd.heap_39 w.params).In h₀) (N : News h₀ L s.heap ((rl, PySem.W.listOf vr.toArray kr) :: ledB L nl al bl ml fl sl c0 c1 c2 c3 e0 e1 e2 e3 k j o0 o1 o2 o3 u0 u1 u2 u3 on oa ob (PySem.W.listOf vm.toArray km) w8 w7 w6 w5 w4 w3 w2 w1)) (T : Top hd.view_39 loose mean mg mb h₀)
  (hdp : dp + 8 < recursionLimit) (hun : un + 64 < cLine)
  (d5 : w5.data = .cell v5) (d4 : w4.data = .cell (some (.ref rl)))
  (hv : HuesAre vr ns) (hlen : ns.length ≤ 16) (hb : ∀ i ∈ ns, i < 16) (hs : Climbs ns) (hvm : HuesAre vm (List.range 16))
  (lf : AllLt fl (ledA L nl al bl ml on oa ob (PySem.W.listOf vm.toArray km) w8 w7 w6 w5 w4 w3 w2 w1)) (lc : fl < c0 ∧ c0 < c1 ∧ c1 < c2 ∧ c2 < c3) (ls : c3 < sl) (le : sl < e0 ∧ e0 < e1 ∧ e1 < e2 ∧ e2 < e3) (lr : e3 < rl)
  (ln : AllLt nl (cellsL L w8 w7 w6 w5 w4 w3 w2 w1)) (fa : OffC L al) (fb : OffC L bl) (fm : OffC L ml)
  (next : ∀ (cl : Addr) (vc : List Value) (kc : Nat) (o5 : Obj) (h' : Heap) (tk' : Nat), IntsAre vc ((List.range 16).map (cntR ns)) → cellOf o5 (.ref cl) → OffC L cl →
    Fr h₀ L h' (mC m nl al ml fl sl x1 x2 x3) → News h₀ L h' ((cl, PySem.W.listOf vc.toArray kc) :: (rl, PySem.W.listOf vr.toArray kr) :: ledB L nl al bl ml fl sl c0 c1 c2 c3 e0 e1 e2 e3 k j o0 o1 o2 o3 u0 u1 u2 u3 on oa ob (PySem.W.listOf vm.toArray km) w8 w7 w6 o5 w4 w3 w2 w1) →
    wpAny (model Challenge.rw_rl0062_01.row.prog w) (lawA dp un gd L a ccd outer) (execs (lawTail 9 lawBody) (lawEnv L a ccd)) Q E { s with heap := h', toks := tk' }) :
   wpAny (model Challenge.rw_rl0062_01.row.prog w) (lawA dp un gd L a ccd outer) (execs (lawTail 8 lawBody) (lawEnv L a ccd)) Q E s := by
   w_top off
   k_with_none
   k_with "eval Constant int" => (k_here; k_dflt (refine ci_f (fun t' tk' => ?_)))
   k_with "eval Constant str" => (k_here; k_dflt (refine cs_f (fun t' tk' => ?_)))
   k_with "eval Constant float" => (k_here; k_dflt (refine cf_f (fun t' tk' => ?_)))
   k_with "binaryOp Add int int" => (k_here; k_dflt (refine ai_f (fun t' tk' => ?_)))
   k_with "binaryOp Sub int int" => (k_here; k_dflt (refine si_f (fun t' tk' => ?_)))
   k_with "binaryOp Add float float" => (k_here; k_dflt (refine af_f (fun t' tk' => ?_)))
   k_with "binaryOp Sub float float" => (k_here; k_dflt (refine sf_f (fun t' tk' => ?_)))
   k_with "binaryOp Mult float float" => (k_here; k_dflt (refine mf_f (fun t' tk' => ?_)))
   k_with "binaryOp Mod int int" => (k_here; k_dflt (refine mi_f (by decide) (fun t' tk' => ?_)))
   k_with "FinE" => (k_here; dsimp only [LCg.FinE]; intro D' h' tk' F' N' o1'; replace o1' := offH_of o1'; (try simp only [OffH, and_true] at o1'); (repeat (obtain ⟨q9', o1'⟩ := o1')); (try k_sweep))
   k_with "execs cons" => (k_extra "stage")
   k_with "execs cons Assign cons" => (k_extra "stage")
   k_with "eval ListComp" => (k_here; k_dflt (refine ListComp_U (F₀ := by k_asm) (by with_unfolding_all rfl) (by decide) (by rfl) (by decide) (by rfl) ?_))
   k_with "CompSrc" => (k_extra "src")
   k_with "CompEnd" => (k_here; k_dflt (refine' comp_end0 (by k_asm) (by k_asm) (by assumption) (by first | exact trivial | exact .inr ⟨_, by k_mem, rfl, _, rfl⟩) ⟨rfl, ?_⟩))
   k_with "call ref" => (k_here; (with_reducible show wpAny _ _ (PySem.call (Value.ref 53) [Value.ref _, Value.float (F16 _) _]) _ _ _); k_dflt (refine' right_use (by k_asm) (by k_asm) (by k_asm) (by k_asm) (by k_asm) (by first | exact rfl | assumption) (by ktr_room) (by ktr_units) (by k_mem) (by with_reducible assumption) (by with_reducible assumption) (by with_reducible assumption) (by with_reducible assumption) (by with_reducible assumption) ?_; k_whole); intro t' h' tk' F' N'; (try k_sweep))
   k_with "call ref" => (k_here; (with_reducible show wpAny _ _ (PySem.call (Value.ref 62) [Value.ref _, Value.float (F16 _) _]) _ _ _); k_dflt (refine' left_use (by k_asm) (by k_asm) (by k_asm) (by k_asm) (by k_asm) (by first | exact rfl | assumption) (by ktr_room) (by ktr_units) (by k_mem) (by with_reducible assumption) (by with_reducible assumption) (by with_reducible assumption) (by with_reducible assumption) (by with_reducible assumption) ?_; k_whole); intro t' h' tk' F' N'; (try k_sweep))
   have lc' : @LT.lt Nat _ fl c0 ∧ @LT.lt Nat _ c0 c1 ∧ @LT.lt Nat _ c1 c2 ∧ @LT.lt Nat _ c2 c3 ∧ @LT.lt Nat _ c3 sl ∧ @LT.lt Nat _ sl e0 ∧ @LT.lt Nat _ e0 e1 ∧ @LT.lt Nat _ e1 e2 ∧ @LT.lt Nat _ e2 e3 ∧ @LT.lt Nat _ e3 rl := ⟨lc.1, lc.2.1, lc.2.2.1, lc.2.2.2, ls, le.1, le.2.1, le.2.2.1, le.2.2.2, lr⟩
   clear lc ls le lr
   simp only [AllLt, and_true] at lf ln
   obtain ⟨fa1, fa2, fa3, fa4, fa5, fa6, fa7, fa8⟩ := fa
   obtain ⟨fb1, fb2, fb3, fb4, fb5, fb6, fb7, fb8⟩ := fb
   obtain ⟨fm1, fm2, fm3, fm4, fm5, fm6, fm7, fm8⟩ := fm
   have hml : vm.length = 16 := by rw [hvm.length, List.length_range]
   revert X; k_fill; intro X
   dsimp only [lawA, lawEnv, lawCells, lawBody, PySem.Challenge.pw_rl0062_01, lawTail, lawScope, bodyOf, scopesOf, List.drop, List.flatMap, List.map, List.flatten, List.append, HAppend.hAppend, Append.append, List.headD]
   dsimp only [lawA, lawEnv, lawCells, lawBody, PySem.Challenge.pw_rl0062_01, lawTail, lawScope, bodyOf, scopesOf, List.drop, List.flatMap, List.map, List.flatten, List.append, HAppend.hAppend, Append.append, List.headD] at next
   k_with "stage" => ((with_reducible show wpAny _ _ (execs (Stmt.Assign [Expr.Name (Str.ofString "told") _] _ _ :: _) _) _ _ _); refine StageAt.intro ?_)
   k_with "src" => (refine' src_list (fun i ys => IntsAre ys ((List.range i).map (cntR ns))) ?hh ?F ?N ?hm ?hz ?h4 (fun g' ys' hs' => ?_) (fun g' i' ys' hi' hs' v' I' oI' C' oC' D' m' h' tk' E' hP' hC' hx' F' N' off' ne' => ?_); (case hh => rfl); (case F => k_asm); (case N => k_asm); (case hm => k_mem); (case hz => rw [hml, sizeLine_eq]; decide); (case h4 => exact .nil); rotate_left; (obtain ⟨t9', hv9'⟩ := marks_at hvm hP'); subst hv9'; rw [hml] at hi')
   k_steps
   · exact ints_snoc (by assumption)
   unfold StageAt
   rename Fr _ _ _ _ => F5
   rename News _ _ _ _ => N5
   rename _ = Data.cell (some (Value.ref _)) => d6
   rename IntsAre _ _ => i6
   rw [hml] at i6
   exact next _ _ _ _ _ _ i6 d6 ⟨by with_reducible assumption, by with_reducible assumption, by with_reducible assumption, by with_reducible assumption, by with_reducible assumption, by with_reducible assumption, by with_reducible assumption, by with_reducible assumption⟩ F5 N5
end
end
section
open PySem.StrLaws Builtin Builtin.Str
/-- words laid end to end, with a comma and a blank between -/
noncomputable def glue : List (List Nat) → List Nat
  | [] => []
  | [w] => w
  | w :: r => w ++ 44 :: 32 :: glue r
noncomputable abbrev sepS : Str := Str.ofString ", "
theorem sepS_cps : sepS.cps = #[44, 32] := by decide +kernel
theorem sepS_len : sepS.length = 2 := by decide +kernel
theorem at_sep {x : Str} {k : Nat} : At x sepS x.length k ↔ (x.cps.toList.drop k).take 2 = [44, 32] := by
  unfold At
  rw [subAt_eq, sepS_len, sepS_cps]
  constructor
  · intro h; simpa using h.2
  · intro h
    have hl : ((x.cps.toList.drop k).take 2).length = 2 := by rw [h]; rfl
    rw [List.length_take, List.length_drop] at hl
    have hn : x.cps.toList.length = x.length := by simp [Str.length]
    exact ⟨by omega, by simpa using h⟩
theorem free_get {w r : List Nat} {j : Nat} (hw : 44 ∉ w) (h : ((w ++ r).drop j).take 2 = [44, 32]) : w.length ≤ j := by
  rcases Nat.lt_or_ge j w.length with hj | hj
  · exfalso
    have e : ((w ++ r).drop j)[0]? = some 44 := by
      have : (((w ++ r).drop j).take 2)[0]? = some 44 := by rw [h]; rfl
      rwa [List.getElem?_take_of_lt (by decide)] at this
    rw [List.getElem?_drop, List.getElem?_append_left (by omega)] at e
    exact hw (List.mem_of_getElem? e)
  · exact hj
theorem parts_glue (x : Str) : ∀ (ws : List (List Nat)) (cuts : List Nat) (a f : Nat), ws ≠ [] → (∀ w ∈ ws, 44 ∉ w) → a ≤ x.length → x.cps.toList.drop a = glue ws → ChainG x sepS x.length a cuts f → (∀ k, f ≤ k → ¬ At x sepS x.length k) →
    partsFrom x sepS.length a cuts = ws.map fun w => ⟨w.toArray⟩
  | [], _, _, _, h, _, _, _, _, _ => absurd rfl h
  | [w], cuts, a, f, _, hw, ha, hd, hG, hn => by
    have hd' : x.cps.toList.drop a = w ++ [] := by rw [hd, List.append_nil]; rfl
    have hxl : x.cps.toList.length = x.length := by simp [Str.length]
    cases cuts with
    | nil =>
      show [strSub x a x.length] = [_]
      congr 1
      apply Str.ext'
      apply Array.toList_inj.mp
      rw [strSub_toList, hd, List.take_of_length_le]
      · rfl
      · rw [← hd, List.length_drop]; omega
    | cons c r =>
      exfalso
      have hc := at_sep.mp hG.2.1
      have e : x.cps.toList.drop c = (w ++ []).drop (c - a) := by
        rw [← hd', List.drop_drop]; congr 1; have := hG.1; omega
      rw [e] at hc
      have h1 := free_get (hw w (List.mem_singleton.mpr rfl)) hc
      rw [List.append_nil, List.drop_eq_nil_of_le h1] at hc
      simp at hc
  | w :: w' :: r', cuts, a, f, _, hw, ha, hd, hG, hn => by
    have hd' : x.cps.toList.drop a = w ++ 44 :: 32 :: glue (w' :: r') := hd
    have hxl : x.cps.toList.length = x.length := by simp [Str.length]
    have hlen : x.length - a = w.length + (2 + (glue (w' :: r')).length) := by
      have := congrArg List.length hd'
      rw [List.length_drop, List.length_append, List.length_cons, List.length_cons] at this
      omega
    have hA : At x sepS x.length (a + w.length) := by
      rw [at_sep, ← List.drop_drop, hd', List.drop_left]; rfl
    cases cuts with
    | nil =>
      have e : f = a := hG
      exact absurd hA (hn _ (by omega))
    | cons c r =>
      have h1 : c ≤ a + w.length := by
        rcases Nat.lt_or_ge (a + w.length) c with h | h
        · exact absurd hA (hG.2.2.1 _ (by omega) h)
        · exact h
      have hc := at_sep.mp hG.2.1
      have e : x.cps.toList.drop c = (w ++ 44 :: 32 :: glue (w' :: r')).drop (c - a) := by
        rw [← hd', List.drop_drop]; congr 1; have := hG.1; omega
      rw [e] at hc
      have h2 := free_get (hw w (List.mem_cons_self ..)) hc
      have hc' : c = a + w.length := by have := hG.1; omega
      subst hc'
      show strSub x a (a + w.length) :: partsFrom x sepS.length (a + w.length + sepS.length) r = ⟨w.toArray⟩ :: _
      congr 1
      · apply Str.ext'
        apply Array.toList_inj.mp
        rw [strSub_toList, hd', show a + w.length - a = w.length by omega, List.take_left]
      · refine parts_glue x (w' :: r') r _ f (by simp) (fun v hv => hw v (List.mem_cons_of_mem _ hv)) (by rw [sepS_len]; omega) ?_ hG.2.2.2 hn
        rw [sepS_len, Nat.add_assoc, ← List.drop_drop, hd', ← List.drop_drop, List.drop_left]; rfl
theorem split_glue {x : Str} {ws : List (List Nat)} (h0 : ws ≠ []) (hw : ∀ w ∈ ws, 44 ∉ w) (hx : x.cps.toList = glue ws) : Txt.split x sepS = ws.map fun w => ⟨w.toArray⟩ := by
  obtain ⟨f, hG, hn⟩ := occ_tight x sepS (by rw [sepS_len]; decide)
  have key := parts_glue x ws _ 0 f h0 hw (Nat.zero_le _) (by rw [List.drop_zero]; exact hx) hG hn
  have hone : occurrences x sepS 0 x.length (x.length + 1) = [] → [x] = ws.map fun w => ⟨w.toArray⟩ := fun e => by
    rw [e] at key
    rw [← key]
    show [x] = [strSub x 0 x.length]
    rw [sub_whole]
  unfold Txt.split
  split
  · rename_i hc
    rw [Bool.or_eq_true, decide_eq_true_eq, decide_eq_true_eq] at hc
    rcases hc with h | h
    · refine hone ?_
      cases ho : occurrences x sepS 0 x.length (x.length + 1) with
      | nil => rfl
      | cons c r =>
        rw [ho] at hG
        have := hG.2.1.1
        omega
    · exfalso
      have e : Builtin.Str.strKind sepS = 1 := by decide +kernel
      rw [e] at h
      unfold Builtin.Str.strKind at h
      split at h
      · omega
      · split at h <;> omega
  · split
    · rename_i he
      exact hone (List.isEmpty_iff.mp he)
    · rw [partsBetween_eq]; exact key
theorem glue_fold (acc : List Nat) : ∀ (r : List Str) , (r.foldl (fun acc p => acc ++ sepS.cps ++ p.cps) acc.toArray).toList = acc ++ (r.flatMap fun p => 44 :: 32 :: p.cps.toList)
  | [] => by simp
  | p :: r => by
    rw [List.foldl_cons]
    have e : acc.toArray ++ sepS.cps ++ p.cps = (acc ++ (44 :: 32 :: p.cps.toList)).toArray := by
      rw [sepS_cps]
      apply Array.toList_inj.mp
      simp
    rw [e, glue_fold _ r, List.flatMap_cons, List.append_assoc]
theorem glue_flat : ∀ (w : List Nat) (r : List (List Nat)), glue (w :: r) = w ++ r.flatMap fun p => 44 :: 32 :: p
  | w, [] => by simp [glue]
  | w, v :: r => by
    show w ++ 44 :: 32 :: glue (v :: r) = _
    rw [glue_flat v r, List.flatMap_cons]; rfl
theorem join_glue {ws : List Str} (h0 : ws ≠ []) : (Txt.join sepS ws).cps.toList = glue (ws.map fun w => w.cps.toList) := by
  cases ws with
  | nil => exact absurd rfl h0
  | cons w r =>
    show ((r.foldl (fun acc p => acc ++ sepS.cps ++ p.cps) w.cps)).toList = _
    rw [List.map_cons, glue_flat, ← Array.toArray_toList (xs := w.cps), glue_fold, List.flatMap_map]
/-- a join is taken apart again -/
theorem split_join {ws : List Str} (h0 : ws ≠ []) (hw : ∀ w ∈ ws, 44 ∉ w.cps.toList) : Txt.split (Txt.join sepS ws) sepS = ws := by
  rw [split_glue (ws := ws.map fun w => w.cps.toList) (by simpa using h0) (fun v hv => by
    obtain ⟨u, hu, rfl⟩ := List.mem_map.mp hv
    exact hw u hu) (join_glue h0), List.map_map]
  conv => rhs; rw [← List.map_id ws]
  rfl
end
section
open LCg
/-- the powers of two of the places below n that p holds of -/
noncomputable def pows (p : Nat → Bool) (n : Nat) : List Int := ((List.range n).filter p).map fun k => ((2 ^ k : Nat) : Int)
noncomputable def fsum (p : Nat → Bool) : Nat → Nat
  | 0 => 0
  | n + 1 => fsum p n + (if p n then 2 ^ n else 0)
theorem pows_on {p : Nat → Bool} {n : Nat} (h : p n = true) : pows p (n + 1) = pows p n ++ [((2 ^ n : Nat) : Int)] := by
  unfold pows; rw [List.range_succ, List.filter_append, List.map_append]; simp [h]
theorem pows_off {p : Nat → Bool} {n : Nat} (h : p n = false) : pows p (n + 1) = pows p n := by
  unfold pows; rw [List.range_succ, List.filter_append, List.map_append]; simp [h]
theorem pows_sum (p : Nat → Bool) : ∀ n, (pows p n).sum = ((fsum p n : Nat) : Int)
  | 0 => rfl
  | n + 1 => by
    cases h : p n with
    | true => rw [pows_on h, List.sum_append, pows_sum p n]; simp [fsum, h]
    | false => rw [pows_off h, pows_sum p n]; simp [fsum, h]
theorem fsum_lt (p : Nat → Bool) : ∀ n, fsum p n < 2 ^ n
  | 0 => Nat.zero_lt_one
  | n + 1 => by
    have := fsum_lt p n
    rw [fsum, Nat.pow_succ]
    split <;> omega
theorem fsum_bit (p : Nat → Bool) : ∀ n j, j < n → (fsum p n / 2 ^ j % 2 == 1) = p j
  | 0, j, h => absurd h (Nat.not_lt_zero _)
  | n + 1, j, h => by
    have hl := fsum_lt p n
    rcases Nat.lt_or_eq_of_le (Nat.le_of_lt_succ h) with h1 | h1
    · rw [← fsum_bit p n j h1, fsum]
      split
      · obtain ⟨d, rfl⟩ : ∃ d, n = j + (d + 1) := ⟨n - j - 1, by omega⟩
        have e : (2 : Nat) ^ (j + (d + 1)) = 2 ^ j * (2 * 2 ^ d) := by rw [Nat.pow_add, Nat.pow_succ, Nat.mul_comm (2 ^ d) 2]
        rw [e, Nat.add_mul_div_left _ _ (Nat.two_pow_pos j), Nat.add_mul_mod_self_left]
      · rw [Nat.add_zero]
    · subst h1
      rw [fsum]
      cases hp : p j with
      | true =>
        simp only [if_true]
        rw [Nat.add_div_right _ (Nat.two_pow_pos j), Nat.div_eq_of_lt hl]; rfl
      | false =>
        simp only [Bool.false_eq_true, if_false, Nat.add_zero]
        rw [Nat.div_eq_of_lt hl]; rfl
theorem fsum_words (p : Nat → Bool) : wordsTo (fsum p 16) 16 = ((List.range 16).filter p).map wordOf := by
  unfold wordsTo
  congr 1
  apply List.filter_congr
  intro j hj
  exact fsum_bit p 16 j (List.mem_range.mp hj)
/-- the words that are told -/
noncomputable def tellW (f : Nat) : List Str := if f = 0 then [Str.ofString "0x0"] else wordsTo f 16
theorem word_free : ∀ i < 17, 44 ∉ (wordOf i).cps.toList := by decide +kernel
theorem wordOf_free (i : Nat) : 44 ∉ (wordOf i).cps.toList := by
  rcases Nat.lt_or_ge i 17 with h | h
  · exact word_free i h
  · have : wordOf i = wordOf 16 := by
      unfold wordOf
      rw [List.getD_eq_getElem?_getD, List.getD_eq_getElem?_getD, List.getElem?_eq_none (by show 16 ≤ i; omega)]
      rfl
    rw [this]; exact word_free 16 (by decide)
theorem bits_zero : ∀ (n f : Nat), f < 2 ^ n → (∀ j, j < n → f / 2 ^ j % 2 ≠ 1) → f = 0
  | 0, f, h, _ => by simp at h; exact h
  | n + 1, f, h, hb => by
    have h0 := hb 0 (Nat.succ_pos n)
    rw [Nat.pow_zero, Nat.div_one] at h0
    have e : f / 2 = 0 := bits_zero n (f / 2) (by rw [Nat.pow_succ] at h; omega) fun j hj => by
      have := hb (j + 1) (by omega)
      rwa [Nat.pow_succ, Nat.mul_comm, ← Nat.div_div_eq_div_mul] at this
    omega
theorem tell_ne {f : Nat} (hf : f < 65536) : tellW f ≠ [] := by
  unfold tellW
  split
  · simp
  · rename_i h0
    intro e
    refine h0 (bits_zero 16 f hf fun j hj hb => ?_)
    unfold wordsTo at e
    have := List.map_eq_nil_iff.mp e
    have h2 := List.filter_eq_nil_iff.mp this j (List.mem_range.mpr hj)
    simp [hb] at h2
theorem tell_free {f : Nat} : ∀ w ∈ tellW f, 44 ∉ w.cps.toList := by
  unfold tellW
  split
  · intro w hw; rw [List.mem_singleton.mp hw]; decide +kernel
  · intro w hw
    unfold wordsTo at hw
    obtain ⟨j, _, rfl⟩ := List.mem_map.mp hw
    exact wordOf_free j
theorem tell_count {f : Nat} : (tellW f).length ≤ 16 := by
  unfold tellW; split
  · decide
  · exact words_count
theorem tell_len {f : Nat} : ∀ w ∈ tellW f, w.length ≤ 100 := by
  unfold tellW; split
  · intro w hw; rw [List.mem_singleton.mp hw]; decide +kernel
  · exact words_len
theorem fold_size : ∀ (r : List Str) (acc : Array Nat), (∀ w ∈ r, w.length ≤ 100) → (r.foldl (fun acc p => acc ++ sepS.cps ++ p.cps) acc).size ≤ acc.size + 102 * r.length
  | [], acc, _ => by simp
  | p :: r, acc, h => by
    rw [List.foldl_cons]
    have h1 := fold_size r (acc ++ sepS.cps ++ p.cps) fun w hw => h w (List.mem_cons_of_mem _ hw)
    have h2 : p.cps.size ≤ 100 := h p List.mem_cons_self
    have h3 : sepS.cps.size = 2 := by rw [sepS_cps]; rfl
    simp only [Array.size_append, List.length_cons] at h1 ⊢
    omega
theorem join_size {ws : List Str} (h : ∀ w ∈ ws, w.length ≤ 100) : (Txt.join sepS ws).length ≤ 102 * ws.length := by
  cases ws with
  | nil => decide +kernel
  | cons w r =>
    show (r.foldl (fun acc p => acc ++ sepS.cps ++ p.cps) w.cps).size ≤ _
    have h1 := fold_size r w.cps fun v hv => h v (List.mem_cons_of_mem _ hv)
    have h2 : w.cps.size ≤ 100 := h w List.mem_cons_self
    simp only [List.length_cons]; omega
theorem ints_get : ∀ {vs : List Value} {ns : List Int} {i : Nat}, IntsAre vs ns → i < ns.length → ∃ t, vs[i]? = some (.int (ns.getD i 0) t)
  | _, _, _, .nil, h => absurd h (Nat.not_lt_zero _)
  | _, _, 0, .cons k t r, _ => ⟨t, rfl⟩
  | _, _, i + 1, .cons k t r, h => by
    obtain ⟨t', e⟩ := ints_get r (i := i) (by simpa using h)
    exact ⟨t', by simpa using e⟩
section
variable {prog : Program} {w : World} {A : Around} {E : Value → Shared → Prop} {s : Shared} {h₀ : Heap} {L : Addr} {m : Str → Option Value} {news : List (Addr × Obj)} {t u : Tok} {Q : Value → Shared → Prop}
theorem pow16_use {i : Nat} (hi : i < 16) (h : ∀ t k, Q (.int ((2 ^ i : Nat) : Int) t) { s with toks := k }) : wpAny (model prog w) A (binaryOp .Pow (.int 2 t) (.int (i : Int) u)) Q E s := by
  refine pow_int_small (by omega) (by omega) (by decide) ?_
  have e : (2 : Int) ^ (i : Int).toNat = ((2 ^ i : Nat) : Int) := by rw [two_nat, Int.toNat_natCast]
  rw [e]; exact h _ _
theorem sum_use {D : Addr} {vs : List Value} {n : Nat} {p : Nat → Bool} (hh : A.handled = none) (F : Fr h₀ L s.heap m) (N : News h₀ L s.heap news) (hm : (D, PySem.W.listOf vs.toArray n) ∈ news) (hi : IntsAre vs (pows p 16))
    (h : ∀ h' tk t', Fr h₀ L h' m → News h₀ L h' news → Q (.int ((fsum p 16 : Nat) : Int) t') { s with heap := h', toks := tk }) : wpAny (model prog w) A (call (.builtin "sum") [.ref D]) Q E s :=
  LSm.sum_ints F N hh ⟨_, (N _ hm).1, rfl, n, rfl⟩ hi (by rw [pows_sum]; exact h)
theorem split_use {f : Nat} (hf : f < 65536) (F : Fr h₀ L s.heap m) (N : News h₀ L s.heap news)
    (h : ∀ D vs h' k, StrsAre vs (tellW f) → Fr h₀ L h' m → News h₀ L h' ((D, PySem.W.listOf vs.toArray 0) :: news) → AllLt D news → Q (.ref D) { s with heap := h', toks := k }) :
    wpAny (model prog w) A (call (.builtin "str.split") [.str (Txt.join sepS (tellW f)) t, .str sepS u]) Q E s := by
  refine KSpl.split1 F N (by rw [sepS_len]; rfl) (fun D l h' k e a F' N' lt => ?_) ?_
  · rw [e, split_join (tell_ne hf) tell_free] at a
    exact h D _ h' k a F' N' (allLt_of lt)
  · have h1 := join_size (ws := tellW f) tell_len
    have h2 := tell_count (f := f)
    rw [sizeLine_eq]; omega
theorem item_cnt {value slice : Expr} {a : Addr} {vs : List Value} {g : Nat → Int} {n i : Nat}
    (N : News h₀ L s.heap news) (hm : (a, PySem.W.listOf vs.toArray n) ∈ news) (hv : IntsAre vs ((List.range 16).map g)) (hi : i < 16) (h : ∀ t, Q (.int (g i) t) s)
    (hs : subscripted slice false (.ref a) (.int (i : Int) u) = operate [.ref a, .int (i : Int) u] (getItem (.ref a) (.int (i : Int) u))) (hg : ∀ r, letTemporaryGo value (.ref a) r = pure ()) :
    wpAny (model prog w) A (subscriptTail value slice (.ref a) (.int (i : Int) u)) Q E s := by
  obtain ⟨t, e⟩ := ints_get hv (i := i) (by simpa using hi)
  have e2 : ((List.range 16).map g).getD i 0 = g i := by
    rw [List.getD_eq_getElem?_getD, List.getElem?_map, List.getElem?_range hi]; rfl
  rw [e2] at e
  exact item_news N hm (by omega) (by omega) (by rw [Int.toNat_natCast]; exact e) (h t) hs hg
end
end
section
open LCg
section
variable {w : World} {mean : ExcName → Option Value} {mg mb : Str → Option Value} {loose : List Str}
  {dp un : Nat} {gd : Option (List Code)} {a : Addr} {ccd : Value} {outer : List Env} {A₀ : Around} {base h₀ : Heap} {L : Addr} {m : Str → Option Value} {s : Shared} {Q : Flow → Shared → Prop} {E : Value → Shared → Prop}
noncomputable abbrev mD (m : Str → Option Value) (tl : Addr) : Str → Option Value := fun y => if y = Str.ofString "told" then some (.ref tl) else m y
theorem stage5 {cl rl nl al bl ml fl sl c0 c1 c2 c3 e0 e1 e2 e3 : Addr} {kc k j : Nat} {orow o0 o1 o2 o3 u0 u1 u2 u3 on oa ob om w8 w7 w6 w5 w4 w3 w2 w1 : Obj} {vc : List Value} {g : Nat → Int}
  (B : Below A₀ base outer h₀) (F : Fr h₀ L s.heap m) (X : (hd.heap_39 w.params).In h₀) (N : News h₀ L s.heap ((cl, PySem.W.listOf vc.toArray kc) :: (rl, orow) :: ledB L nl al bl ml fl sl c0 c1 c2 c3 e0 e1 e2 e3 k j o0 o1 o2 o3 u0 u1 u2 u3 on oa ob om w8 w7 w6 w5 w4 w3 w2 w1)) (T : Top hd.view_39 loose mean mg mb h₀)
  (hdp : dp + 8 < recursionLimit) (hun : un + 64 < cLine)
  (d5 : w5.data = .cell (some (.ref cl))) (hvc : IntsAre vc ((List.range 16).map g))
  (next : ∀ (tl : Addr) (vt : List Value) (h' : Heap) (tk' : Nat), StrsAre vt (tellW (fsum (fun i => decide (0 < g i)) 16)) →
    AllLt tl ((cl, PySem.W.listOf vc.toArray kc) :: (rl, orow) :: ledB L nl al bl ml fl sl c0 c1 c2 c3 e0 e1 e2 e3 k j o0 o1 o2 o3 u0 u1 u2 u3 on oa ob om w8 w7 w6 w5 w4 w3 w2 w1) →
    Fr h₀ L h' (mD m tl) → News h₀ L h' ((tl, PySem.W.listOf vt.toArray 0) :: (cl, PySem.W.listOf vc.toArray kc) :: (rl, orow) :: ledB L nl al bl ml fl sl c0 c1 c2 c3 e0 e1 e2 e3 k j o0 o1 o2 o3 u0 u1 u2 u3 on oa ob om w8 w7 w6 w5 w4 w3 w2 w1) →
    wpAny (model Challenge.rw_rl0062_01.row.prog w) (lawA dp un gd L a ccd outer) (execs (lawTail 10 lawBody) (lawEnv L a ccd)) Q E { s with heap := h', toks := tk' }) :
   wpAny (model Challenge.rw_rl0062_01.row.prog w) (lawA dp un gd L a ccd outer) (execs (lawTail 9 lawBody) (lawEnv L a ccd)) Q E s := by
   w_top off
   k_with_none
   k_with "eval Constant int" => (k_here; k_dflt (refine ci_f (fun t' tk' => ?_)))
   k_with "eval Constant str" => (k_here; k_dflt (refine cs_f (fun t' tk' => ?_)))
   k_with "eval Constant float" => (k_here; k_dflt (refine cf_f (fun t' tk' => ?_)))
   k_with "binaryOp Add int int" => (k_here; k_dflt (refine ai_f (fun t' tk' => ?_)))
   k_with "binaryOp Sub int int" => (k_here; k_dflt (refine si_f (fun t' tk' => ?_)))
   k_with "binaryOp Add float float" => (k_here; k_dflt (refine af_f (fun t' tk' => ?_)))
   k_with "binaryOp Sub float float" => (k_here; k_dflt (refine sf_f (fun t' tk' => ?_)))
   k_with "binaryOp Mult float float" => (k_here; k_dflt (refine mf_f (fun t' tk' => ?_)))
   k_with "binaryOp Mod int int" => (k_here; k_dflt (refine mi_f (by decide) (fun t' tk' => ?_)))
   k_with "FinE" => (k_here; dsimp only [LCg.FinE]; intro D' h' tk' F' N' o1'; replace o1' := offH_of o1'; (try simp only [OffH, and_true] at o1'); (repeat (obtain ⟨q9', o1'⟩ := o1')); (try k_sweep))
   k_with "execs cons" => (k_extra "stage")
   k_with "execs cons Assign cons" => (k_extra "stage")
   k_with "eval ListComp" => (k_here; k_dflt (refine LCt.ListComp_T (F₀ := by k_asm) (by with_unfolding_all rfl) (by decide) (by rfl) (by decide) (by rfl) ?_))
   k_with "CompSrcT" => (k_extra "src")
   k_with "CompEnd" => (k_here; k_dflt (refine' comp_end0 (by k_asm) (by k_asm) (by assumption) (by first | exact trivial | exact .inr ⟨_, by k_mem, rfl, _, rfl⟩) ⟨rfl, ?_⟩))
   k_with "subscriptTail Name Name ref int" => (k_here; (with_reducible show wpAny _ _ (subscriptTail _ _ (Value.ref _) (Value.int _ _)) _ _ _); k_dflt (refine' item_cnt (by k_asm) (by k_mem) (by with_reducible assumption) (by with_reducible assumption) ?_ (by with_unfolding_all rfl) (by intro _; with_unfolding_all rfl); k_whole; intro t'))
   k_with "binaryOp Pow int int" => (k_here; k_dflt (refine' pow16_use (by with_reducible assumption) ?_; k_whole); intro t' tk')
   k_with "call builtin:sum" => (k_here; k_dflt (refine' sum_use (by rfl) (by k_asm) (by k_asm) (by k_mem) (by with_reducible assumption) ?_; k_whole); intro h' tk' t' F' N'; (try k_sweep))
   k_with "call builtin:str.split" => (k_here; k_dflt (refine' split_use (by exact fsum_lt _ 16) (by k_asm) (by k_asm) ?_; k_whole); intro D' vs' h' tk' hs' F' N' l1; (try k_sweep))
   k_with "call ref" => (k_here; (with_reducible show wpAny _ _ (PySem.call (Value.ref 70) [Value.int _ _]) _ _ _); k_dflt (refine' flags_call (by k_asm) (by k_asm) (by k_asm) (by k_asm) (by k_asm) (by first | exact rfl | assumption) (by ktr_room) (by ktr_units) (by exact fsum_lt _ 16) ?_; k_whole); intro t' h' tk' F' N'; (try k_sweep); rw [show (if fsum _ 16 = 0 then [Str.ofString "0x0"] else wordsTo (fsum _ 16) 16) = tellW (fsum _ 16) from rfl])
   revert X; k_fill; intro X
   dsimp only [lawA, lawEnv, lawCells, lawBody, PySem.Challenge.pw_rl0062_01, lawTail, lawScope, bodyOf, scopesOf, List.drop, List.flatMap, List.map, List.flatten, List.append, HAppend.hAppend, Append.append, List.headD]
   dsimp only [lawA, lawEnv, lawCells, lawBody, PySem.Challenge.pw_rl0062_01, lawTail, lawScope, bodyOf, scopesOf, List.drop, List.flatMap, List.map, List.flatten, List.append, HAppend.hAppend, Append.append, List.headD] at next
   k_with "stage" => ((with_reducible show wpAny _ _ (execs (Stmt.Assign [Expr.Name (Str.ofString "twos") _] _ _ :: _) _) _ _ _); refine StageAt.intro ?_)
   k_with "src" => (k_dflt (refine' src_rangeT (fun i ys => IntsAre ys (pows (fun i => decide (0 < g i)) i)) 16 ?hh ?F ?N ?hr ?h1 ?h2 ?h3 ?h4 (fun g' ys' hs' => ?_) (fun g' i' ys' hi' hs' v' I' oI' C' oC' D' m' h' tk' E' hP' hC' hx' F' N' off' ne' => ?_); (case hh => rfl); (case F => k_asm); (case N => k_asm); (case hr => assumption); (case h1 => decide); (case h2 => decide); (case h3 => rw [sizeLine_eq]; decide); (case h4 => exact .nil); rotate_left; (obtain ⟨t9', hv9'⟩ := hP'); subst hv9'))
   k_steps
   · show IntsAre _ (pows _ (_ + 1))
     rw [pows_on (decide_eq_true (by assumption))]
     exact IntsAre.append (by assumption) (.cons _ _ .nil)
   · show IntsAre _ (pows _ (_ + 1))
     rw [pows_off (decide_eq_false (by assumption))]
     assumption
   unfold StageAt
   rename Fr _ _ _ _ => F5
   rename News _ _ _ _ => N5
   rename StrsAre _ _ => i5
   rename AllLt _ _ => l5
   exact next _ _ _ _ i5 l5.2 F5 (cb_drop N5 fun p hp => by
     rcases List.mem_cons.mp hp with h | h
     · exact List.mem_cons.mpr (.inl h)
     · exact List.mem_cons_of_mem _ (List.mem_cons_of_mem _ h))
end
end
section
open LCg
section
variable {w : World} {mean : ExcName → Option Value} {mg mb : Str → Option Value} {loose : List Str}
  {dp un : Nat} {gd : Option (List Code)} {cn : Str} {cs : Scope} {a : Addr} {ccd : Value} {cl : List (Str × Addr)} {outer : List Env} {A₀ : Around} {base h₀ : Heap} {L : Addr} {m : Str → Option Value} {s : Shared} {Q E : Value → Shared → Prop} {news : List (Addr × Obj)}
theorem told_use {c0 c1 c2 c3 pl ml : Addr} {o0 o1 o2 o3 : Obj} {p0 p1 p2 p3 n mn : Nat} {vm : List Value}
  (B : Below A₀ base outer h₀) (F : Fr h₀ L s.heap m) (X : (hd.heap_39 w.params).In h₀) (N : News h₀ L s.heap news) (T : Top hd.view_39 loose mean mg mb h₀) (hk : cs.kind = .function)
  (hdp : dp + 4 < recursionLimit) (hun : un + 32 < cLine)
  (mp : (pl, PySem.W.listOf #[.ref c0, .ref c1, .ref c2, .ref c3] n) ∈ news) (mm : (ml, PySem.W.listOf vm.toArray mn) ∈ news) (m0 : (c0, o0) ∈ news) (m1 : (c1, o1) ∈ news) (m2 : (c2, o2) ∈ news) (m3 : (c3, o3) ∈ news)
  (h0 : IsCol o0 p0) (h1 : IsCol o1 p1) (h2 : IsCol o2 p2) (h3 : IsCol o3 p3) (l0 : p0 < 16) (l1 : p1 < 16) (l2 : p2 < 16) (l3 : p3 < 16) (hv : HuesAre vm (List.range 16))
  (ret : ∀ (D : Addr) (vs : List Value) (k : Nat) (h' : Heap) (tk' : Nat), Fr h₀ L h' m → News h₀ L h' ((D, PySem.W.listOf vs.toArray k) :: news) →
    StrsAre vs (nestW (toldW p0 p1 p2 p3) 4) → AllLt D news → Q (.ref D) { s with heap := h', toks := tk' }) :
   wpAny (model Challenge.rw_rl0062_01.row.prog w) (ktrTop dp un gd cn cs L a ccd cl outer) (call (.ref 108) [.ref pl, .ref ml]) Q E s := by
  refine told_call (news := news) (c0 := c0) (c1 := c1) (c2 := c2) (c3 := c3) (n := n) (mn := mn) B F X (fun p hp => ?_) T hk hdp hun h0 h1 h2 h3 l0 l1 l2 l3 hv fun D vs k h' tk' F' N' i' l' => ret D vs k h' tk' F' (fun p hp => N' p ?_) i' l'.2.2.2.2.2.2
  · rcases List.mem_cons.mp hp with rfl | hp
    · exact N _ m3
    rcases List.mem_cons.mp hp with rfl | hp
    · exact N _ m2
    rcases List.mem_cons.mp hp with rfl | hp
    · exact N _ m1
    rcases List.mem_cons.mp hp with rfl | hp
    · exact N _ m0
    rcases List.mem_cons.mp hp with rfl | hp
    · exact N _ mp
    rcases List.mem_cons.mp hp with rfl | hp
    · exact N _ mm
    · exact N _ hp
  · rcases List.mem_cons.mp hp with rfl | hp
    · exact .head _
    · exact .tail _ (.tail _ (.tail _ (.tail _ (.tail _ (.tail _ (.tail _ hp))))))
end
section
variable {w : World} {mean : ExcName → Option Value} {mg mb : Str → Option Value} {loose : List Str}
  {dp un : Nat} {gd : Option (List Code)} {a : Addr} {ccd : Value} {outer : List Env} {A₀ : Around} {base h₀ : Heap} {L : Addr} {m : Str → Option Value} {s : Shared} {Q : Flow → Shared → Prop} {E : Value → Shared → Prop}
theorem offC_gt {L x : Nat} (h : L + 1 + 1 + 1 + 1 + 1 + 1 + 1 + 1 < x) : OffC L x :=
  ⟨⟨Nat.ne_of_lt h⟩, ⟨Nat.ne_of_lt (by omega)⟩, ⟨Nat.ne_of_lt (by omega)⟩, ⟨Nat.ne_of_lt (by omega)⟩, ⟨Nat.ne_of_lt (by omega)⟩, ⟨Nat.ne_of_lt (by omega)⟩, ⟨Nat.ne_of_lt (by omega)⟩, ⟨Nat.ne_of_lt (by omega)⟩⟩
noncomputable abbrev ledC (L al bl ml cl tl fl sl c0 c1 c2 c3 e0 e1 e2 e3 : Addr) (k j : Nat) (ot oc oa ob om o0 o1 o2 o3 u0 u1 u2 u3 w8 w7 w6 w5 w4 w3 w2 w1 : Obj) : List (Addr × Obj) :=
  (tl, ot) :: (cl, oc) :: palL sl j e0 e1 e2 e3 u0 u1 u2 u3 (palL fl k c0 c1 c2 c3 o0 o1 o2 o3 ((ml, om) :: (bl, ob) :: (al, oa) :: cellsL L w8 w7 w6 w5 w4 w3 w2 w1))
theorem stage6 {al bl ml cl tl fl sl c0 c1 c2 c3 e0 e1 e2 e3 : Addr} {km k j : Nat} {ot oc oa ob o0 o1 o2 o3 u0 u1 u2 u3 w8 w7 w6 w5 w4 w3 w2 w1 : Obj} {v6 x1 x2 x3 : Option Value} {vm : List Value} {nl : Addr} {p0 p1 p2 p3 q0 q1 q2 q3 : Nat}
  (B : Below A₀ base outer h₀) (F : Fr h₀ L s.heap (mD (mC m nl al ml fl sl x1 x2 x3) tl)) (X : (hd.heap_39 w.params).In h₀) (N : News h₀ L s.heap (ledC L al bl ml cl tl fl sl c0 c1 c2 c3 e0 e1 e2 e3 k j ot oc oa ob (PySem.W.listOf vm.toArray km) o0 o1 o2 o3 u0 u1 u2 u3 w8 w7 w6 w5 w4 w3 w2 w1)) (T : Top hd.view_39 loose mean mg mb h₀)
  (hdp : dp + 8 < recursionLimit) (hun : un + 64 < cLine)
  (d6 : w6.data = .cell v6) (hvm : HuesAre vm (List.range 16))
  (i0 : IsCol o0 p0) (i1 : IsCol o1 p1) (i2 : IsCol o2 p2) (i3 : IsCol o3 p3) (r0 : p0 < 16) (r1 : p1 < 16) (r2 : p2 < 16) (r3 : p3 < 16)
  (g0 : IsCol u0 q0) (g1 : IsCol u1 q1) (g2 : IsCol u2 q2) (g3 : IsCol u3 q3) (b0 : q0 < 16) (b1 : q1 < 16) (b2 : q2 < 16) (b3 : q3 < 16)
  (fal : OffC L al) (fbl : OffC L bl) (fml : OffC L ml) (fcl : OffC L cl) (ftl : OffC L tl) (ffl : OffC L fl) (fsl : OffC L sl) (fc0 : OffC L c0) (fc1 : OffC L c1) (fc2 : OffC L c2) (fc3 : OffC L c3) (fe0 : OffC L e0) (fe1 : OffC L e1) (fe2 : OffC L e2) (fe3 : OffC L e3)
  (next : ∀ (wl a1 a2 : Addr) (va vb : List Value) (ka kb kw : Nat) (o6 : Obj) (h' : Heap) (tk' : Nat), StrsAre va (nestW (toldW p0 p1 p2 p3) 4) → StrsAre vb (nestW (toldW q0 q1 q2 q3) 4) → cellOf o6 (.ref wl) → OffC L wl → OffC L a1 → OffC L a2 →
    Fr h₀ L h' (mD (mC m nl al ml fl sl x1 x2 x3) tl) → News h₀ L h' ((wl, PySem.W.listOf #[.ref a1, .ref a2] kw) :: (a2, PySem.W.listOf vb.toArray kb) :: (a1, PySem.W.listOf va.toArray ka) :: ledC L al bl ml cl tl fl sl c0 c1 c2 c3 e0 e1 e2 e3 k j ot oc oa ob (PySem.W.listOf vm.toArray km) o0 o1 o2 o3 u0 u1 u2 u3 w8 w7 o6 w5 w4 w3 w2 w1) →
    wpAny (model Challenge.rw_rl0062_01.row.prog w) (lawA dp un gd L a ccd outer) (execs (lawTail 11 lawBody) (lawEnv L a ccd)) Q E { s with heap := h', toks := tk' }) :
   wpAny (model Challenge.rw_rl0062_01.row.prog w) (lawA dp un gd L a ccd outer) (execs (lawTail 10 lawBody) (lawEnv L a ccd)) Q E s := by
   w_top off
   k_with_none
   k_with "eval Constant int" => (k_here; k_dflt (refine ci_f (fun t' tk' => ?_)))
   k_with "eval Constant str" => (k_here; k_dflt (refine cs_f (fun t' tk' => ?_)))
   k_with "eval Constant float" => (k_here; k_dflt (refine cf_f (fun t' tk' => ?_)))
   k_with "binaryOp Add int int" => (k_here; k_dflt (refine ai_f (fun t' tk' => ?_)))
   k_with "binaryOp Sub int int" => (k_here; k_dflt (refine si_f (fun t' tk' => ?_)))
   k_with "binaryOp Add float float" => (k_here; k_dflt (refine af_f (fun t' tk' => ?_)))
   k_with "binaryOp Sub float float" => (k_here; k_dflt (refine sf_f (fun t' tk' => ?_)))
   k_with "binaryOp Mult float float" => (k_here; k_dflt (refine mf_f (fun t' tk' => ?_)))
   k_with "binaryOp Mod int int" => (k_here; k_dflt (refine mi_f (by decide) (fun t' tk' => ?_)))
   k_with "execs cons" => (k_extra "stage")
   k_with "execs cons Assign cons" => (k_extra "stage")
   k_with "call ref" => (k_here; (with_reducible show wpAny _ _ (PySem.call (Value.ref 108) [Value.ref _, Value.ref _]) _ _ _); k_dflt (refine' told_use (by k_asm) (by k_asm) (by k_asm) (by k_asm) (by k_asm) (by first | exact rfl | assumption) (by ktr_room) (by ktr_units) (by k_mem) (by k_mem) (by k_mem) (by k_mem) (by k_mem) (by k_mem) (by with_reducible assumption) (by with_reducible assumption) (by with_reducible assumption) (by with_reducible assumption) (by with_reducible assumption) (by with_reducible assumption) (by with_reducible assumption) (by with_reducible assumption) (by with_reducible assumption) ?_; k_whole); intro D' vs' k' h' tk' F' N' i' l1; (try simp only [AllLt, and_true] at l1); (try k_sweep))
   have fal6 := fal.2.2.1
   have fbl6 := fbl.2.2.1
   have fml6 := fml.2.2.1
   have fcl6 := fcl.2.2.1
   have ftl6 := ftl.2.2.1
   have ffl6 := ffl.2.2.1
   have fsl6 := fsl.2.2.1
   have fc06 := fc0.2.2.1
   have fc16 := fc1.2.2.1
   have fc26 := fc2.2.2.1
   have fc36 := fc3.2.2.1
   have fe06 := fe0.2.2.1
   have fe16 := fe1.2.2.1
   have fe26 := fe2.2.2.1
   have fe36 := fe3.2.2.1
   revert X; k_fill; intro X
   dsimp only [lawA, lawEnv, lawCells, lawBody, PySem.Challenge.pw_rl0062_01, lawTail, lawScope, bodyOf, scopesOf, List.drop, List.flatMap, List.map, List.flatten, List.append, HAppend.hAppend, Append.append, List.headD]
   dsimp only [lawA, lawEnv, lawCells, lawBody, PySem.Challenge.pw_rl0062_01, lawTail, lawScope, bodyOf, scopesOf, List.drop, List.flatMap, List.map, List.flatten, List.append, HAppend.hAppend, Append.append, List.headD] at next
   k_with "stage" => ((with_reducible show wpAny _ _ (execs (Stmt.Assign [Expr.Name (Str.ofString "apart") _] _ _ :: _) _) _ _ _); refine StageAt.intro ?_)
   k_steps
   unfold StageAt
   rename Fr _ _ _ _ => F5
   rename News _ _ _ _ => N5
   rename _ = Data.cell (some (Value.ref _)) => d5
   exact next _ _ _ _ _ _ _ _ _ _ _ (by with_reducible assumption) (by with_reducible assumption) d5 (offC_gt (by omega)) (offC_gt (by omega)) (offC_gt (by omega)) F5 N5
end
end
section
open LCg
theorem strs_at : ∀ {vs : List Value} {ws : List Str} {i : Nat} {v : Value}, StrsAre vs ws → vs[i]? = some v → ∃ w t, ws[i]? = some w ∧ v = .str w t
  | _, _, _, _, .nil, e => by simp at e
  | _, _, 0, _, .cons w t r, e => ⟨w, t, rfl, (Option.some.inj e).symm⟩
  | _, _, i + 1, _, .cons w t r, e => by
    obtain ⟨w', t', a, b⟩ := strs_at r (i := i) (by simpa using e)
    exact ⟨w', t', by simpa using a, b⟩
theorem dat_strs {news : List (Addr × Obj)} : ∀ {vs : List Value} {ws : List Str}, StrsAre vs ws → DatAll news vs (ws.map Dat.str)
  | _, _, .nil => .nil
  | _, _, .cons w t r => .cons (.str w t) (dat_strs r)
theorem map_str_inj : ∀ {ws zs : List Str}, ws.map Dat.str = zs.map Dat.str ↔ ws = zs
  | [], [] => by simp
  | [], _ :: _ => by simp
  | _ :: _, [] => by simp
  | a :: r, b :: t => by simp only [List.map_cons, List.cons.injEq, Dat.str.injEq, map_str_inj (ws := r) (zs := t)]
/-- every word is a proper text -/
noncomputable def Oks (ws : List Str) : Prop := ∀ w ∈ ws, PyData.strOk w = true
theorem kqd_strs {ws : List Str} (h : Oks ws) : ∀ d ∈ ws.map Dat.str, kqdOk 8 d = true := fun d hd => by
  obtain ⟨w, hw, rfl⟩ := List.mem_map.mp hd
  exact h w hw
theorem kqd_strs7 {ws : List Str} (h : Oks ws) : kqdOk 8 (.list (ws.map Dat.str)) = true := by
  show (ws.map Dat.str).all (kqdOk 7) = true
  rw [List.all_eq_true]
  intro d hd
  obtain ⟨w, hw, rfl⟩ := List.mem_map.mp hd
  exact h w hw
section
variable {prog : Program} {w : World} {A : Around} {E : Value → Shared → Prop} {s : Shared} {h₀ : Heap} {L a b : Addr} {m : Str → Option Value} {news : List (Addr × Obj)} {oa ob : Obj} {xs ys : List Value} {ka kb : Nat} {ws zs : List Str} {Q : Value → Shared → Prop}
open Classical in
theorem eq_strs (N : News h₀ L s.heap news) (ma : (a, oa) ∈ news) (mb : (b, ob) ∈ news) (ca : oa.cls = .type "list") (da : oa.data = .seq xs.toArray ka) (Da : StrsAre xs ws)
    (cb : ob.cls = .type "list") (db : ob.data = .seq ys.toArray kb) (Db : StrsAre ys zs) (ha : Oks ws) (hb : Oks zs) (hu : A.units + 64 < cLine)
    (h : ∀ r : Bool, (r = true ↔ ws = zs) → Q (.bool r) s) : wpAny (model prog w) A (compareOp .Eq (.ref a) (.ref b)) Q E s :=
  kqd_eq N ma ca da (dat_strs (news := []) Da) (fun _ hp => nomatch hp) mb cb db (dat_strs (news := []) Db) (fun _ hp => nomatch hp) (kqd_strs ha) (kqd_strs hb) hu (h _ (by rw [decide_eq_true_eq]; exact map_str_inj))
theorem two_data {a1 a2 : Addr} {k1 k2 : Nat} {v1 v2 : List Value} {w1 w2 : List Str} (m1 : (a1, PySem.W.listOf v1.toArray k1) ∈ news) (m2 : (a2, PySem.W.listOf v2.toArray k2) ∈ news) (i1 : StrsAre v1 w1) (i2 : StrsAre v2 w2) :
    DatAll news [Value.ref a1, Value.ref a2] [Dat.list (w1.map Dat.str), Dat.list (w2.map Dat.str)] :=
  .cons (.list m1 (dat_strs i1)) (.cons (.list m2 (dat_strs i2)) .nil)
open Classical in
theorem ne_twos {D1 D2 a1 a2 b1 b2 : Addr} {kw kz k1 k2 j1 j2 : Nat} {v1 v2 u1 u2 : List Value} {w1 w2 z1 z2 : List Str} (N : News h₀ L s.heap news)
    (mD : (D1, PySem.W.listOf #[.ref a1, .ref a2] kw) ∈ news) (mE : (D2, PySem.W.listOf #[.ref b1, .ref b2] kz) ∈ news)
    (m1 : (a1, PySem.W.listOf v1.toArray k1) ∈ news) (m2 : (a2, PySem.W.listOf v2.toArray k2) ∈ news) (n1 : (b1, PySem.W.listOf u1.toArray j1) ∈ news) (n2 : (b2, PySem.W.listOf u2.toArray j2) ∈ news)
    (i1 : StrsAre v1 w1) (i2 : StrsAre v2 w2) (i3 : StrsAre u1 z1) (i4 : StrsAre u2 z2) (o1 : Oks w1) (o2 : Oks w2) (o3 : Oks z1) (o4 : Oks z2) (hu : A.units + 64 < cLine)
    (h : ∀ r : Bool, (r = true ↔ ¬(w1 = z1 ∧ w2 = z2)) → Q (.bool r) s) : wpAny (model prog w) A (compareOp .NotEq (.ref D1) (.ref D2)) Q E s := by
  refine kqd_ne (xs := [.ref a1, .ref a2]) (ys := [.ref b1, .ref b2]) N mD rfl rfl (two_data m1 m2 i1 i2) (fun _ hp => hp) mE rfl rfl (two_data n1 n2 i3 i4) (fun _ hp => hp) ?_ ?_ hu (h _ ?_)
  · intro d hd
    rcases List.mem_cons.mp hd with rfl | hd
    · exact kqd_strs7 o1
    · rw [List.mem_singleton.mp hd]; exact kqd_strs7 o2
  · intro d hd
    rcases List.mem_cons.mp hd with rfl | hd
    · exact kqd_strs7 o3
    · rw [List.mem_singleton.mp hd]; exact kqd_strs7 o4
  · rw [Bool.not_eq_true', decide_eq_false_iff_not]
    simp only [List.cons.injEq, Dat.list.injEq, map_str_inj, and_true]
theorem add_strs (F : Fr h₀ L s.heap m) (N : News h₀ L s.heap news) (ma : (a, PySem.W.listOf xs.toArray ka) ∈ news) (mb : (b, PySem.W.listOf ys.toArray kb) ∈ news) (Da : StrsAre xs ws) (Db : StrsAre ys zs) (hl : ws.length + zs.length ≤ 100)
    (h : ∀ D vs h', StrsAre vs (ws ++ zs) → Fr h₀ L h' m → News h₀ L h' ((D, PySem.W.listOf vs.toArray 0) :: news) → AllLt D news → Q (.ref D) { s with heap := h' }) : wpAny (model prog w) A (binaryOp .Add (.ref a) (.ref b)) Q E s := by
  have e1 := strs_length Da
  have e2 := strs_length Db
  refine add_arrays (its := xs.toArray) (its2 := ys.toArray) F N ⟨_, (N _ ma).1, rfl, _, rfl⟩ ⟨_, (N _ mb).1, rfl, _, rfl⟩ (fun h' F' N' => ?_) (by rw [List.size_toArray, List.size_toArray, e1, e2, sizeLine_eq]; omega)
  exact h _ _ _ (strs_append Da Db) F' N' (allLt_of fun p hp => Heap.lt_size (N p hp).1)
theorem in_strs {t : Tok} {x : Str} (N : News h₀ L s.heap news) (ma : (a, PySem.W.listOf xs.toArray ka) ∈ news) (Da : StrsAre xs ws) (h : ∀ r : Bool, (r = true ↔ x ∈ ws) → Q (.bool r) s) : wpAny (model prog w) A (compareOp .In (.str x t) (.ref a)) Q E s :=
  in_list_strs ⟨_, (N _ ma).1, rfl, _, rfl⟩ Da (h _ (by rw [List.any_eq_true]; simp))
theorem notin_strs {t : Tok} {x : Str} (N : News h₀ L s.heap news) (ma : (a, PySem.W.listOf xs.toArray ka) ∈ news) (Da : StrsAre xs ws) (h : ∀ r : Bool, (r = true ↔ x ∉ ws) → Q (.bool r) s) : wpAny (model prog w) A (compareOp .NotIn (.str x t) (.ref a)) Q E s :=
  notin_list_strs ⟨_, (N _ ma).1, rfl, _, rfl⟩ Da (h _ (by rw [Bool.not_eq_true', List.any_eq_false]; exact ⟨fun q hx => q x hx (by simp), fun q y hy e => q (by rwa [eq_of_beq e] at hy)⟩))
end
theorem wordOf_ok (i : Nat) : PyData.strOk (wordOf i) = true := by
  have h17 : ∀ i < 17, PyData.strOk (wordOf i) = true := by decide +kernel
  rcases Nat.lt_or_ge i 17 with h | h
  · exact h17 i h
  · have : wordOf i = wordOf 16 := by
      unfold wordOf
      rw [List.getD_eq_getElem?_getD, List.getD_eq_getElem?_getD, List.getElem?_eq_none (by show 16 ≤ i; omega)]
      rfl
    rw [this]; exact h17 16 (by decide)
theorem ox_ok : PyData.strOk (Str.ofString "0x0") = true := by decide +kernel
theorem due_ok (g : Int) : PyData.strOk (dueWord g) = true := by
  unfold dueWord
  split
  · decide +kernel
  · split
    · decide +kernel
    · split
      · decide +kernel
      · split <;> decide +kernel
theorem oks_nil : Oks [] := fun _ h => nomatch h
theorem oks_nest {word : Nat → Nat → Str} (h : ∀ i j, PyData.strOk (word i j) = true) (n : Nat) : Oks (nestW word n) := fun w hw => by
  unfold nestW at hw
  obtain ⟨i, _, hw⟩ := List.mem_flatMap.mp hw
  obtain ⟨j, _, rfl⟩ := List.mem_map.mp hw
  exact h i j
theorem oks_told {p0 p1 p2 p3 : Nat} : Oks (nestW (toldW p0 p1 p2 p3) 4) := oks_nest (fun _ _ => due_ok _) 4
theorem oks_filter {ws : List Str} {p : Str → Bool} (h : Oks ws) : Oks (ws.filter p) := fun w hw => h w (List.mem_filter.mp hw).1
theorem oks_tell {f : Nat} : Oks (tellW f) := by
  unfold tellW
  split
  · intro w hw; rw [List.mem_singleton.mp hw]; exact ox_ok
  · intro w hw
    unfold wordsTo at hw
    obtain ⟨j, _, rfl⟩ := List.mem_map.mp hw
    exact wordOf_ok j
theorem nest_len (word : Nat → Nat → Str) : (nestW word 4).length = 6 := rfl
end
section
open LCg
/-- no word of the one is one of the other, and none is 0x0 -/
noncomputable def apartP (ws zs : List Str) : Prop := ws.filter (fun w => zs.any (· == w)) = [] ∧ Str.ofString "0x0" ∉ ws ++ zs
noncomputable def pickF (ws zs : List Str) (i : Nat) : List Str := (ws.take i).filter (fun w => zs.any (· == w))
theorem pickF_on {ws zs : List Str} {i : Nat} {w : Str} (e : ws[i]? = some w) (h : w ∈ zs) : pickF ws zs (i + 1) = pickF ws zs i ++ [w] := by
  unfold pickF; rw [List.take_add_one, e, List.filter_append]
  have : zs.any (· == w) = true := by rw [List.any_eq_true]; exact ⟨w, h, by simp⟩
  simp [this]
theorem pickF_off {ws zs : List Str} {i : Nat} {w : Str} (e : ws[i]? = some w) (h : w ∉ zs) : pickF ws zs (i + 1) = pickF ws zs i := by
  unfold pickF; rw [List.take_add_one, e, List.filter_append]
  have : zs.any (· == w) = false := by rw [List.any_eq_false]; intro y hy q; exact h (by rwa [eq_of_beq q] at hy)
  simp [this]
theorem pickF_all {ws zs : List Str} {n : Nat} (h : n = ws.length) : pickF ws zs n = ws.filter (fun w => zs.any (· == w)) := by
  unfold pickF; rw [h, List.take_length]
section
variable {w : World} {mean : ExcName → Option Value} {mg mb : Str → Option Value} {loose : List Str}
  {dp un : Nat} {gd : Option (List Code)} {a : Addr} {ccd : Value} {outer : List Env} {A₀ : Around} {base h₀ : Heap} {L : Addr} {m : Str → Option Value} {s : Shared} {Q : Flow → Shared → Prop} {E : Value → Shared → Prop}
noncomputable abbrev ledD (L al bl cl tl wl a1 a2 : Addr) (ka kb kw : Nat) (va vb : List Value) (ot oc oa ob w8 w7 w6 w5 w4 w3 w2 w1 : Obj) : List (Addr × Obj) :=
  (wl, PySem.W.listOf #[.ref a1, .ref a2] kw) :: (a2, PySem.W.listOf vb.toArray kb) :: (a1, PySem.W.listOf va.toArray ka) :: (tl, ot) :: (cl, oc) :: (bl, ob) :: (al, oa) :: cellsL L w8 w7 w6 w5 w4 w3 w2 w1
noncomputable abbrev mE (m : Str → Option Value) (b : Bool) : Str → Option Value := fun y => if y = Str.ofString "apart" then some (.bool b) else m y
theorem stage7 {al bl cl tl wl a1 a2 : Addr} {ka kb kw : Nat} {va vb : List Value} {ot oc oa ob w8 w7 w6 w5 w4 w3 w2 w1 : Obj} {ws zs : List Str}
  (B : Below A₀ base outer h₀) (F : Fr h₀ L s.heap m) (X : (hd.heap_39 w.params).In h₀) (N : News h₀ L s.heap (ledD L al bl cl tl wl a1 a2 ka kb kw va vb ot oc oa ob w8 w7 w6 w5 w4 w3 w2 w1)) (T : Top hd.view_39 loose mean mg mb h₀)
  (hdp : dp + 8 < recursionLimit) (hun : un + 64 < cLine)
  (d6 : w6.data = .cell (some (.ref wl))) (iva : StrsAre va ws) (ivb : StrsAre vb zs) (oka : Oks ws) (lwa : ws.length = 6) (lwb : zs.length = 6)
  (next : ∀ (b : Bool) (h' : Heap) (tk' : Nat), (b = true ↔ apartP ws zs) →
    Fr h₀ L h' (mE m b) → News h₀ L h' (ledD L al bl cl tl wl a1 a2 ka kb kw va vb ot oc oa ob w8 w7 w6 w5 w4 w3 w2 w1) →
    wpAny (model Challenge.rw_rl0062_01.row.prog w) (lawA dp un gd L a ccd outer) (execs (lawTail 12 lawBody) (lawEnv L a ccd)) Q E { s with heap := h', toks := tk' }) :
   wpAny (model Challenge.rw_rl0062_01.row.prog w) (lawA dp un gd L a ccd outer) (execs (lawTail 11 lawBody) (lawEnv L a ccd)) Q E s := by
   w_top off
   k_with_none
   k_with "eval Constant int" => (k_here; k_dflt (refine ci_f (fun t' tk' => ?_)))
   k_with "eval Constant str" => (k_here; k_dflt (refine cs_f (fun t' tk' => ?_)))
   k_with "eval Constant float" => (k_here; k_dflt (refine cf_f (fun t' tk' => ?_)))
   k_with "binaryOp Add int int" => (k_here; k_dflt (refine ai_f (fun t' tk' => ?_)))
   k_with "binaryOp Sub int int" => (k_here; k_dflt (refine si_f (fun t' tk' => ?_)))
   k_with "binaryOp Add float float" => (k_here; k_dflt (refine af_f (fun t' tk' => ?_)))
   k_with "binaryOp Sub float float" => (k_here; k_dflt (refine sf_f (fun t' tk' => ?_)))
   k_with "binaryOp Mult float float" => (k_here; k_dflt (refine mf_f (fun t' tk' => ?_)))
   k_with "binaryOp Mod int int" => (k_here; k_dflt (refine mi_f (by decide) (fun t' tk' => ?_)))
   k_with "FinE" => (k_here; dsimp only [LCg.FinE]; intro D' h' tk' F' N' o1'; clear o1'; (try k_sweep))
   k_with "execs cons" => (k_extra "stage")
   k_with "execs cons If cons" => (k_extra "stage")
   k_with "eval ListComp" => (k_here; k_dflt (refine LCt.ListComp_T (F₀ := by k_asm) (by with_unfolding_all rfl) (by decide) (by rfl) (by decide) (by rfl) ?_))
   k_with "CompSrcT" => (k_extra "src")
   k_with "CompEnd" => (k_here; k_dflt (refine' comp_end0 (by k_asm) (by k_asm) (by assumption) (by first | exact trivial | exact .inr ⟨_, by k_mem, rfl, _, rfl⟩) ⟨rfl, ?_⟩))
   k_with "compareOp In str ref" => (k_here; k_dflt (refine' in_strs (by k_asm) (by k_mem) (by with_reducible assumption) ?_; k_whole); intro r' hr')
   k_with "compareOp NotIn str ref" => (k_here; k_dflt (refine' notin_strs (by k_asm) (by k_mem) (by with_reducible assumption) ?_; k_whole); intro r' hr')
   k_with "compareOp Eq ref ref" => (k_here; k_dflt (refine' eq_strs (ys := []) (zs := []) (by k_asm) (by k_mem) (by k_mem) (by exact rfl) (by exact rfl) (by with_reducible assumption) (by exact rfl) (by exact rfl) .nil (by exact oks_filter (by with_reducible assumption)) oks_nil (by ke_room) ?_; k_whole); intro r' hr')
   k_with "binaryOp Add ref ref" => (k_here; k_dflt (refine' add_strs (by k_asm) (by k_asm) (by k_mem) (by k_mem) (by with_reducible assumption) (by with_reducible assumption) (by omega) ?_; k_whole); intro D' vs' h' i' F' N' l1; clear l1; (try k_sweep))
   have hva := strs_length iva
   revert X; k_fill; intro X
   dsimp only [lawA, lawEnv, lawCells, lawBody, PySem.Challenge.pw_rl0062_01, lawTail, lawScope, bodyOf, scopesOf, List.drop, List.flatMap, List.map, List.flatten, List.append, HAppend.hAppend, Append.append, List.headD]
   dsimp only [lawA, lawEnv, lawCells, lawBody, PySem.Challenge.pw_rl0062_01, lawTail, lawScope, bodyOf, scopesOf, List.drop, List.flatMap, List.map, List.flatten, List.append, HAppend.hAppend, Append.append, List.headD] at next
   k_with "stage" => ((with_reducible show wpAny _ _ (execs (Stmt.If _ _ _ _ :: _) _) _ _ _); refine StageAt.intro ?_)
   k_with "src" => (k_dflt (refine' src_listT (l := va) (fun i ys => StrsAre ys (pickF ws zs i)) ?hh ?F ?N ?hm ?hz ?h4 (fun g' ys' hs' => ?_) (fun g' i' ys' hi' hs' v' I' oI' C' oC' D' m' h' tk' E' hP' hC' hx' F' N' off' ne' => ?_); (case hh => rfl); (case F => k_asm); (case N => k_asm); (case hm => k_mem); (case hz => rw [hva, lwa, sizeLine_eq]; decide); (case h4 => exact .nil); rotate_left; (obtain ⟨w9', t9', hw9', hv9'⟩ := strs_at iva hP'); subst hv9'; rotate_left; (replace hs' : StrsAre ys' (ws.filter (fun w => zs.any (· == w))) := by rw [← pickF_all hva]; exact hs'); rotate_left))
   k_steps
   · show StrsAre _ (pickF ws zs (_ + 1))
     rename _ = true ↔ _ ∈ zs => h9
     rw [pickF_on (by assumption) (h9.mp (by assumption))]
     exact strs_append (by assumption) (.cons _ _ .nil)
   · show StrsAre _ (pickF ws zs (_ + 1))
     rename _ = true ↔ _ ∈ zs => h9
     rename _ = false => h8
     rw [pickF_off (by assumption) (fun q => by rw [h9.mpr q] at h8; cases h8)]
     assumption
   · unfold StageAt
     rename Fr _ _ _ _ => F5
     rename News _ _ _ _ => N5
     rename _ = true ↔ _ = [] => h7
     rename _ = true ↔ ¬_ => h6
     rename _ = true => h8
     refine next _ _ _ ?_ F5 (news_tail (news_tail (news_tail N5)))
     rw [h6]
     exact ⟨fun q => ⟨h7.mp h8, q⟩, fun q => q.2⟩
   · unfold StageAt
     rename Fr _ _ _ _ => F5
     rename News _ _ _ _ => N5
     rename _ = true ↔ _ = [] => h7
     rename _ = false => h8
     refine next _ _ _ ?_ F5 (news_tail (news_tail N5))
     rw [h7]
     exact ⟨fun q => absurd (h7.mpr q) (by rw [h8]; exact Bool.noConfusion), fun q => q.1⟩
end
end
section
open LCg
section
variable {prog : Program} {w : World} {A : Around} {E : Value → Shared → Prop} {s : Shared} {h₀ : Heap} {L a b : Addr} {m : Str → Option Value} {news : List (Addr × Obj)} {xs ys : List Value} {ka kb : Nat} {ws zs : List Str} {Q : Value → Shared → Prop}
theorem len_strs (N : News h₀ L s.heap news) (ma : (a, PySem.W.listOf xs.toArray ka) ∈ news) (Da : StrsAre xs ws) (hl : ws.length ≤ 100) (h : ∀ t k, Q (.int (ws.length : Int) t) { s with toks := k }) : wpAny (model prog w) A (call (.builtin "len") [.ref a]) Q E s := by
  have e : (xs.toArray.size : Int) = (ws.length : Int) := by rw [List.size_toArray, strs_length Da]
  refine PyProof.Rows.len_list ⟨_, (N _ ma).1, rfl, _, rfl⟩ (by rw [e]; omega) ?_
  rw [e]
  exact h _ _
end
section
variable {w : World} {mean : ExcName → Option Value} {mg mb : Str → Option Value} {loose : List Str}
  {dp un : Nat} {gd : Option (List Code)} {a : Addr} {ccd : Value} {outer : List Env} {A₀ : Around} {base h₀ : Heap} {L : Addr} {m : Str → Option Value} {s : Shared} {Q : Flow → Shared → Prop} {E : Value → Shared → Prop}
theorem stage8 {al bl cl tl wl a1 a2 : Addr} {ka kb kw kt : Nat} {va vb vt : List Value} {oc oa ob w8 w7 w6 w5 w4 w3 w2 w1 : Obj} {ts : List Str} {ap : Bool}
  (B : Below A₀ base outer h₀) (F : Fr h₀ L s.heap (mE (mD m tl) ap)) (X : (hd.heap_39 w.params).In h₀) (N : News h₀ L s.heap (ledD L al bl cl tl wl a1 a2 ka kb kw va vb (PySem.W.listOf vt.toArray kt) oc oa ob w8 w7 w6 w5 w4 w3 w2 w1)) (T : Top hd.view_39 loose mean mg mb h₀)
  (hdp : dp + 8 < recursionLimit) (hun : un + 64 < cLine)
  (ivt : StrsAre vt ts) (lt : ts.length ≤ 100) (hap : ap = true ↔ ts.length = 16)
  (next : ∀ (h' : Heap) (tk' : Nat), 
    Fr h₀ L h' (mE (mD m tl) ap) → News h₀ L h' (ledD L al bl cl tl wl a1 a2 ka kb kw va vb (PySem.W.listOf vt.toArray kt) oc oa ob w8 w7 w6 w5 w4 w3 w2 w1) →
    wpAny (model Challenge.rw_rl0062_01.row.prog w) (lawA dp un gd L a ccd outer) (execs (lawTail 13 lawBody) (lawEnv L a ccd)) Q E { s with heap := h', toks := tk' }) :
   wpAny (model Challenge.rw_rl0062_01.row.prog w) (lawA dp un gd L a ccd outer) (execs (lawTail 12 lawBody) (lawEnv L a ccd)) Q E s := by
   w_top off
   k_with_none
   k_with "eval Constant int" => (k_here; k_dflt (refine ci_f (fun t' tk' => ?_)))
   k_with "eval Constant str" => (k_here; k_dflt (refine cs_f (fun t' tk' => ?_)))
   k_with "eval Constant float" => (k_here; k_dflt (refine cf_f (fun t' tk' => ?_)))
   k_with "binaryOp Add int int" => (k_here; k_dflt (refine ai_f (fun t' tk' => ?_)))
   k_with "binaryOp Sub int int" => (k_here; k_dflt (refine si_f (fun t' tk' => ?_)))
   k_with "binaryOp Add float float" => (k_here; k_dflt (refine af_f (fun t' tk' => ?_)))
   k_with "binaryOp Sub float float" => (k_here; k_dflt (refine sf_f (fun t' tk' => ?_)))
   k_with "binaryOp Mult float float" => (k_here; k_dflt (refine mf_f (fun t' tk' => ?_)))
   k_with "binaryOp Mod int int" => (k_here; k_dflt (refine mi_f (by decide) (fun t' tk' => ?_)))
   k_with "execs cons" => (k_extra "stage")
   k_with "execs cons Assign cons" => (k_extra "stage")
   k_with "call builtin:len" => (k_here; k_dflt (refine' len_strs (by k_asm) (by k_mem) (by with_reducible assumption) (by with_reducible assumption) ?_; k_whole); intro t' tk')
   revert X; k_fill; intro X
   dsimp only [lawA, lawEnv, lawCells, lawBody, PySem.Challenge.pw_rl0062_01, lawTail, lawScope, bodyOf, scopesOf, List.drop, List.flatMap, List.map, List.flatten, List.append, HAppend.hAppend, Append.append, List.headD]
   dsimp only [lawA, lawEnv, lawCells, lawBody, PySem.Challenge.pw_rl0062_01, lawTail, lawScope, bodyOf, scopesOf, List.drop, List.flatMap, List.map, List.flatten, List.append, HAppend.hAppend, Append.append, List.headD] at next
   k_with "stage" => ((with_reducible show wpAny _ _ (execs (Stmt.Assign [Expr.Name (Str.ofString "sums") _] _ _ :: _) _) _ _ _); refine StageAt.intro ?_)
   have hl : (((ts.length : Nat) : Int) == 16) = ap := by
     rw [Bool.eq_iff_iff, beq_iff_eq, hap]
     omega
   k_steps
   · rename (_ != _) = true => h9
     rw [hl, bne_self_eq_false] at h9
     cases h9
   · unfold StageAt
     exact next _ _ (by assumption) (by assumption)
end
end
section
open LCg
section
variable {prog : Program} {w : World} {A : Around} {E : Value → Shared → Prop} {R : Result → Shared → Prop} {s : Shared} {h₀ : Heap} {L : Addr} {m : Str → Option Value} {env : Env}
theorem compTurn_two0 (elt t1 i1 t2 i2 : Expr) (scope : Scope) (pos : Pos) (it acc : Value) (env : Env) :
    compTurn (.ListComp elt [⟨t1, i1, [], 0⟩, ⟨t2, i2, [], 0⟩] scope pos) 0 it acc env = (standAt i1.pos >>= fun _ => pyNext it >>= fun r => match r with
      | none => pure (.done .next)
      | some v => letOwnedTupleGo t1 it v >>= fun _ => assign t1 env v >>= fun _ =>
        eval i2 env >>= fun x => standAt i2.pos >>= fun _ => foldedSetIterable i2 env x >>= fun x => holding [x] (pyIter x) >>= fun it2 => runOwn (.compStart (.ListComp elt [⟨t1, i1, [], 0⟩, ⟨t2, i2, [], 0⟩] scope pos) 1 it2 acc env) env >>= fun _ =>
          again (.compLoop (.ListComp elt [⟨t1, i1, [], 0⟩, ⟨t2, i2, [], 0⟩] scope pos) 0 it acc env)) := by rfl
theorem compTurn_two1 (elt t1 i1 t2 i2 : Expr) (scope : Scope) (pos : Pos) (it acc : Value) (env : Env) :
    compTurn (.ListComp elt [⟨t1, i1, [], 0⟩, ⟨t2, i2, [], 0⟩] scope pos) 1 it acc env = (standAt i2.pos >>= fun _ => pyNext it >>= fun r => match r with
      | none => pure (.done .next)
      | some v => letOwnedTupleGo t2 it v >>= fun _ => assign t2 env v >>= fun _ =>
        (eval elt env >>= fun x => call (.builtin "list.append") [acc, x] >>= fun _ => pure ()) >>= fun _ =>
          again (.compLoop (.ListComp elt [⟨t1, i1, [], 0⟩, ⟨t2, i2, [], 0⟩] scope pos) 1 it acc env)) := by rfl
theorem start_two1 {elt c1 t2 i2 scope pos it acc env}
    (h0 : codeAny (model prog w) A (.compLoop (.ListComp elt [c1, ⟨t2, i2, [], 0⟩] scope pos) 1 it acc env) R s)
    (h : wpAny (model prog w) A (pyIter it) (fun it' s' => codeAny (model prog w) A (.compLoop (.ListComp elt [c1, ⟨t2, i2, [], 0⟩] scope pos) 1 it' acc env) R s')
      (notedBy (model prog w) A env fun x s' => R (.error x) s') s) :
    codeAny (model prog w) A (.compStart (.ListComp elt [c1, ⟨t2, i2, [], 0⟩] scope pos) 1 it acc env) R s := by
  refine codeAny_of_tree ?_
  show wpAny _ _ ((compStart (.ListComp elt [c1, ⟨t2, i2, [], 0⟩] scope pos) 1 it acc env).onRaise (fun x => do noteFrame x env; standAt theWindowsPlace)) _ _ s
  refine wpAny_notedAt ?_
  unfold compStart
  show wpAny _ _ (ask >>= _) _ _ s
  refine wpAny_bind (wpAny_askSetting (wpAny_ite ?_))
  split
  · first
      | exact wpAny_bind (wpAny_pure (wpAny_pure (And.intro rfl h0)))
      | exact wpAny_pure (And.intro rfl h0)
  · first
      | exact wpAny_bind (wpAny_rule (wpAny_bind (wpAny_standAt (wpAny_bind (wpAny_mono h (fun it' s' h' => wpAny_pure (And.intro rfl h')) fun _ _ x => x)))))
      | (refine wpAny_bind (wpAny_rule ?_); show wpAny _ _ (standAt i2.pos >>= _) _ _ s; exact wpAny_bind (wpAny_standAt (wpAny_bind (wpAny_mono h (fun it' s' h' => wpAny_pure (And.intro rfl h')) fun _ _ x => x))))
theorem loop_two1 {elt t2 i2 : Expr} {scope : Scope} {pos : Pos} {it acc : Value} {env : Env} {t1 i1 : Expr} (I : Nat → Shared → Prop)
    (turn : ∀ n s, I n s → wpAny (model prog w) A (pyNext it) (fun r s₁ => match r with
      | none => R (.ok .next) s₁
      | some v => wpAny (model prog w) A (assign t2 env v) (fun _ s₂ => wpAny (model prog w) A (eval elt env) (fun x s₃ =>
          wpAny (model prog w) A (call (.builtin "list.append") [acc, x]) (fun _ s₄ => ∃ m, m < n ∧ I m s₄) (notedBy (model prog w) A env fun e s' => R (.error e) s') s₃)
          (notedBy (model prog w) A env fun e s' => R (.error e) s') s₂) (notedBy (model prog w) A env fun e s' => R (.error e) s') s₁) (notedBy (model prog w) A env fun e s' => R (.error e) s') s)
    (n : Nat) (h : I n s) (ht : ∀ v, letOwnedTupleGo t2 it v = pure ()) :
    codeAny (model prog w) A (.compLoop (.ListComp elt [⟨t1, i1, [], 0⟩, ⟨t2, i2, [], 0⟩] scope pos) 1 it acc env) R s := by
  refine codeAny_loop rfl I (fun n s hI => ?_) n h
  show wpAny _ _ ((compTurn (.ListComp elt [⟨t1, i1, [], 0⟩, ⟨t2, i2, [], 0⟩] scope pos) 1 it acc env).onRaise (fun x => do noteFrame x env; theTreesLotGoes x)) _ _ s
  refine wpAny_noted ?_
  rw [compTurn_two1]
  refine wpAny_bind (wpAny_standAt (wpAny_bind (wpAny_mono (turn n s hI) (fun r s₁ h₁ => ?_) fun _ _ h' => h')))
  cases r with
  | none => exact wpAny_pure h₁
  | some v =>
    refine wpAny_bind (wpAny_of_eq (ht v) ?_)
    exact wpAny_bind (wpAny_mono h₁ (fun _ s₂ h₂ => wpAny_bind (wpAny_bind (wpAny_mono h₂ (fun x s₃ h₃ => wpAny_bind (wpAny_mono h₃
      (fun _ s₄ h₄ => wpAny_pure (wpAny_pure ⟨rfl, h₄⟩)) fun _ _ h' => h')) fun _ _ h' => h'))) fun _ _ h' => h')
theorem loop_two0 {elt t1 i1 t2 i2 : Expr} {scope : Scope} {pos : Pos} {it acc : Value} {env : Env} (I : Nat → Shared → Prop)
    (turn : ∀ n s, I n s → wpAny (model prog w) A (pyNext it) (fun r s₁ => match r with
      | none => R (.ok .next) s₁
      | some v => wpAny (model prog w) A (assign t1 env v) (fun _ s₂ => wpAny (model prog w) A (eval i2 env) (fun x s₃ =>
          wpAny (model prog w) A (pyIter x) (fun it2 s₄ => codeAny (model prog w) A (.compStart (.ListComp elt [⟨t1, i1, [], 0⟩, ⟨t2, i2, [], 0⟩] scope pos) 1 it2 acc env)
            (fun r s' => match r with | .ok _ => ∃ m, m < n ∧ I m s' | .error e => cameBackBy (model prog w) A env (notedBy (model prog w) A env fun e s' => R (.error e) s') e s') s₄) (notedBy (model prog w) A env fun e s' => R (.error e) s') s₃)
          (notedBy (model prog w) A env fun e s' => R (.error e) s') s₂) (notedBy (model prog w) A env fun e s' => R (.error e) s') s₁) (notedBy (model prog w) A env fun e s' => R (.error e) s') s)
    (n : Nat) (h : I n s) (ht : ∀ v, letOwnedTupleGo t1 it v = pure ()) (hf : ∀ x, foldedSetIterable i2 env x = pure x) :
    codeAny (model prog w) A (.compLoop (.ListComp elt [⟨t1, i1, [], 0⟩, ⟨t2, i2, [], 0⟩] scope pos) 0 it acc env) R s := by
  refine codeAny_loop rfl I (fun n s hI => ?_) n h
  show wpAny _ _ ((compTurn (.ListComp elt [⟨t1, i1, [], 0⟩, ⟨t2, i2, [], 0⟩] scope pos) 0 it acc env).onRaise (fun x => do noteFrame x env; theTreesLotGoes x)) _ _ s
  refine wpAny_noted ?_
  rw [compTurn_two0]
  refine wpAny_bind (wpAny_standAt (wpAny_bind (wpAny_mono (turn n s hI) (fun r s₁ h₁ => ?_) fun _ _ h' => h')))
  cases r with
  | none => exact wpAny_pure h₁
  | some v =>
    refine wpAny_bind (wpAny_of_eq (ht v) ?_)
    refine wpAny_bind (wpAny_mono h₁ (fun _ s₂ h₂ => wpAny_bind (wpAny_mono h₂ (fun x s₃ h₃ => ?_) fun _ _ h' => h')) fun _ _ h' => h')
    refine wpAny_bind (wpAny_standAt (wpAny_bind (wpAny_of_eq (hf x) (wpAny_bind (wpAny_holding (wpAny_mono h₃ (fun it2 s₄ h₄ => ?_) fun _ _ h' => h'))))))
    refine wpAny_bind (wpAny_runOwn (codeAny_mono h₄ fun r s' hr => ?_))
    cases r with
    | ok f => exact wpAny_pure ⟨rfl, hr⟩
    | error e => exact hr
end
/-- an address that stands nowhere yet -/
noncomputable def Newly (h₀ : Heap) (L a : Addr) (news : List (Addr × Obj)) : Prop := h₀.get? a = none ∧ (@Ne Nat a L) ∧ ∀ p ∈ news, (@Ne Nat p.1 a)
theorem newly_of {h₀ h : Heap} {L a : Addr} {m : Str → Option Value} {news : List (Addr × Obj)} (F : Fr h₀ L h m) (N : News h₀ L h news) (ha : h.objs.size ≤ a) : Newly h₀ L a news := by
  refine ⟨?_, Ne.symm (Nat.ne_of_lt (Nat.lt_of_lt_of_le F.ns.lt ha)), fun p hp => Nat.ne_of_lt (Nat.lt_of_lt_of_le (Heap.lt_size (N p hp).1) ha)⟩
  cases e : h₀.get? a with
  | none => rfl
  | some o => exact absurd (Nat.lt_of_lt_of_le (Heap.lt_size (F.keep a o e)) ha) (Nat.lt_irrefl _)
theorem Newly.fr {h₀ h h' : Heap} {L a : Addr} {m : Str → Option Value} {news : List (Addr × Obj)} (y : Newly h₀ L a news) (F : Fr h₀ L h m) (hs : Heap.ExtBut a h h') : Fr h₀ L h' m :=
  ⟨F.ns.extBut hs (Ne.symm y.2.1), fun b o e => hs b o (fun q => by rw [q, y.1] at e; cases e) (F.keep b o e), F.above⟩
theorem Newly.news {h₀ h h' : Heap} {L a : Addr} {news : List (Addr × Obj)} (y : Newly h₀ L a news) (N : News h₀ L h news) (hs : Heap.ExtBut a h h') : News h₀ L h' news :=
  fun p hp => ⟨hs p.1 p.2 (y.2.2 p hp) (N p hp).1, (N p hp).2⟩
theorem Newly.row {h₀ h : Heap} {L a : Addr} {o : Obj} {news : List (Addr × Obj)} (y : Newly h₀ L a news) (e : h.get? a = some o) (N : News h₀ L h news) : News h₀ L h ((a, o) :: news) := fun p hp => by
  rcases List.mem_cons.mp hp with rfl | hp
  · exact ⟨e, y.2.1, y.1⟩
  · exact N p hp
theorem nw_cons {h₀ h : Heap} {L : Addr} {p : Addr × Obj} {r : List (Addr × Obj)} (x : h.get? p.1 = some p.2 ∧ (@Ne Nat p.1 L) ∧ h₀.get? p.1 = none) (N : News h₀ L h r) : News h₀ L h (p :: r) := fun q hq => by
  rcases List.mem_cons.mp hq with rfl | hq
  · exact x
  · exact N q hq
theorem nw_tail {h₀ h : Heap} {L : Addr} {p : Addr × Obj} {r : List (Addr × Obj)} (N : News h₀ L h (p :: r)) : News h₀ L h r := fun q hq => N q (.tail _ hq)
theorem nw_head {h₀ h : Heap} {L : Addr} {p : Addr × Obj} {r : List (Addr × Obj)} (N : News h₀ L h (p :: r)) : h.get? p.1 = some p.2 ∧ (@Ne Nat p.1 L) ∧ h₀.get? p.1 = none := N p (.head _)
theorem Newly.cons {h₀ : Heap} {L a : Addr} {p : Addr × Obj} {r : List (Addr × Obj)} (y : Newly h₀ L a r) (e : @Ne Nat p.1 a) : Newly h₀ L a (p :: r) :=
  ⟨y.1, y.2.1, fun q hq => by
    rcases List.mem_cons.mp hq with rfl | hq
    · exact e
    · exact y.2.2 q hq⟩
theorem Newly.tail {h₀ : Heap} {L a : Addr} {p : Addr × Obj} {r : List (Addr × Obj)} (y : Newly h₀ L a (p :: r)) : Newly h₀ L a r := ⟨y.1, y.2.1, fun q hq => y.2.2 q (.tail _ hq)⟩
theorem Newly.ne {h₀ : Heap} {L a : Addr} {p : Addr × Obj} {r : List (Addr × Obj)} (y : Newly h₀ L a (p :: r)) : @Ne Nat p.1 a := y.2.2 p (.head _)
theorem Newly.put {h₀ h h' : Heap} {L D : Addr} {p : Addr × Obj} {r : List (Addr × Obj)} (y : Newly h₀ L D (p :: r)) (x : h.get? p.1 = some p.2 ∧ (@Ne Nat p.1 L) ∧ h₀.get? p.1 = none) (hs : Heap.ExtBut D h h') : h'.get? p.1 = some p.2 ∧ (@Ne Nat p.1 L) ∧ h₀.get? p.1 = none := ⟨hs _ _ y.ne x.1, x.2⟩
section
variable {prog : Program} {w : World} {A : Around} {E : Value → Shared → Prop} {R : Result → Shared → Prop} {s : Shared} {h₀ : Heap} {L : Addr} {m : Str → Option Value} {env : Env}
/-- a step that ends with the frame and the ledger as they were -/
noncomputable def Stay (h₀ : Heap) (L : Addr) (m : Str → Option Value) (s : Shared) (all : List (Addr × Obj)) (P : Value → Prop) (r : Value) (s' : Shared) : Prop :=
  ∃ h' tk', s' = { s with heap := h', toks := tk' } ∧ Fr h₀ L h' m ∧ News h₀ L h' all ∧ P r
theorem Stay.intro {all : List (Addr × Obj)} {P : Value → Prop} {r : Value} {h' : Heap} {tk' : Nat} (F : Fr h₀ L h' m) (N : News h₀ L h' all) (p : P r) : Stay h₀ L m s all P r { s with heap := h', toks := tk' } := ⟨h', tk', rfl, F, N, p⟩
noncomputable abbrev Elt2 (prog : Program) (w : World) (A : Around) (h₀ : Heap) (L : Addr) (m : Str → Option Value) (env : Env) (elt : Expr) (x y : Str) (scope : Scope) (cl : List (Str × Addr)) (s : Shared) (its1 its2 : List Value) (news : List (Addr × Obj)) (J : Nat → List Value → Prop) : Prop :=
  ∀ i j ys v1 v2 I₂ o₂ I oI C oC D m₂ h tk (E' : Value → Shared → Prop), its1[i]? = some v1 → its2[j]? = some v2 → J (its2.length * i + j) ys → NsObj oC m₂ → m₂ x = some v1 → m₂ y = some v2 → Fr h₀ L h m → News h₀ L h ((I₂, o₂) :: (I, oI) :: (C, oC) :: (D, lst ys) :: news) →
    wpAny (model prog w) A (eval elt (compEnvC scope cl C env)) (Stay h₀ L m s ((I₂, o₂) :: (I, oI) :: (C, oC) :: (D, lst ys) :: news) (fun r => J (its2.length * i + j + 1) (ys ++ [r]))) E' { s with heap := h, toks := tk }
noncomputable abbrev It2 (prog : Program) (w : World) (A : Around) (h₀ : Heap) (L : Addr) (m : Str → Option Value) (env : Env) (iter2 : Expr) (scope : Scope) (cl : List (Str × Addr)) (s : Shared) (bx : Addr) (news : List (Addr × Obj)) : Prop :=
  ∀ ys I oI C oC D m₂ h tk (E' : Value → Shared → Prop), NsObj oC m₂ → Fr h₀ L h m → News h₀ L h ((I, oI) :: (C, oC) :: (D, lst ys) :: news) →
    wpAny (model prog w) A (eval iter2 (compEnvC scope cl C env)) (Stay h₀ L m s ((I, oI) :: (C, oC) :: (D, lst ys) :: news) (fun r => r = .ref bx)) E' { s with heap := h, toks := tk }
noncomputable def In1 (s : Shared) (h₀ : Heap) (L : Addr) (m : Str → Option Value) (n2 : Nat) (I₂ C bx D : Addr) (p : Addr × Obj) (J : Nat → List Value → Prop) (i : Nat) (v1 : Value) (x : Str) (news : List (Addr × Obj)) (k : Nat) (s' : Shared) (h' : Heap) (tk j : Nat) (ys : List Value) (m' : Str → Option Value) : Prop :=
  s' = { s with heap := h', toks := tk } ∧ j ≤ n2 ∧ k = n2 + 1 - j ∧ ys.length = n2 * i + j ∧ J (n2 * i + j) ys ∧ h'.IsListIter I₂ bx j ∧ Fr h₀ L h' m ∧ h'.Ns C m' ∧ m' x = some v1 ∧ News h₀ L h' (p :: (D, lst ys) :: news)
theorem inner2 {elt t1 i1 iter2 : Expr} {x y : Str} {py : Pos} {scope : Scope} {cl : List (Str × Addr)} {pos : Pos} {I I₂ C D bx : Addr} {oI : Obj} {its1 its2 : List Value} {k2 : Nat} {news : List (Addr × Obj)} {J : Nat → List Value → Prop} {i : Nat} {v1 : Value} {h : Heap} {tk : Nat} {ys : List Value} {m₁ : Str → Option Value}
    (hh : A.handled = none) (hkind : scope.kind = .function) (hy : scope.names.lookup y = some .local) (hxy : x ≠ y) (elts : Elt2 prog w A h₀ L m env elt x y scope cl s its1 its2 news J)
    (mb : (bx, ({ cls := .type "list", data := .seq its2.toArray k2 } : Obj)) ∈ news) (hi : its1[i]? = some v1) (hsz : its2.length * i + its2.length ≤ sizeLine)
    (yI : Newly h₀ L I news) (hDI : @Ne Nat D I) (yC : Newly h₀ L C news) (hIC : @Ne Nat I C) (hDC : @Ne Nat D C) (yI₂ : Newly h₀ L I₂ news) (hCI₂ : @Ne Nat C I₂) (hII₂ : @Ne Nat I I₂) (hDI₂ : @Ne Nat D I₂) (yD : Newly h₀ L D news)
    (hit : h.IsListIter I₂ bx 0) (F : Fr h₀ L h m) (hn : h.Ns C m₁) (hx : m₁ x = some v1) (N : News h₀ L h ((I, oI) :: (D, lst ys) :: news)) (hlen : ys.length = its2.length * i) (hJ : J (its2.length * i) ys)
    (done : ∀ h' tk' ys' m', Fr h₀ L h' m → h'.Ns C m' → News h₀ L h' ((I, oI) :: (D, lst ys') :: news) → ys'.length = its2.length * (i + 1) → J (its2.length * (i + 1)) ys' → R (.ok .next) { s with heap := h', toks := tk' }) :
    codeAny (model prog w) A (.compLoop (.ListComp elt [⟨t1, i1, [], 0⟩, ⟨.Name y py, iter2, [], 0⟩] scope pos) 1 (.ref I₂) (.ref D) (compEnvC scope cl C env)) R { s with heap := h, toks := tk } := by
  refine loop_two1
    (fun k s' => ∃ h' tk j ys m', In1 s h₀ L m its2.length I₂ C bx D (I, oI) J i v1 x news k s' h' tk j ys m') ?_ (its2.length + 1)
    ⟨h, tk, 0, ys, m₁, rfl, Nat.zero_le _, rfl, hlen, hJ, hit, F, hn, hx, N⟩ (fun _ => rfl)
  intro k s' ⟨h', tk', j, ys', m', hI⟩
  cases hI.1
  have hj := hI.2.1
  have hk := hI.2.2.1
  have hl' := hI.2.2.2.1
  have hJ' := hI.2.2.2.2.1
  have hit' := hI.2.2.2.2.2.1
  have F' := hI.2.2.2.2.2.2.1
  have hn' := hI.2.2.2.2.2.2.2.1
  have hx' := hI.2.2.2.2.2.2.2.2.1
  have N' := hI.2.2.2.2.2.2.2.2.2
  have zI₂ := (yI₂.cons (p := (D, lst ys')) hDI₂).cons (p := (I, oI)) hII₂
  have hb : h'.IsList bx its2.toArray := ⟨_, (N' _ (.tail _ (.tail _ mb))).1, rfl, _, rfl⟩
  rcases Nat.lt_or_ge j its2.length with hjl | hjl
  · refine wpAny_pyNext_list_item hit' hb (x := its2[j]) (by simp [hjl]) fun h₁ hit₁ hs₁ => ?_
    refine wpAny_assign_Name (wpAny_storeName_local (lookup_relabel_local hy) (hn'.sameBut hs₁ hCI₂) (fun h₂ n₂ hs₂ => ?_) (by simp [compEnvC, relabel, hkind]))
    have F₂ := yC.fr (yI₂.fr F' hs₁.extBut) hs₂.extBut
    have N₂ := ((yC.cons (p := (D, lst ys')) hDC).cons (p := (I, oI)) hIC).news (zI₂.news N' hs₁.extBut) hs₂.extBut
    obtain ⟨o₂, e₂, p₂⟩ := hit₁.extBut hs₂.extBut (Ne.symm hCI₂)
    obtain ⟨oC, eC, pC⟩ := ns_obj n₂
    refine wpAny_mono (elts i j ys' v1 its2[j] I₂ o₂ I oI C oC D _ h₂ _ _ hi (List.getElem?_eq_getElem hjl) hJ' pC (by simp [hxy, hx']) (by simp) F₂ (nw_cons ⟨e₂, yI₂.2.1, yI₂.1⟩ (nw_cons (nw_head N₂) (nw_cons ⟨eC, yC.2.1, yC.1⟩ (nw_tail N₂))))) (fun r s₃ h₃ => ?_) fun _ _ e => e
    obtain ⟨h₃, tk₃, rfl, F₃, N₃, J₃⟩ := h₃
    have T₃ := nw_tail N₃
    have U₃ := nw_tail T₃
    refine append_at (hsz := by show ys'.toArray.size ≤ sizeLine; rw [List.size_toArray, hl']; exact Nat.le_trans (Nat.add_le_add_left hj _) hsz) (nw_head (nw_tail U₃)).1 fun h₄ hs₄ hD₄ => ?_
    exact ⟨its2.length + 1 - (j + 1), by rw [hk]; omega, h₄, tk₃, j + 1, ys' ++ [r], _, rfl, hjl, rfl, by rw [List.length_append, List.length_singleton, hl']; rfl, J₃, ⟨o₂, hs₄.extBut _ _ (Ne.symm hDI₂) (nw_head N₃).1, p₂⟩, yD.fr F₃ hs₄.extBut, (pC.ns (nw_head U₃).1).sameBut hs₄ (Ne.symm hDC), by simp [hxy, hx'],
      nw_cons ⟨hs₄.extBut _ _ (Ne.symm hDI) (nw_head T₃).1, (nw_head T₃).2⟩ (nw_cons ⟨hD₄.trans (congrArg some (lst_snoc ys' r)), yD.2.1, yD.1⟩ (yD.news (nw_tail (nw_tail U₃)) hs₄.extBut))⟩
  · obtain rfl : j = its2.length := Nat.le_antisymm hj hjl
    refine wpAny_pyNext_list_end hh hit' hb (by simp) fun h₁ hs₁ => ?_
    have e : its2.length * i + its2.length = its2.length * (i + 1) := (Nat.mul_succ _ _).symm
    rw [e] at hl' hJ'
    exact done h₁ tk' ys' m' (yI₂.fr F' hs₁) (hn'.extBut hs₁ hCI₂) (zI₂.news N' hs₁) hl' hJ'
noncomputable def Out1 (s : Shared) (h₀ : Heap) (L : Addr) (m : Str → Option Value) (n1 n2 : Nat) (I C ax D : Addr) (J : Nat → List Value → Prop) (news : List (Addr × Obj)) (k : Nat) (s' : Shared) (h' : Heap) (tk i : Nat) (ys : List Value) (m' : Str → Option Value) : Prop :=
  s' = { s with heap := h', toks := tk } ∧ i ≤ n1 ∧ k = n1 + 1 - i ∧ ys.length = n2 * i ∧ J (n2 * i) ys ∧ h'.IsListIter I ax i ∧ Fr h₀ L h' m ∧ h'.Ns C m' ∧ News h₀ L h' ((D, lst ys) :: news)
theorem outer2 {elt iter1 iter2 : Expr} {x y : Str} {px py : Pos} {scope : Scope} {cl : List (Str × Addr)} {pos : Pos} {I C D ax bx : Addr} {its1 its2 : List Value} {k1 k2 : Nat} {news : List (Addr × Obj)} {J : Nat → List Value → Prop} {h : Heap} {tk : Nat} {m₁ : Str → Option Value}
    (hh : A.handled = none) (hkind : scope.kind = .function) (hlx : scope.names.lookup x = some .local) (hly : scope.names.lookup y = some .local) (hxy : x ≠ y) (hf : ∀ e x, foldedSetIterable iter2 e x = pure x)
    (it2 : It2 prog w A h₀ L m env iter2 scope cl s bx news) (elts : Elt2 prog w A h₀ L m env elt x y scope cl s its1 its2 news J)
    (ma : (ax, ({ cls := .type "list", data := .seq its1.toArray k1 } : Obj)) ∈ news) (mb : (bx, ({ cls := .type "list", data := .seq its2.toArray k2 } : Obj)) ∈ news) (hsz : its1.length * its2.length ≤ sizeLine)
    (yI : Newly h₀ L I news) (yD : Newly h₀ L D news) (yC : Newly h₀ L C news) (hDI : @Ne Nat D I) (hIC : @Ne Nat I C) (hDC : @Ne Nat D C)
    (hit : h.IsListIter I ax 0) (F : Fr h₀ L h m) (hn : h.Ns C m₁) (N : News h₀ L h ((D, lst []) :: news)) (hJ : J 0 [])
    (done : ∀ h' tk' ys' m', Fr h₀ L h' m → h'.Ns C m' → News h₀ L h' ((D, lst ys') :: news) → J (its2.length * its1.length) ys' → R (.ok .next) { s with heap := h', toks := tk' }) :
    codeAny (model prog w) A (.compLoop (.ListComp elt [⟨.Name x px, iter1, [], 0⟩, ⟨.Name y py, iter2, [], 0⟩] scope pos) 0 (.ref I) (.ref D) (compEnvC scope cl C env)) R { s with heap := h, toks := tk } := by
  refine loop_two0
    (fun k s' => ∃ h' tk i ys m', Out1 s h₀ L m its1.length its2.length I C ax D J news k s' h' tk i ys m') ?_ (its1.length + 1)
    ⟨h, tk, 0, [], m₁, rfl, Nat.zero_le _, rfl, rfl, hJ, hit, F, hn, N⟩ (fun _ => rfl) (fun x => hf _ x)
  intro k s' ⟨h', tk', i, ys, m', hO⟩
  cases hO.1
  have hi := hO.2.1
  have hk := hO.2.2.1
  have hl' := hO.2.2.2.1
  have hJ' := hO.2.2.2.2.1
  have hit' := hO.2.2.2.2.2.1
  have F' := hO.2.2.2.2.2.2.1
  have hn' := hO.2.2.2.2.2.2.2.1
  have N' := hO.2.2.2.2.2.2.2.2
  have zI := yI.cons (p := (D, lst ys)) hDI
  have ha : h'.IsList ax its1.toArray := ⟨_, (N' _ (.tail _ ma)).1, rfl, _, rfl⟩
  rcases Nat.lt_or_ge i its1.length with hil | hil
  · refine wpAny_pyNext_list_item hit' ha (x := its1[i]) (by simp [hil]) fun h₁ hit₁ hs₁ => ?_
    refine wpAny_assign_Name (wpAny_storeName_local (lookup_relabel_local hlx) (hn'.sameBut hs₁ (Ne.symm hIC)) (fun h₂ n₂ hs₂ => ?_) (by simp [compEnvC, relabel, hkind]))
    obtain ⟨oI, eI₁, pI⟩ := id hit₁
    have F₂ := yC.fr (yI.fr F' hs₁.extBut) hs₂.extBut
    have N₂ := ((yC.cons (p := (D, lst ys)) hDC).cons (p := (I, oI)) hIC).news (zI.row eI₁ (zI.news N' hs₁.extBut)) hs₂.extBut
    obtain ⟨oC, eC, pC⟩ := ns_obj n₂
    refine wpAny_mono (it2 ys I oI C oC D _ h₂ _ _ pC F₂ (nw_cons (nw_head N₂) (nw_cons ⟨eC, yC.2.1, yC.1⟩ (nw_tail N₂)))) (fun r s₃ h₃' => ?_) fun _ _ e => e
    obtain ⟨g, tg, rfl, Fg, Ng, rfl⟩ := h₃'
    have cC := (nw_head (nw_tail Ng)).1
    have Ng' := nw_cons (nw_head Ng) (nw_tail (nw_tail Ng))
    refine wpAny_pyIter_list ⟨_, (Ng' _ (.tail _ (.tail _ mb))).1, rfl, _, rfl⟩ ?_
    have yI₂ := newly_of Fg Ng' (Nat.le_refl _)
    have eI₂ := Heap.get?_push_size g (o := { cls := .type "list_iterator", data := .fields #[.ref bx, .int 0 0] }) rfl
    have upK := fun b o (e : g.get? b = some o) => Heap.get?_push_of_some { cls := .type "list_iterator", data := .fields #[.ref bx, .int 0 0] } e
    have room : its2.length * i + its2.length ≤ sizeLine := by
      have : its2.length * (i + 1) ≤ its2.length * its1.length := Nat.mul_le_mul_left _ hil
      rw [Nat.mul_comm its1.length] at hsz; rw [Nat.mul_succ] at this; exact Nat.le_trans this hsz
    have inner := inner2 (prog := prog) (w := w) (s := s) (env := env) (t1 := .Name x px) (i1 := iter1) (iter2 := iter2) (py := py) (pos := pos) (tk := tg) (R := fun r s' => match r with
        | .ok _ => ∃ m_1, m_1 < k ∧ ∃ h' tk i ys m', Out1 s h₀ L m its1.length its2.length I C ax D J news m_1 s' h' tk i ys m'
        | .error e => cameBackBy (model prog w) A (compEnvC scope cl C env) (notedBy (model prog w) A (compEnvC scope cl C env) fun e s' => R (.error e) s') e s')
      hh hkind hly hxy elts mb (List.getElem?_eq_getElem hil) room yI hDI yC hIC hDC yI₂.tail.tail (Nat.ne_of_lt (Heap.lt_size cC)) yI₂.ne yI₂.tail.ne yD ⟨_, eI₂, rfl, rfl⟩ (Fg.keeps upK) ((pC.ns cC).keeps upK) (by simp) (Ng'.grown upK) hl' hJ'
      (fun h' tk' ys' m' F' n' N' l' j' => ⟨its1.length + 1 - (i + 1), by rw [hk]; omega, h', tk', i + 1, ys', m', rfl, hil, rfl, l', j', ⟨oI, (nw_head N').1, pI⟩, F', n', nw_tail N'⟩)
    exact start_two1 inner (wpAny_pyIter_listiter ⟨_, eI₂, rfl, rfl⟩ inner)
  · obtain rfl : i = its1.length := Nat.le_antisymm hi hil
    refine wpAny_pyNext_list_end hh hit' ha (by simp) fun h₁ hs₁ => ?_
    exact done h₁ tk' ys m' (yI.fr F' hs₁) (hn'.extBut hs₁ (Ne.symm hIC)) (zI.news N' hs₁) hJ'
/-- what is asked of the first clause's source -/
noncomputable def Src2 (prog : Program) (w : World) (A : Around) (h₀ : Heap) (L : Addr) (m : Str → Option Value) (env : Env) (elt iter2 : Expr) (x y : Str) (scope : Scope) (cl : List (Str × Addr)) (Q : Value → Shared → Prop) (xv : Value) (s₁ : Shared) : Prop :=
  ∃ ax bx its1 its2 k1 k2 news J, xv = .ref ax ∧ A.handled = none ∧ Fr h₀ L s₁.heap m ∧ News h₀ L s₁.heap news ∧ (ax, ({ cls := .type "list", data := .seq its1.toArray k1 } : Obj)) ∈ news ∧ (bx, ({ cls := .type "list", data := .seq its2.toArray k2 } : Obj)) ∈ news ∧
    its1.length * its2.length ≤ sizeLine ∧ J 0 [] ∧ It2 prog w A h₀ L m env iter2 scope cl s₁ bx news ∧ Elt2 prog w A h₀ L m env elt x y scope cl s₁ its1 its2 news J ∧
    (∀ ys D h tk, J (its2.length * its1.length) ys → Fr h₀ L h m → News h₀ L h ((D, lst ys) :: news) → AllLt D news → Q (.ref D) { s₁ with heap := h, toks := tk })
theorem ListComp_2 {elt iter1 iter2 : Expr} {x y : Str} {px py : Pos} {scope : Scope} {cl : List (Str × Addr)} {pos : Pos} {Q : Value → Shared → Prop} (_F₀ : Fr h₀ L s.heap m)
    (hclos : closureFor scope env = pure cl) (hcell : ∀ y ∈ scope.names, y.2 ≠ .cell) (hkind : scope.kind = .function)
    (hnames : ∀ z ∈ scope.names, z.2 = .local → scope.names.lookup z.1 = some .local) (hlx : scope.names.lookup x = some .local) (hly : scope.names.lookup y = some .local) (hxy : x ≠ y)
    (h : wpAny (model prog w) A (eval iter1 env) (Src2 prog w A h₀ L m env elt iter2 x y scope cl Q) E s)
    (hs : ∀ x, foldedSetIterable iter1 env x = pure x) (hf : ∀ e x, foldedSetIterable iter2 e x = pure x) :
    wpAny (model prog w) A (eval (.ListComp elt [⟨.Name x px, iter1, [], 0⟩, ⟨.Name y py, iter2, [], 0⟩] scope pos) env) Q E s := by
  rw [eval_ListComp]
  refine wpAny_comprehension_free (use := none) rfl hs hclos hkind hnames (wpAny_mono h (fun xv s₁ h₁ => ?_) fun _ _ e => e)
  obtain ⟨ax, bx, its1, its2, k1, k2, news, J, rfl, hh, F, N, ma, mb, hsz, hJ, it2, elts, fin⟩ := h₁
  refine wpAny_pyIter_list ⟨_, (N _ ma).1, rfl, _, rfl⟩ ?_
  have yI := newly_of F N (Nat.le_refl s₁.heap.objs.size)
  have up := fun b o (e : s₁.heap.get? b = some o) => Heap.get?_push_of_some { cls := .type "list_iterator", data := .fields #[.ref ax, .int 0 0] } e
  have F₁ := F.keeps up
  have N₁ := yI.row (Heap.get?_push_size s₁.heap (o := { cls := .type "list_iterator", data := .fields #[.ref ax, .int 0 0] }) rfl) (N.grown up)
  refine wpAny_newObj_type ?_
  have yD := newly_of F₁ N₁ (Nat.le_refl _)
  have up2 := fun b o (e : (s₁.heap.push { cls := .type "list_iterator", data := .fields #[.ref ax, .int 0 0] }).get? b = some o) => Heap.get?_push_of_some (lst []) e
  have F₂ := F₁.keeps up2
  have N₂ := yD.row (Heap.get?_push_size (s₁.heap.push { cls := .type "list_iterator", data := .fields #[.ref ax, .int 0 0] }) (o := lst []) rfl) (N₁.grown up2)
  have lD : AllLt (s₁.heap.push { cls := .type "list_iterator", data := .fields #[.ref ax, .int 0 0] }).objs.size news := allLt_of fun p hp => Nat.lt_trans (Heap.lt_size (N p hp).1) (by rw [Heap.size_push]; exact Nat.lt_succ_self _)
  have yC := newly_of F₂ N₂ (Nat.le_refl _)
  refine wpAny_newFunctionEnv hcell (by intro z hz; simp at hz) (fun h₃ hns₃ hsb₃ => ?_) hkind
  have up3 := fun b o (e : ((s₁.heap.push { cls := .type "list_iterator", data := .fields #[.ref ax, .int 0 0] }).push (lst [])).get? b = some o) => hsb₃.extBut b o (Nat.ne_of_lt (Heap.lt_size e)) (Heap.get?_push_of_some _ e)
  have N₃ := N₂.grown up3
  have loop := outer2 (prog := prog) (w := w) (env := env) (s := s₁) (px := px) (py := py) (iter1 := iter1) (pos := pos) (tk := s₁.toks + ([] : List (Str × Value)).length) (R := compPost (model prog w) A E none Q (.ref (s₁.heap.push { cls := .type "list_iterator", data := .fields #[.ref ax, .int 0 0] }).objs.size) ((s₁.heap.push { cls := .type "list_iterator", data := .fields #[.ref ax, .int 0 0] }).push (lst [])).objs.size)
    hh hkind hlx hly hxy hf it2 elts ma mb hsz yI yD.tail yC.tail.tail (Ne.symm yD.ne) yC.tail.ne yC.ne ⟨_, (nw_head (nw_tail N₃)).1, rfl, rfl⟩ (F₂.keeps up3) hns₃ (nw_cons (nw_head N₃) (nw_tail (nw_tail N₃))) hJ
    (fun h' tk' ys' m' F' n' N' j' => ⟨m', n', fun h'' hs'' => fin ys' _ h'' tk' j' (yC.fr F' hs''.extBut) ((yC.tail.tail.cons (p := (_, lst ys')) yC.ne).news N' hs''.extBut) lD⟩)
  exact codeAny_compStart_list loop (wpAny_pyIter_listiter ⟨_, (nw_head (nw_tail N₃)).1, rfl, rfl⟩ loop)
end
end
section
open LCg
theorem times_bits : ∀ t < 8, Builtin.Int.intBits (1 + 2 * ((t : Nat) : Int)) ≤ 64 := by decide +kernel
theorem four_at {p0 p1 p2 p3 : Nat} {t0 t1 t2 t3 : Tok} {i : Nat} {v : Value} (h : [Value.int (p0 : Int) t0, .int (p1 : Int) t1, .int (p2 : Int) t2, .int (p3 : Int) t3][i]? = some v) : i < 4 ∧ ∃ t, v = .int (pickN p0 p1 p2 p3 i : Int) t := by
  have hi : i < 4 := by
    rcases Nat.lt_or_ge i 4 with q | q
    · exact q
    · rw [List.getElem?_eq_none q] at h; cases h
  refine ⟨hi, ?_⟩
  have hc := lt4 i (by assumption)
  rcases hc with rfl | rfl | rfl | rfl
  · exact ⟨t0, (Option.some.inj h).symm⟩
  · exact ⟨t1, (Option.some.inj h).symm⟩
  · exact ⟨t2, (Option.some.inj h).symm⟩
  · exact ⟨t3, (Option.some.inj h).symm⟩
theorem sum_val {t p0 p1 p2 p3 q0 q1 q2 q3 i j : Nat} (hj : j < 4) : ((1 + 2 * (t : Int)) * (pickN p0 p1 p2 p3 i : Int) + (pickN q0 q1 q2 q3 j : Int)).fmod 16 = ((sumAt t p0 p1 p2 p3 q0 q1 q2 q3 (4 * i + j) : Nat) : Int) := by
  rw [sumAt_is hj, Int.fmod_eq_emod_of_nonneg _ (by decide), Int.add_comm]
  push_cast
  rfl
section
variable {w : World} {mean : ExcName → Option Value} {mg mb : Str → Option Value} {loose : List Str}
  {dp un : Nat} {gd : Option (List Code)} {a : Addr} {ccd : Value} {outer : List Env} {A₀ : Around} {base h₀ : Heap} {L : Addr} {m : Str → Option Value} {s : Shared} {Q : Flow → Shared → Prop} {E : Value → Shared → Prop}
theorem stage9 {nl al bl ml fl sl cl tl wl a1 a2 : Addr} {x1 x2 x3 : Option Value} {ka kb kw : Nat} {va vb : List Value} {ot oc oa ob w8 w7 w6 w5 w4 w3 w2 w1 : Obj} {v7 : Option Value} {ap : Bool} {t p0 p1 p2 p3 q0 q1 q2 q3 : Nat} {y4 : Tok}
  (B : Below A₀ base outer h₀) (F : Fr h₀ L s.heap (mE (mD (mC m nl al ml fl sl x1 x2 x3) tl) ap)) (X : (hd.heap_39 w.params).In h₀) (N : News h₀ L s.heap (ledD L al bl cl tl wl a1 a2 ka kb kw va vb ot oc oa ob w8 w7 w6 w5 w4 w3 w2 w1)) (T : Top hd.view_39 loose mean mg mb h₀)
  (hdp : dp + 8 < recursionLimit) (hun : un + 64 < cLine)
  (d7 : w7.data = .cell v7) (d2 : w2.data = .cell (some (.int (1 + 2 * (t : Int)) y4))) (d1 : w1.data = .cell (some (.ref bl))) (ht : t < 8)
  (ia : IsFour oa p0 p1 p2 p3) (ib : IsFour ob q0 q1 q2 q3)
  (fal : OffC L al) (fbl : OffC L bl) (fcl : OffC L cl) (ftl : OffC L tl) (fwl : OffC L wl) (fa1 : OffC L a1) (fa2 : OffC L a2)
  (next : ∀ (ul : Addr) (vu : List Value) (ku : Nat) (o7 : Obj) (h' : Heap) (tk' : Nat), IntsAre vu ((List.range 16).map fun k => ((sumAt t p0 p1 p2 p3 q0 q1 q2 q3 k : Nat) : Int)) → cellOf o7 (.ref ul) → OffC L ul →
    Fr h₀ L h' (mE (mD (mC m nl al ml fl sl x1 x2 x3) tl) ap) → News h₀ L h' ((ul, PySem.W.listOf vu.toArray ku) :: ledD L al bl cl tl wl a1 a2 ka kb kw va vb ot oc oa ob w8 o7 w6 w5 w4 w3 w2 w1) →
    wpAny (model Challenge.rw_rl0062_01.row.prog w) (lawA dp un gd L a ccd outer) (execs (lawTail 14 lawBody) (lawEnv L a ccd)) Q E { s with heap := h', toks := tk' }) :
   wpAny (model Challenge.rw_rl0062_01.row.prog w) (lawA dp un gd L a ccd outer) (execs (lawTail 13 lawBody) (lawEnv L a ccd)) Q E s := by
   w_top off
   k_with_none
   k_with "eval Constant int" => (k_here; k_dflt (refine ci_f (fun t' tk' => ?_)))
   k_with "eval Constant str" => (k_here; k_dflt (refine cs_f (fun t' tk' => ?_)))
   k_with "eval Constant float" => (k_here; k_dflt (refine cf_f (fun t' tk' => ?_)))
   k_with "binaryOp Add int int" => (k_here; k_dflt (refine ai_f (fun t' tk' => ?_)))
   k_with "binaryOp Sub int int" => (k_here; k_dflt (refine si_f (fun t' tk' => ?_)))
   k_with "binaryOp Add float float" => (k_here; k_dflt (refine af_f (fun t' tk' => ?_)))
   k_with "binaryOp Sub float float" => (k_here; k_dflt (refine sf_f (fun t' tk' => ?_)))
   k_with "binaryOp Mult float float" => (k_here; k_dflt (refine mf_f (fun t' tk' => ?_)))
   k_with "binaryOp Mod int int" => (k_here; k_dflt (refine mi_f (by decide) (fun t' tk' => ?_)))
   k_with "execs cons" => (k_extra "stage")
   k_with "execs cons If cons" => (k_extra "stage")
   k_with "binaryOp Mult int int" => (k_here; k_dflt (refine mul_int ?_ (IntMulOk.of_left (times_bits _ (by with_reducible assumption)))))
   k_with "eval ListComp" => (k_here; k_dflt (refine ListComp_2 (_F₀ := by k_asm) (by with_unfolding_all rfl) (by decide) (by rfl) (by decide) (by rfl) (by rfl) (by decide) ?_ (fun _ => rfl) (fun _ _ => rfl)))
   k_with "Src2" => (k_extra "src")
   k_with "Stay" => (k_here; k_dflt (refine' Stay.intro (by k_asm) (by k_asm) ?_))
   obtain ⟨t0, t1, t2, t3, kf, rfl⟩ := ia
   obtain ⟨z0, z1, z2, z3, kg, rfl⟩ := ib
   have fal7 := fal.2.1
   have fbl7 := fbl.2.1
   have fcl7 := fcl.2.1
   have ftl7 := ftl.2.1
   have fwl7 := fwl.2.1
   have fa17 := fa1.2.1
   have fa27 := fa2.2.1
   revert X; k_fill; intro X
   dsimp only [lawA, lawEnv, lawCells, lawBody, PySem.Challenge.pw_rl0062_01, lawTail, lawScope, bodyOf, scopesOf, List.drop, List.flatMap, List.map, List.flatten, List.append, HAppend.hAppend, Append.append, List.headD]
   dsimp only [lawA, lawEnv, lawCells, lawBody, PySem.Challenge.pw_rl0062_01, lawTail, lawScope, bodyOf, scopesOf, List.drop, List.flatMap, List.map, List.flatten, List.append, HAppend.hAppend, Append.append, List.headD] at next
   k_with "stage" => ((with_reducible show wpAny _ _ (execs (Stmt.If _ _ _ _ :: _) _) _ _ _); refine StageAt.intro ?_)
   k_with "src" => (k_dflt (refine' ⟨al, bl, [.int (p0 : Int) t0, .int (p1 : Int) t1, .int (p2 : Int) t2, .int (p3 : Int) t3], [.int (q0 : Int) z0, .int (q1 : Int) z1, .int (q2 : Int) z2, .int (q3 : Int) z3], _, _, _, fun k ys => IntsAre ys ((List.range k).map fun k => ((sumAt t p0 p1 p2 p3 q0 q1 q2 q3 k : Nat) : Int)), rfl, rfl, ?F, ?N, ?ma, ?mb, ?z, .nil, fun ys' I' oI' C' oC' D' m' h' tk' E' hC' F' N' => ?_, fun i' j' ys' v1' v2' I₂' o₂' I' oI' C' oC' D' m' h' tk' E' hv1' hv2' hs' hC' hx' hy' F' N' => ?_, fun ys' D' h' tk' hs' F' N' l1 => ?_⟩; (case F => k_asm); (case N => k_asm); (case ma => k_mem); (case mb => k_mem); (case z => show 4 * 4 ≤ sizeLine; rw [sizeLine_eq]; decide); rotate_left; ((obtain ⟨hi', s1', rfl⟩ := four_at hv1'); (obtain ⟨hj', s2', rfl⟩ := four_at hv2')); rotate_left; (simp only [AllLt, and_true] at l1); rotate_left))
   k_steps
   · rw [sum_val hj']
     exact ints_snoc (g := fun k => ((sumAt t p0 p1 p2 p3 q0 q1 q2 q3 k : Nat) : Int)) (i := 4 * i' + j') hs'
   · unfold StageAt
     rename Fr _ _ _ _ => F5
     rename News _ _ _ _ => N5
     rename _ = Data.cell (some (Value.ref _)) => d5
     exact next _ _ _ _ _ _ hs' d5 (offC_gt (by omega)) F5 N5
end
end
section
open LCg
noncomputable abbrev dueW (p0 p1 p2 p3 : Int) : Nat → Nat → Str := fun i j => dueWord ((pick p0 p1 p2 p3 i - pick p0 p1 p2 p3 j).fmod 16)
theorem oks_due {p0 p1 p2 p3 : Int} : Oks (nestW (dueW p0 p1 p2 p3) 4) := oks_nest (fun _ _ => due_ok _) 4
section
variable {prog : Program} {w : World} {A : Around} {E : Value → Shared → Prop} {s : Shared} {h₀ : Heap} {L a b : Addr} {m : Str → Option Value} {news : List (Addr × Obj)} {xs ys : List Value} {ka kb : Nat} {ns ms : List Int} {Q : Value → Shared → Prop}
theorem ne_same (N : News h₀ L s.heap news) (ma : (a, PySem.W.listOf xs.toArray ka) ∈ news) (mb : (b, PySem.W.listOf ys.toArray kb) ∈ news) (Da : IntsAre xs ns) (Db : IntsAre ys ms) (e : ns = ms) (hu : A.units + 64 < cLine)
    (h : Q (.bool false) s) : wpAny (model prog w) A (compareOp .NotEq (.ref a) (.ref b)) Q E s :=
  ne_intsK ⟨_, (N _ ma).1, rfl, _, rfl⟩ Da ⟨_, (N _ mb).1, rfl, _, rfl⟩ Db hu (by rw [decide_eq_true e]; exact h)
theorem count_use {k : Int} {t : Tok} (N : News h₀ L s.heap news) (ma : (a, PySem.W.listOf xs.toArray ka) ∈ news) (Da : IntsAre xs ns) (h : ∀ t k', Q (.int ((ns.count k : Nat) : Int) t) { s with toks := k' }) : wpAny (model prog w) A (call (.builtin "list.count") [.ref a, .int k t]) Q E s :=
  count_list_ints ⟨_, (N _ ma).1, rfl, _, rfl⟩ Da (h _ _)
end
section
variable {w : World} {mean : ExcName → Option Value} {mg mb : Str → Option Value} {loose : List Str}
  {dp un : Nat} {gd : Option (List Code)} {cn : Str} {cs : Scope} {a : Addr} {ccd : Value} {cl : List (Str × Addr)} {outer : List Env} {A₀ : Around} {base h₀ : Heap} {L : Addr} {m : Str → Option Value} {s : Shared} {Q E : Value → Shared → Prop} {news : List (Addr × Obj)}
theorem due_use {pl : Addr} {p0 p1 p2 p3 : Int} {t0 t1 t2 t3 : Tok} {n : Nat}
  (B : Below A₀ base outer h₀) (F : Fr h₀ L s.heap m) (X : (hd.heap_39 w.params).In h₀) (N : News h₀ L s.heap news) (T : Top hd.view_39 loose mean mg mb h₀) (hk : cs.kind = .function)
  (hdp : dp + 2 < recursionLimit) (hun : un + 16 < cLine) (hm : (pl, PySem.W.listOf #[.int p0 t0, .int p1 t1, .int p2 t2, .int p3 t3] n) ∈ news)
  (ret : ∀ (D : Addr) (vs : List Value) (k : Nat) (h' : Heap) (tk' : Nat), Fr h₀ L h' m → News h₀ L h' ((D, PySem.W.listOf vs.toArray k) :: news) →
    StrsAre vs (nestW (dueW p0 p1 p2 p3) 4) → AllLt D news → Q (.ref D) { s with heap := h', toks := tk' }) :
   wpAny (model Challenge.rw_rl0062_01.row.prog w) (ktrTop dp un gd cn cs L a ccd cl outer) (call (.ref 113) [.ref pl]) Q E s := by
  refine due_call (news := news) (n := n) (t0 := t0) (t1 := t1) (t2 := t2) (t3 := t3) B F X (fun p hp => ?_) T hk hdp hun fun D vs k h' tk' F' N' i' l' => ret D vs k h' tk' F' (fun p hp => N' p ?_) i' l'.2
  · rcases List.mem_cons.mp hp with rfl | hp
    · exact N _ hm
    · exact N _ hp
  · rcases List.mem_cons.mp hp with rfl | hp
    · exact .head _
    · exact .tail _ (.tail _ hp)
end
section
variable {w : World} {mean : ExcName → Option Value} {mg mb : Str → Option Value} {loose : List Str}
  {dp un : Nat} {gd : Option (List Code)} {a : Addr} {ccd : Value} {outer : List Env} {A₀ : Around} {base h₀ : Heap} {L : Addr} {m : Str → Option Value} {s : Shared} {Q : Flow → Shared → Prop} {E : Value → Shared → Prop}
theorem stage10 {nl al bl ml fl sl cl tl wl a1 a2 ul : Addr} {x1 x2 x3 : Option Value} {ka kb kw kc ku : Nat} {va vb vc vu : List Value} {ot oa ob w8 w7 w6 w5 w4 w3 w2 w1 : Obj} {ap : Bool} {p0 p1 p2 p3 q0 q1 q2 q3 : Int} {g : Nat → Int} {us : List Int} {ws zs : List Str}
  (B : Below A₀ base outer h₀) (F : Fr h₀ L s.heap (mE (mD (mC m nl al ml fl sl x1 x2 x3) tl) ap)) (X : (hd.heap_39 w.params).In h₀) (N : News h₀ L s.heap ((ul, PySem.W.listOf vu.toArray ku) :: ledD L al bl cl tl wl a1 a2 ka kb kw va vb ot (PySem.W.listOf vc.toArray kc) oa ob w8 w7 w6 w5 w4 w3 w2 w1)) (T : Top hd.view_39 loose mean mg mb h₀)
  (hdp : dp + 8 < recursionLimit) (hun : un + 64 < cLine)
  (d7 : w7.data = .cell (some (.ref ul))) (d6 : w6.data = .cell (some (.ref wl))) (d5 : w5.data = .cell (some (.ref cl))) (d1 : w1.data = .cell (some (.ref bl)))
  (ia : IsFour oa p0 p1 p2 p3) (ib : IsFour ob q0 q1 q2 q3) (ivc : IntsAre vc ((List.range 16).map g)) (ivu : IntsAre vu us) (iva : StrsAre va ws) (ivb : StrsAre vb zs) (oka : Oks ws) (okb : Oks zs)
  (hg : (List.range 16).map g = (List.range 16).map (fun (k : Nat) => ((us.count (k : Int) : Nat) : Int))) (hw : ws = nestW (dueW p0 p1 p2 p3) 4) (hz : zs = nestW (dueW q0 q1 q2 q3) 4)
  (next : ∀ (h' : Heap) (tk' : Nat), 
    Fr h₀ L h' (mE (mD (mC m nl al ml fl sl x1 x2 x3) tl) ap) → News h₀ L h' ((ul, PySem.W.listOf vu.toArray ku) :: (tl, ot) :: cellsL L w8 w7 w6 w5 w4 w3 w2 w1) →
    wpAny (model Challenge.rw_rl0062_01.row.prog w) (lawA dp un gd L a ccd outer) (execs (lawTail 15 lawBody) (lawEnv L a ccd)) Q E { s with heap := h', toks := tk' }) :
   wpAny (model Challenge.rw_rl0062_01.row.prog w) (lawA dp un gd L a ccd outer) (execs (lawTail 14 lawBody) (lawEnv L a ccd)) Q E s := by
   w_top off
   k_with_none
   k_with "eval Constant int" => (k_here; k_dflt (refine ci_f (fun t' tk' => ?_)))
   k_with "eval Constant str" => (k_here; k_dflt (refine cs_f (fun t' tk' => ?_)))
   k_with "eval Constant float" => (k_here; k_dflt (refine cf_f (fun t' tk' => ?_)))
   k_with "binaryOp Add int int" => (k_here; k_dflt (refine ai_f (fun t' tk' => ?_)))
   k_with "binaryOp Sub int int" => (k_here; k_dflt (refine si_f (fun t' tk' => ?_)))
   k_with "binaryOp Add float float" => (k_here; k_dflt (refine af_f (fun t' tk' => ?_)))
   k_with "binaryOp Sub float float" => (k_here; k_dflt (refine sf_f (fun t' tk' => ?_)))
   k_with "binaryOp Mult float float" => (k_here; k_dflt (refine mf_f (fun t' tk' => ?_)))
   k_with "binaryOp Mod int int" => (k_here; k_dflt (refine mi_f (by decide) (fun t' tk' => ?_)))
   k_with "FinE" => (k_here; dsimp only [LCg.FinE]; intro D' h' tk' F' N' o1'; clear o1'; (try k_sweep))
   k_with "execs cons" => (k_extra "stage")
   k_with "execs cons Assign cons" => (k_extra "stage")
   k_with "eval ListComp" => (k_here; k_dflt (refine ListComp_U (F₀ := by k_asm) (by with_unfolding_all rfl) (by decide) (by rfl) (by decide) (by rfl) ?_))
   k_with "CompSrc" => (k_extra "src")
   k_with "CompEnd" => (k_here; k_dflt (refine' comp_end0 (by k_asm) (by k_asm) (by assumption) (by first | exact trivial | exact .inr ⟨_, by k_mem, rfl, _, rfl⟩) ⟨rfl, ?_⟩))
   k_with "call builtin:list.count" => (k_here; k_dflt (refine' count_use (by k_asm) (by k_mem) (by with_reducible assumption) ?_; k_whole); intro t' tk')
   k_with "compareOp NotEq ref ref" => (k_here; k_dflt (refine' ne_twos (by k_asm) (by k_mem) (by k_mem) (by k_mem) (by k_mem) (by k_mem) (by k_mem) (by with_reducible assumption) (by with_reducible assumption) (by with_reducible assumption) (by with_reducible assumption) (by with_reducible assumption) (by with_reducible assumption) (by exact oks_due) (by exact oks_due) (by ke_room) ?_; k_whole); intro r' hr')
   k_with "compareOp NotEq ref ref" => (k_here; k_dflt (refine' ne_same (by k_asm) (by k_mem) (by k_mem) (by with_reducible assumption) (by with_reducible assumption) (by with_reducible assumption) (by ke_room) ?_; k_whole))
   k_with "call ref" => (k_here; (with_reducible show wpAny _ _ (PySem.call (Value.ref 113) [Value.ref _]) _ _ _); k_dflt (refine' due_use (by k_asm) (by k_asm) (by k_asm) (by k_asm) (by k_asm) (by first | exact rfl | assumption) (by ktr_room) (by ktr_units) (by k_mem) ?_; k_whole); intro D' vs' k' h' tk' F' N' i' l1; clear l1; (try k_sweep))
   obtain ⟨t0, t1, t2, t3, kf, rfl⟩ := ia
   obtain ⟨z0, z1, z2, z3, kg, rfl⟩ := ib
   revert X; k_fill; intro X
   dsimp only [lawA, lawEnv, lawCells, lawBody, PySem.Challenge.pw_rl0062_01, lawTail, lawScope, bodyOf, scopesOf, List.drop, List.flatMap, List.map, List.flatten, List.append, HAppend.hAppend, Append.append, List.headD]
   dsimp only [lawA, lawEnv, lawCells, lawBody, PySem.Challenge.pw_rl0062_01, lawTail, lawScope, bodyOf, scopesOf, List.drop, List.flatMap, List.map, List.flatten, List.append, HAppend.hAppend, Append.append, List.headD] at next
   k_with "stage" => ((with_reducible show wpAny _ _ (execs (Stmt.Assign [Expr.Name (Str.ofString "words") _] _ _ :: _) _) _ _ _); refine StageAt.intro ?_)
   k_with "src" => (k_dflt (refine' src_range (fun i ys => IntsAre ys ((List.range i).map (fun (k : Nat) => ((us.count (k : Int) : Nat) : Int)))) 16 ?hh ?F ?N ?hr ?h1 ?h2 ?h3 ?h4 (fun g' ys' hs' => ?_) (fun g' i' ys' hi' hs' v' I' oI' C' oC' D' m' h' tk' E' hP' hC' hx' F' N' off' ne' => ?_); (case hh => rfl); (case F => k_asm); (case N => k_asm); (case hr => assumption); (case h1 => decide); (case h2 => decide); (case h3 => rw [sizeLine_eq]; decide); (case h4 => exact .nil); rotate_left; (obtain ⟨t9', hv9'⟩ := hP'); subst hv9'; rotate_left; (have hs2' : IntsAre ys' ((List.range 16).map (fun (k : Nat) => ((us.count (k : Int) : Nat) : Int))) := hs'); rotate_left))
   k_steps
   · exact ints_snoc (g := fun (k : Nat) => ((us.count (k : Int) : Nat) : Int)) hs'
   · rename _ = true ↔ ¬(_ ∧ _) => h9
     rename _ = true => h8
     exact absurd ⟨hw, hz⟩ (h9.mp h8)
   · unfold StageAt
     rename Fr _ _ _ _ => F5
     rename News _ _ _ _ => N5
     exact next _ _ F5 (cb_drop N5 (by (repeat' (first | exact List.forall_mem_nil _ | refine List.forall_mem_cons.mpr ⟨by k_mem, ?_⟩))))
end
end
section
theorem mapSeq_app (its ys : Array Value) (n : Nat) : ∃ k, Obj.mapSeq (fun x => x ++ ys) (PySem.W.listOf its n) = PySem.W.listOf (its ++ ys) k := ⟨_, rfl⟩
section
variable {prog : Program} {w : World} {A : Around} {E : Value → Shared → Prop} {s : Shared} {h₀ : Heap} {L l b : Addr} {m : Str → Option Value} {news : List (Addr × Obj)} {Q : Value → Shared → Prop}
theorem no_fill_iadd : fillsInplaceSlot (.type "list") "add" true = pure false := by
  unfold fillsInplaceSlot
  show (typeLookup (.type "list") (dunderI "add") >>= fun fi => pure (fi.isSome && !isSeqSlot fi)) = pure false
  rw [PySem.F.slot_list_iadd.lookup]
  show (pure ((some (Value.builtin "list.__iadd__")).isSome && !isSeqSlot (some (.builtin "list.__iadd__"))) : Sem Bool) = pure false
  rw [show isSeqSlot (some (.builtin "list.__iadd__")) = true by decide +kernel]
  rfl
theorem seq_iadd : seqSlot? (.type "list") (dunderI "add") = pure (some (.builtin "list.__iadd__")) := by
  unfold seqSlot?
  rw [PySem.F.slot_list_iadd.lookup]
  show (if (!isSeqSlot (some (.builtin "list.__iadd__"))) = true then pure none else pure (some (.builtin "list.__iadd__"))) = (pure (some (.builtin "list.__iadd__")) : Sem (Option Value))
  rw [show isSeqSlot (some (.builtin "list.__iadd__")) = true by decide +kernel]
  rfl
theorem iadd_call {a b : Value} (ha : s.TypeIs a "list") (hb : s.TypeIs b "list") (hc : wpAny (model prog w) A (call (.builtin "list.__iadd__") [a, b]) Q E s) : wpAny (model prog w) A (inplaceOp .Add a b) Q E s := by
  unfold inplaceOp
  refine wpAny_holding ?_
  refine wpAny_bind (wpAny_typeOf ha (wpAny_bind (wpAny_of_eq no_fill_iadd ?_)))
  show wpAny _ A (if false = true then _ else _) Q E s
  rw [if_neg Bool.false_ne_true]
  refine wpAny_bind (wpAny_binaryOp1_none (nm := "add") ha hb noFill_list_add ?_)
  refine wpAny_bind (wpAny_of_eq seq_iadd ?_)
  exact wpAny_bind (wpAny_rule hc)
theorem iadd_strs {xs ys : List Value} {ka kb : Nat} {ws zs : List Str} {news' : List Value → Nat → List (Addr × Obj)} (F : Fr h₀ L s.heap m) (N : News h₀ L s.heap news) (U : ∀ vs k, Upd l (PySem.W.listOf xs.toArray ka) (PySem.W.listOf vs.toArray k) news (news' vs k))
    (mb : (b, PySem.W.listOf ys.toArray kb) ∈ news) (Da : StrsAre xs ws) (Db : StrsAre ys zs) (hl : ws.length + zs.length ≤ 100)
    (h : ∀ vs k h', StrsAre vs (ws ++ zs) → Fr h₀ L h' m → News h₀ L h' (news' vs k) → Q (.ref l) { s with heap := h' }) : wpAny (model prog w) A (inplaceOp .Add (.ref l) (.ref b)) Q E s := by
  have e1 := strs_length Da
  have e2 := strs_length Db
  have z : s.heap.get? l = some (PySem.W.listOf xs.toArray ka) ∧ l ≠ L ∧ h₀.get? l = none := by
    obtain ⟨pre, post, e, _, _, _⟩ := (U [] 0).split
    exact N (l, _) (by rw [e]; exact List.mem_append.mpr (.inr (.head _)))
  have zb := N _ mb
  have hsz : xs.toArray.size + ys.toArray.size ≤ 100 := by rw [List.size_toArray, List.size_toArray, e1, e2]; exact hl
  refine iadd_call ⟨_, z.1, rfl⟩ ⟨_, zb.1, rfl⟩ ?_
  refine call_meets PySem.F.slot_list_iadd ⟨_, z.1, rfl⟩ PySem.F.entry_list_iadd (PySem.F.args_list_iadd_2 _ _) (AutoSeq1.list___iadd___list_list_0 l xs.toArray ka b ys.toArray kb ?_ (by rw [sizeLine_eq]; omega) (by rw [sizeLine_eq]; omega)) ⟨z.1, zb.1, ?_⟩
  · have : Builtin.List.listTooLong (xs.toArray.size + ys.toArray.size) = false := by
      unfold Builtin.List.listTooLong
      exact decide_eq_false (by rw [sizeLine_eq]; omega)
    rw [this, Bool.and_false]; exact Bool.noConfusion
  · obtain ⟨k, ek⟩ := mapSeq_app xs.toArray ys.toArray ka
    show Q _ _
    have e3 : xs.toArray ++ ys.toArray = (xs ++ ys).toArray := by simp
    rw [e3] at ek
    obtain ⟨pre, post, rfl, e', p1, p2⟩ := (U (xs ++ ys) k).split
    refine h (xs ++ ys) k _ (strs_append Da Db) (F.change (Heap.SameBut.update ..) z.2.1 z.2.2) ?_
    rw [e']
    refine news_set N p1 p2 (Heap.SameBut.update ..) ?_
    rw [Heap.get?_update_self _ z.1 (by rw [ek]; rfl), ek]
end
end
section
open LCg
noncomputable abbrev W8a : List Str := [Str.ofString "OPTIMIZED", Str.ofString "NEWLOCALS", Str.ofString "VARARGS", Str.ofString "VARKEYWORDS", Str.ofString "NESTED", Str.ofString "GENERATOR", Str.ofString "NOFREE", Str.ofString "COROUTINE"]
noncomputable abbrev W8b : List Str := [Str.ofString "ITERABLE_COROUTINE", Str.ofString "ASYNC_GENERATOR", Str.ofString "0x400", Str.ofString "0x800", Str.ofString "0x1000", Str.ofString "0x2000", Str.ofString "0x4000", Str.ofString "0x8000"]
/-- the words of the places that are in the list -/
noncomputable def selU (us : List Int) (i : Nat) : List Str := ((List.range i).filter fun (k : Nat) => decide ((k : Int) ∈ us)).map wordOf
theorem selU_on {us : List Int} {i : Nat} (h : (i : Int) ∈ us) : selU us (i + 1) = selU us i ++ [wordOf i] := by
  unfold selU; rw [List.range_succ, List.filter_append, List.map_append]; simp [h]
theorem selU_off {us : List Int} {i : Nat} (h : (i : Int) ∉ us) : selU us (i + 1) = selU us i := by
  unfold selU; rw [List.range_succ, List.filter_append, List.map_append]; simp [h]
theorem oks_selU {us : List Int} {i : Nat} : Oks (selU us i) := fun w hw => by
  unfold selU at hw
  obtain ⟨j, _, rfl⟩ := List.mem_map.mp hw
  exact wordOf_ok j
theorem w16_at {i : Nat} (h : i < 16) : W16[i]? = some (wordOf i) := by
  unfold wordOf
  rw [List.getD_eq_getElem?_getD, List.getElem?_eq_getElem (show i < W16.length from h)]
  rfl
section
variable {prog : Program} {w : World} {A : Around} {E : Value → Shared → Prop} {s : Shared} {h₀ : Heap} {L a b : Addr} {m : Str → Option Value} {news : List (Addr × Obj)} {xs ys : List Value} {ka kb : Nat} {ns ms : List Int} {Q : Value → Shared → Prop}
theorem loadX_C {M : Model} {A : Around} {E : Value → Shared → Prop} {cn : Str} {cs : Scope} {a c : Addr} {ccd : Value} {cl : List (Str × Addr)} {x : Str} {v : Value} {o : Obj} (N : News h₀ L s.heap news) (hc : cl.lookup x = some c) (hm : (c, o) ∈ news) (hd : o.data = .cell (some v)) (h : Q v s)
    (hk : cs.kind = .function) (hx : (envX cn cs L a ccd cl).kindOf x = some .cell) : wpAny M A (loadName (envX cn cs L a ccd cl) x) Q E s := wpAny_loadName_cell hk hx hc ⟨o, N.get hm, hd⟩ h
theorem in_ints {k : Int} {t : Tok} (N : News h₀ L s.heap news) (ma : (a, PySem.W.listOf xs.toArray ka) ∈ news) (Da : IntsAre xs ns) (h : ∀ r : Bool, (r = true ↔ k ∈ ns) → Q (.bool r) s) : wpAny (model prog w) A (compareOp .In (.int k t) (.ref a)) Q E s :=
  in_list_ints ⟨_, (N _ ma).1, rfl, _, rfl⟩ Da (h _ (by rw [List.any_eq_true]; simp))
theorem item_word {value slice : Expr} {i n : Nat} {u : Tok} (N : News h₀ L s.heap news) (hm : (a, PySem.W.listOf xs.toArray n) ∈ news) (hv : StrsAre xs W16) (hi : i < 16) (h : ∀ t, Q (.str (wordOf i) t) s)
    (hs : subscripted slice false (.ref a) (.int (i : Int) u) = operate [.ref a, .int (i : Int) u] (getItem (.ref a) (.int (i : Int) u))) (hg : ∀ r, letTemporaryGo value (.ref a) r = pure ()) :
    wpAny (model prog w) A (subscriptTail value slice (.ref a) (.int (i : Int) u)) Q E s := by
  obtain ⟨t, e⟩ := strs_get hv (w16_at hi)
  exact item_news N hm (by omega) (by omega) (by rw [Int.toNat_natCast]; exact e) (h t) hs hg
end
section
variable {w : World} {mean : ExcName → Option Value} {mg mb : Str → Option Value} {loose : List Str}
  {dp un : Nat} {gd : Option (List Code)} {a : Addr} {ccd : Value} {outer : List Env} {A₀ : Around} {base h₀ : Heap} {L : Addr} {m : Str → Option Value} {s : Shared} {Q : Flow → Shared → Prop} {E : Value → Shared → Prop}
theorem stage11 {nl al bl ml fl sl tl ul : Addr} {x1 x2 x3 : Option Value} {ku kt : Nat} {vu vt : List Value} {w8 w7 w6 w5 w4 w3 w2 w1 : Obj} {v8 : Option Value} {ap : Bool} {us : List Int} {ts : List Str}
  (B : Below A₀ base outer h₀) (F : Fr h₀ L s.heap (mE (mD (mC m nl al ml fl sl x1 x2 x3) tl) ap)) (X : (hd.heap_39 w.params).In h₀) (N : News h₀ L s.heap ((ul, PySem.W.listOf vu.toArray ku) :: (tl, PySem.W.listOf vt.toArray kt) :: cellsL L w8 w7 w6 w5 w4 w3 w2 w1)) (T : Top hd.view_39 loose mean mg mb h₀)
  (hdp : dp + 8 < recursionLimit) (hun : un + 128 < cLine)
  (d8 : w8.data = .cell v8) (d7 : w7.data = .cell (some (.ref ul))) 
  (ivu : IntsAre vu us) (ivt : StrsAre vt ts) (okt : Oks ts) (ht : ts = selU us 16) (ful : OffC L ul) (ftl : OffC L tl)
  (fin : ∀ (h' : Heap) (tk' : Nat) (m' : Str → Option Value), Fr h₀ L h' m' → Q (.ret (.bool true)) { s with heap := h', toks := tk' }) :
   wpAny (model Challenge.rw_rl0062_01.row.prog w) (lawA dp un gd L a ccd outer) (execs (lawTail 15 lawBody) (lawEnv L a ccd)) Q E s := by
   w_top off
   k_with_none
   k_with "eval Constant int" => (k_here; k_dflt (refine ci_f (fun t' tk' => ?_)))
   k_with "eval Constant str" => (k_here; k_dflt (refine cs_f (fun t' tk' => ?_)))
   k_with "eval Constant float" => (k_here; k_dflt (refine cf_f (fun t' tk' => ?_)))
   k_with "binaryOp Add int int" => (k_here; k_dflt (refine ai_f (fun t' tk' => ?_)))
   k_with "binaryOp Sub int int" => (k_here; k_dflt (refine si_f (fun t' tk' => ?_)))
   k_with "binaryOp Add float float" => (k_here; k_dflt (refine af_f (fun t' tk' => ?_)))
   k_with "binaryOp Sub float float" => (k_here; k_dflt (refine sf_f (fun t' tk' => ?_)))
   k_with "binaryOp Mult float float" => (k_here; k_dflt (refine mf_f (fun t' tk' => ?_)))
   k_with "binaryOp Mod int int" => (k_here; k_dflt (refine mi_f (by decide) (fun t' tk' => ?_)))
   k_with "loadName" => (k_here; k_dflt (refine' loadX_C (by k_asm) (by rfl) (by k_mem) (by k_asm) ?_ (by rfl) (by rfl); k_whole))
   k_with "FinE" => (k_here; dsimp only [LCg.FinE]; intro D' h' tk' F' N' o1'; clear o1'; (try k_sweep))
   k_with "eval ListComp" => (k_here; k_dflt (refine LCt.ListComp_T (F₀ := by k_asm) (by with_unfolding_all rfl) (by decide) (by rfl) (by decide) (by rfl) ?_))
   k_with "CompSrcT" => (k_extra "src")
   k_with "CompEnd" => (k_here; k_dflt (refine' comp_end0 (by k_asm) (by k_asm) (by assumption) (by first | exact trivial | exact .inr ⟨_, by k_mem, rfl, _, rfl⟩) ⟨rfl, ?_⟩))
   k_with "compareOp In int ref" => (k_here; k_dflt (refine' in_ints (by k_asm) (by k_mem) (by with_reducible assumption) ?_; k_whole); intro r' hr')
   k_with "subscriptTail Name Name ref int" => (k_here; (with_reducible show wpAny _ _ (subscriptTail _ _ (Value.ref _) (Value.int _ _)) _ _ _); k_dflt (refine' item_word (by k_asm) (by k_mem) (by with_reducible assumption) (by with_reducible assumption) ?_ (by with_unfolding_all rfl) (by intro _; with_unfolding_all rfl); k_whole; intro t'))
   k_with "compareOp Eq ref ref" => (k_here; k_dflt (refine' eq_strs (by k_asm) (by k_mem) (by k_mem) (by exact rfl) (by exact rfl) (by with_reducible assumption) (by exact rfl) (by exact rfl) (by with_reducible assumption) (by with_reducible assumption) (by exact oks_selU) (by ke_room) ?_; k_whole); intro r' hr')
   k_with "inplaceOp Add ref ref" => (k_here; k_dflt (refine' iadd_strs (ws := W8a) (zs := W8b) (by k_asm) (by k_asm) (by intro vs9 k9; k_upd) (by k_mem) (by exact .cons _ _ (.cons _ _ (.cons _ _ (.cons _ _ (.cons _ _ (.cons _ _ (.cons _ _ (.cons _ _ .nil)))))))) (by exact .cons _ _ (.cons _ _ (.cons _ _ (.cons _ _ (.cons _ _ (.cons _ _ (.cons _ _ (.cons _ _ .nil)))))))) (by decide) ?_; k_whole); intro vs' k' h' i' F' N'; (try k_sweep); replace i' : StrsAre vs' W16 := i')
   have ful8 := ful.1
   have ftl8 := ftl.1
   revert X; k_fill; intro X
   dsimp only [lawA, lawEnv, lawCells, lawBody, PySem.Challenge.pw_rl0062_01, lawTail, lawScope, bodyOf, scopesOf, List.drop, List.flatMap, List.map, List.flatten, List.append, HAppend.hAppend, Append.append, List.headD]
   k_with "src" => (k_dflt (refine' src_rangeT (fun i ys => StrsAre ys (selU us i)) 16 ?hh ?F ?N ?hr ?h1 ?h2 ?h3 ?h4 (fun g' ys' hs' => ?_) (fun g' i' ys' hi' hs' v' I' oI' C' oC' D' m' h' tk' E' hP' hC' hx' F' N' off' ne' => ?_); (case hh => rfl); (case F => k_asm); (case N => k_asm); (case hr => assumption); (case h1 => decide); (case h2 => decide); (case h3 => rw [sizeLine_eq]; decide); (case h4 => exact .nil); rotate_left; (obtain ⟨t9', hv9'⟩ := hP'); subst hv9'))
   k_steps
   · show StrsAre _ (selU us (_ + 1))
     rename _ = true ↔ _ ∈ us => h9
     rw [selU_on (h9.mp (by assumption))]
     exact strs_append hs' (.cons _ _ .nil)
   · show StrsAre _ (selU us (_ + 1))
     rename _ = true ↔ _ ∈ us => h9
     rename _ = false => h8
     rw [selU_off (fun q => absurd (h9.mpr q) (by rw [h8]; exact Bool.noConfusion))]
     exact hs'
   · rename _ = true ↔ ts = _ => h9
     have h8 := h9.mpr ht
     subst h8
     exact fin _ _ _ (by assumption)
end
end
section
noncomputable def gap (x y : Nat) : Nat := (x + (16 - y)) % 16
noncomputable def val16 (g : Nat) : Nat := if g % 2 ≠ 0 then 0 else if g % 4 ≠ 0 then 1 else if g % 8 ≠ 0 then 2 else if g % 16 ≠ 0 then 3 else 4
/-- a gap up to its sign, as a bit -/
noncomputable def hb (d : Nat) : Nat := 2 ^ (min d (16 - d))
noncomputable def orAll (l : List Nat) : Nat := l.foldr (fun a b => a ||| b) 0
/-- the places whose greatest power of two is 2 ^ v -/
noncomputable def bits (v : Nat) : Nat := if v = 0 then 170 else if v = 1 then 68 else if v = 2 then 16 else 256
theorem and_or (a b m : Nat) : (a ||| b) &&& m = (a &&& m) ||| (b &&& m) := by
  apply Nat.eq_of_testBit_eq; intro i
  simp only [Nat.testBit_and, Nat.testBit_or, Bool.and_or_distrib_right]
theorem or_zero {a b : Nat} : a ||| b = 0 ↔ a = 0 ∧ b = 0 := by
  constructor
  · intro h
    have hb : ∀ i, (a ||| b).testBit i = false := fun i => by rw [h]; exact Nat.zero_testBit i
    refine ⟨Nat.eq_of_testBit_eq fun i => ?_, Nat.eq_of_testBit_eq fun i => ?_⟩
    · have := hb i; rw [Nat.testBit_or, Bool.or_eq_false_iff] at this; rw [this.1, Nat.zero_testBit]
    · have := hb i; rw [Nat.testBit_or, Bool.or_eq_false_iff] at this; rw [this.2, Nat.zero_testBit]
  · rintro ⟨rfl, rfl⟩; rfl
theorem orAll_zero (m : Nat) : ∀ l : List Nat, orAll l &&& m = 0 ↔ ∀ z ∈ l, z &&& m = 0
  | [] => by simp [orAll]
  | a :: r => by
    show (a ||| orAll r) &&& m = 0 ↔ _
    rw [and_or, or_zero, orAll_zero m r]
    simp
theorem orAll_both (l k : List Nat) : orAll l &&& orAll k = 0 ↔ ∀ z ∈ l, ∀ w ∈ k, z &&& w = 0 := by
  rw [orAll_zero]
  constructor
  · intro h z hz w hw
    have := h z hz
    rw [Nat.and_comm] at this
    rw [Nat.and_comm]; exact (orAll_zero z k).mp this w hw
  · intro h z hz
    rw [Nat.and_comm]
    refine (orAll_zero z k).mpr fun w hw => ?_
    rw [Nat.and_comm]; exact h z hz w hw
noncomputable def six (p0 p1 p2 p3 : Nat) : List Nat := [hb (gap p1 p0), hb (gap p2 p0), hb (gap p3 p0), hb (gap p1 p2), hb (gap p1 p3), hb (gap p2 p3)]
noncomputable def dm (p0 p1 p2 p3 : Nat) : Nat := orAll (six p0 p1 p2 p3)
/-- the masks of the four-sets of the wheel -/
noncomputable def masks : List Nat := [14, 30, 62, 118, 230, 454, 390, 110, 222, 430, 462, 206, 366, 190, 94, 46, 58, 126, 218, 410, 442, 250, 314, 154, 114, 246, 434, 242, 178, 226, 486, 490, 98, 450, 202, 386, 84, 188, 340, 180, 172, 364, 236, 252, 300, 220, 244, 164, 492, 324, 200, 216, 360, 440, 184, 296, 272]
theorem masks_all : ∀ a < 16, ∀ b < 16, ∀ c < 16, (dm 0 a b c % 2 == 1 || masks.contains (dm 0 a b c)) = true := four_blocks (by decide +kernel) (by decide +kernel) (by decide +kernel) (by decide +kernel)
theorem masks_pair : masks.all (fun x => masks.all fun y => x &&& y != 0 || ((x &&& 170 == 0 || y &&& 170 == 0) && (x &&& 68 == 0 || y &&& 68 == 0) && (x &&& 16 == 0 || y &&& 16 == 0) && (x &&& 256 == 0 || y &&& 256 == 0))) = true := by decide +kernel
theorem dm_in {a b c : Nat} (ha : a < 16) (hb : b < 16) (hc : c < 16) : dm 0 a b c % 2 = 1 ∨ dm 0 a b c ∈ masks := by
  have h := masks_all a ha b hb c hc
  rw [Bool.or_eq_true, beq_iff_eq, List.contains_iff_mem] at h
  exact h
theorem pair_in {x y : Nat} (hx : x ∈ masks) (hy : y ∈ masks) (h0 : x &&& y = 0) (v : Nat) : x &&& bits v = 0 ∨ y &&& bits v = 0 := by
  have h := masks_pair
  rw [List.all_eq_true] at h
  have h := h x hx
  rw [List.all_eq_true] at h
  have h := h y hy
  rw [h0] at h
  simp only [bne_self_eq_false, Bool.false_or, Bool.and_eq_true, Bool.or_eq_true, beq_iff_eq] at h
  unfold bits
  split
  · exact h.1.1.1
  split
  · exact h.1.1.2
  split
  · exact h.1.2
  · exact h.2
theorem gap_lt (x y : Nat) : gap x y < 16 := Nat.mod_lt _ (by decide)
theorem gap_base0 : ∀ z < 16, ∀ y < 16, ∀ x < 16, gap (gap x z) (gap y z) = gap x y := by decide +kernel
theorem gap_base {x y z : Nat} (hx : x < 16) (hy : y < 16) (hz : z < 16) : gap (gap x z) (gap y z) = gap x y := gap_base0 z hz y hy x hx
theorem gap_zero0 : ∀ x < 16, gap x 0 = x := by decide +kernel
theorem gap_zero {x : Nat} (hx : x < 16) : gap x 0 = x := gap_zero0 x hx
theorem dm_base {p0 p1 p2 p3 : Nat} (h0 : p0 < 16) (h1 : p1 < 16) (h2 : p2 < 16) (h3 : p3 < 16) : dm p0 p1 p2 p3 = dm 0 (gap p1 p0) (gap p2 p0) (gap p3 p0) := by
  unfold dm six
  rw [gap_zero (gap_lt p1 p0), gap_zero (gap_lt p2 p0), gap_zero (gap_lt p3 p0), gap_base h1 h2 h0, gap_base h1 h3 h0, gap_base h2 h3 h0]
theorem hb_odd : ∀ d < 16, d ≠ 0 → hb d % 2 = 0 := by decide +kernel
theorem hb_val : ∀ d < 16, d ≠ 0 → hb d &&& bits (val16 d) ≠ 0 := by decide +kernel
theorem hb_apart : ∀ d < 16, ∀ e < 16, d ≠ e → d ≠ (16 - e) % 16 → hb d &&& hb e = 0 := by decide +kernel
theorem hb_sym0 : ∀ x < 16, ∀ y < 16, hb (gap x y) = hb (gap y x) := by decide +kernel
theorem hb_sym {x y : Nat} (hx : x < 16) (hy : y < 16) : hb (gap x y) = hb (gap y x) := hb_sym0 x hx y hy
theorem val_sym0 : ∀ x < 16, ∀ y < 16, val16 (gap x y) = val16 (gap y x) := by decide +kernel
theorem val_sym {x y : Nat} (hx : x < 16) (hy : y < 16) : val16 (gap x y) = val16 (gap y x) := val_sym0 x hx y hy
theorem val_odd : ∀ t < 8, ∀ g < 16, val16 ((1 + 2 * t) * g % 16) = val16 g := by decide +kernel
theorem val_four : ∀ g < 16, val16 g = 4 ↔ g = 0 := by decide +kernel
theorem val_zero : val16 0 = 4 := rfl
theorem gap_eq0 : ∀ x < 16, ∀ y < 16, gap x y = 0 ↔ x = y := by decide +kernel
theorem gap_eq {x y : Nat} (hx : x < 16) (hy : y < 16) : gap x y = 0 ↔ x = y := gap_eq0 x hx y hy
theorem gap_times0 : ∀ t < 8, ∀ x < 16, ∀ y < 16, gap ((1 + 2 * t) * x % 16) ((1 + 2 * t) * y % 16) = (1 + 2 * t) * gap x y % 16 := by decide +kernel
theorem gap_times {t x y : Nat} (ht : t < 8) (hx : x < 16) (hy : y < 16) : gap ((1 + 2 * t) * x % 16) ((1 + 2 * t) * y % 16) = (1 + 2 * t) * gap x y % 16 := gap_times0 t ht x hx y hy
theorem gap_back0 : ∀ a < 16, ∀ b < 16, (b + gap a b) % 16 = a := by decide +kernel
theorem gap_canc0 : ∀ c < 16, ∀ g < 16, ∀ g' < 16, (c + g) % 16 = (c + g') % 16 ↔ g = g' := by decide +kernel
theorem gap_neg0 : ∀ x < 16, ∀ y < 16, (16 - gap x y) % 16 = gap y x := by decide +kernel
theorem sum_eq {a b y y' : Nat} (ha : a < 16) (hb : b < 16) (hy : y < 16) (hy' : y' < 16) : (y + a) % 16 = (y' + b) % 16 ↔ gap a b = gap y' y := by
  have e1 : ((y + b) % 16 + gap a b) % 16 = (y + a) % 16 := by rw [Nat.mod_add_mod, Nat.add_assoc, ← Nat.add_mod_mod, gap_back0 a ha b hb]
  have e2 : ((y + b) % 16 + gap y' y) % 16 = (y' + b) % 16 := by rw [Nat.mod_add_mod, Nat.add_right_comm, ← Nat.mod_add_mod, gap_back0 y' hy' y hy]
  rw [← e1, ← e2]
  exact gap_canc0 _ (Nat.mod_lt _ (by decide)) _ (gap_lt a b) _ (gap_lt y' y)
end
section
/-- the words of the two palettes share nothing, said of the gaps -/
structure Apt (p q : Nat → Nat) : Prop where
  val : ∀ i i' j j', i < 4 → i' < 4 → j < 4 → j' < 4 → i ≠ i' → j ≠ j' → val16 (gap (p i) (p i')) ≠ val16 (gap (q j) (q j'))
  fst : ∀ i i', i < 4 → i' < 4 → i ≠ i' → p i ≠ p i'
  snd : ∀ j j', j < 4 → j' < 4 → j ≠ j' → q j ≠ q j'
noncomputable def Inj (t : Nat) (p q : Nat → Nat) : Prop := ∀ i i' j j', i < 4 → i' < 4 → j < 4 → j' < 4 → (q j + (1 + 2 * t) * p i) % 16 = (q j' + (1 + 2 * t) * p i') % 16 → i = i' ∧ j = j'
theorem sum_mod (y a : Nat) : (y + a) % 16 = (y + a % 16) % 16 := by omega
theorem apt_inj {t : Nat} {p q : Nat → Nat} (ht : t < 8) (hp : ∀ i, i < 4 → p i < 16) (hq : ∀ i, i < 4 → q i < 16) (h : Apt p q) : Inj t p q := by
  intro i i' j j' hi hi' hj hj' e
  rw [sum_mod (q j), sum_mod (q j'), sum_eq (Nat.mod_lt _ (by decide)) (Nat.mod_lt _ (by decide)) (hq j hj) (hq j' hj'), gap_times ht (hp i hi) (hp i' hi')] at e
  have v := val_odd t ht _ (gap_lt (p i) (p i'))
  rw [e, val_sym (hq j' hj') (hq j hj)] at v
  by_cases h1 : i = i'
  · subst h1
    refine ⟨rfl, ?_⟩
    by_cases h2 : j = j'
    · exact h2
    · exfalso
      rw [(gap_eq (hp i hi) (hp i hi)).mpr rfl, val_zero, val_four _ (gap_lt _ _), gap_eq (hq j hj) (hq j' hj')] at v
      exact h.snd j j' hj hj' h2 v
  · exfalso
    by_cases h2 : j = j'
    · subst h2
      rw [(gap_eq (hq j hj) (hq j hj)).mpr rfl, val_zero] at v
      have v' := (val_four _ (gap_lt _ _)).mp v.symm
      rw [gap_eq (hp i hi) (hp i' hi')] at v'
      exact h.fst i i' hi hi' h1 v'
    · exact h.val i i' j j' hi hi' hj hj' h1 h2 v.symm
theorem mem_six {p : Nat → Nat} (hp : ∀ i, i < 4 → p i < 16) {i i' : Nat} (hi : i < 4) (hi' : i' < 4) (h : i ≠ i') : hb (gap (p i) (p i')) ∈ six (p 0) (p 1) (p 2) (p 3) := by
  have h0 := hp 0 (by decide)
  have h1 := hp 1 (by decide)
  have h2 := hp 2 (by decide)
  have h3 := hp 3 (by decide)
  have hc := lt4 i (by assumption)
  have hc' := lt4 i' (by assumption)
  have e := hb_sym (hp i hi) (hp i' hi')
  unfold six
  rcases hc with rfl | rfl | rfl | rfl <;> rcases hc' with rfl | rfl | rfl | rfl <;> first
    | exact absurd rfl h
    | (simp; done)
    | (rw [e]; simp; done)
theorem six_mem {p : Nat → Nat} {z : Nat} (h : z ∈ six (p 0) (p 1) (p 2) (p 3)) : ∃ i i', i < 4 ∧ i' < 4 ∧ i ≠ i' ∧ z = hb (gap (p i) (p i')) := by
  unfold six at h
  simp only [List.mem_cons, List.not_mem_nil, or_false] at h
  rcases h with h | h | h | h | h | h
  · exact ⟨1, 0, by decide, by decide, by decide, h⟩
  · exact ⟨2, 0, by decide, by decide, by decide, h⟩
  · exact ⟨3, 0, by decide, by decide, by decide, h⟩
  · exact ⟨1, 2, by decide, by decide, by decide, h⟩
  · exact ⟨1, 3, by decide, by decide, by decide, h⟩
  · exact ⟨2, 3, by decide, by decide, by decide, h⟩
theorem dm_masks {p : Nat → Nat} (hp : ∀ i, i < 4 → p i < 16) (h : ∀ i i', i < 4 → i' < 4 → i ≠ i' → p i ≠ p i') : dm (p 0) (p 1) (p 2) (p 3) ∈ masks := by
  have h0 := hp 0 (by decide)
  have h1 := hp 1 (by decide)
  have h2 := hp 2 (by decide)
  have h3 := hp 3 (by decide)
  have e : dm (p 0) (p 1) (p 2) (p 3) % 2 = 0 := by
    rw [← Nat.and_one_is_mod]
    unfold dm
    rw [orAll_zero]
    intro z hz
    obtain ⟨i, i', hi, hi', hne, rfl⟩ := six_mem hz
    rw [Nat.and_one_is_mod]
    exact hb_odd _ (gap_lt _ _) fun q => h i i' hi hi' hne ((gap_eq (hp i hi) (hp i' hi')).mp q)
  have d := dm_base h0 h1 h2 h3
  rcases dm_in (gap_lt (p 1) (p 0)) (gap_lt (p 2) (p 0)) (gap_lt (p 3) (p 0)) with q | q
  · rw [← d, e] at q; cases q
  · rw [d]; exact q
/-- Newman; Sands and Tijdeman: for four and four on the wheel of sixteen -/
theorem inj_apt {t : Nat} {p q : Nat → Nat} (ht : t < 8) (hp : ∀ i, i < 4 → p i < 16) (hq : ∀ i, i < 4 → q i < 16) (h : Inj t p q) : Apt p q := by
  have fst : ∀ i i', i < 4 → i' < 4 → i ≠ i' → p i ≠ p i' := fun i i' hi hi' hne e => hne (h i i' 0 0 hi hi' (by decide) (by decide) (by rw [e])).1
  have snd : ∀ j j', j < 4 → j' < 4 → j ≠ j' → q j ≠ q j' := fun j j' hj hj' hne e => hne (h 0 0 j j' (by decide) (by decide) hj hj' (by rw [e])).2
  have hP : ∀ i, i < 4 → (1 + 2 * t) * p i % 16 < 16 := fun i _ => Nat.mod_lt _ (by decide)
  have hg : ∀ i i', i < 4 → i' < 4 → val16 (gap ((1 + 2 * t) * p i % 16) ((1 + 2 * t) * p i' % 16)) = val16 (gap (p i) (p i')) := fun i i' hi hi' => by rw [gap_times ht (hp i hi) (hp i' hi'), val_odd t ht _ (gap_lt _ _)]
  have nz : ∀ i i', i < 4 → i' < 4 → i ≠ i' → gap ((1 + 2 * t) * p i % 16) ((1 + 2 * t) * p i' % 16) ≠ 0 := fun i i' hi hi' hne e => by
    have := hg i i' hi hi'
    rw [e, val_zero] at this
    exact fst i i' hi hi' hne ((gap_eq (hp i hi) (hp i' hi')).mp ((val_four _ (gap_lt _ _)).mp this.symm))
  have mx := dm_masks (p := fun i => (1 + 2 * t) * p i % 16) hP fun i i' hi hi' hne e => nz i i' hi hi' hne ((gap_eq (hP i hi) (hP i' hi')).mpr e)
  have my := dm_masks hq snd
  have hxy : dm ((1 + 2 * t) * p 0 % 16) ((1 + 2 * t) * p 1 % 16) ((1 + 2 * t) * p 2 % 16) ((1 + 2 * t) * p 3 % 16) &&& dm (q 0) (q 1) (q 2) (q 3) = 0 := by
    unfold dm
    rw [orAll_both]
    intro z hz w hw
    obtain ⟨i, i', hi, hi', hne, rfl⟩ := six_mem (p := fun i => (1 + 2 * t) * p i % 16) hz
    obtain ⟨j, j', hj, hj', hne', rfl⟩ := six_mem hw
    refine hb_apart _ (gap_lt _ _) _ (gap_lt _ _) (fun e => ?_) fun e => ?_
    · refine hne (h i i' j' j hi hi' hj' hj ?_).1
      rw [sum_mod (q j'), sum_mod (q j), sum_eq (hP i hi) (hP i' hi') (hq j' hj') (hq j hj)]
      exact e
    · refine hne (h i i' j j' hi hi' hj hj' ?_).1
      rw [sum_mod (q j), sum_mod (q j'), sum_eq (hP i hi) (hP i' hi') (hq j hj) (hq j' hj')]
      have e' : gap ((1 + 2 * t) * p i % 16) ((1 + 2 * t) * p i' % 16) = (16 - gap (q j) (q j')) % 16 := e
      rw [e']
      exact gap_neg0 _ (hq j hj) _ (hq j' hj')
  refine ⟨fun i i' j j' hi hi' hj hj' hne hne' e => ?_, fst, snd⟩
  rw [← hg i i' hi hi'] at e
  have zj : gap (q j) (q j') ≠ 0 := fun z => snd j j' hj hj' hne' ((gap_eq (hq j hj) (hq j' hj')).mp z)
  rcases pair_in mx my hxy (val16 (gap (q j) (q j'))) with z | z
  · have := (orAll_zero _ _).mp z _ (mem_six (p := fun i => (1 + 2 * t) * p i % 16) hP hi hi' hne)
    exact hb_val _ (gap_lt _ _) (nz i i' hi hi' hne) (by rw [e]; exact this)
  · have := (orAll_zero _ _).mp z _ (mem_six hq hj hj' hne')
    exact hb_val _ (gap_lt _ _) zj this
end
section
theorem due_val : ∀ g < 16, ∀ h < 16, dueWord ((g : Nat) : Int) = dueWord ((h : Nat) : Int) ↔ val16 g = val16 h := by decide +kernel
theorem due_ox : ∀ g < 16, dueWord ((g : Nat) : Int) = Str.ofString "0x0" ↔ val16 g = 4 := by decide +kernel
theorem mem_nest {word : Nat → Nat → Str} {n : Nat} {w : Str} : w ∈ nestW word n ↔ ∃ i j, i < n ∧ j < i ∧ w = word i j := by
  unfold nestW
  rw [List.mem_flatMap]
  constructor
  · rintro ⟨i, hi, hw⟩
    obtain ⟨j, hj, rfl⟩ := List.mem_map.mp hw
    exact ⟨i, j, List.mem_range.mp hi, List.mem_range.mp hj, rfl⟩
  · rintro ⟨i, j, hi, hj, rfl⟩
    exact ⟨i, List.mem_range.mpr hi, List.mem_map.mpr ⟨j, List.mem_range.mpr hj, rfl⟩⟩
theorem told_mem {p0 p1 p2 p3 i i' : Nat} (hp : ∀ i, i < 4 → pickN p0 p1 p2 p3 i < 16) (hi : i < 4) (hi' : i' < 4) (h : i ≠ i') : dueWord ((gap (pickN p0 p1 p2 p3 i) (pickN p0 p1 p2 p3 i') : Nat) : Int) ∈ nestW (toldW p0 p1 p2 p3) 4 := by
  rw [mem_nest]
  rcases Nat.lt_or_gt_of_ne h with q | q
  · refine ⟨i', i, hi', q, ?_⟩
    exact (due_val _ (gap_lt _ _) _ (gap_lt _ _)).mpr (val_sym (hp i hi) (hp i' hi'))
  · exact ⟨i, i', hi, q, rfl⟩
theorem apartP_iff {ws zs : List Str} : apartP ws zs ↔ (∀ w ∈ ws, w ∉ zs) ∧ (∀ w ∈ ws, w ≠ Str.ofString "0x0") ∧ (∀ w ∈ zs, w ≠ Str.ofString "0x0") := by
  unfold apartP
  rw [List.filter_eq_nil_iff, List.mem_append, not_or]
  constructor
  · rintro ⟨h1, h2, h3⟩
    refine ⟨fun w hw hz => h1 w hw ?_, fun w hw e => h2 (e ▸ hw), fun w hw e => h3 (e ▸ hw)⟩
    rw [List.any_eq_true]; exact ⟨w, hz, by simp⟩
  · rintro ⟨h1, h2, h3⟩
    refine ⟨fun w hw hz => ?_, fun hw => h2 _ hw rfl, fun hw => h3 _ hw rfl⟩
    rw [List.any_eq_true] at hz
    obtain ⟨z, hz, e⟩ := hz
    exact h1 w hw (by rw [← eq_of_beq e]; exact hz)
theorem apart_apt {p0 p1 p2 p3 q0 q1 q2 q3 : Nat} (hp : ∀ i, i < 4 → pickN p0 p1 p2 p3 i < 16) (hq : ∀ i, i < 4 → pickN q0 q1 q2 q3 i < 16) :
    apartP (nestW (toldW p0 p1 p2 p3) 4) (nestW (toldW q0 q1 q2 q3) 4) ↔ Apt (pickN p0 p1 p2 p3) (pickN q0 q1 q2 q3) := by
  rw [apartP_iff]
  constructor
  · rintro ⟨h1, h2, h3⟩
    refine ⟨fun i i' j j' hi hi' hj hj' hne hne' e => ?_, fun i i' hi hi' hne e => ?_, fun j j' hj hj' hne e => ?_⟩
    · have m1 := told_mem hp hi hi' hne
      have m2 := told_mem hq hj hj' hne'
      rw [(due_val _ (gap_lt _ _) _ (gap_lt _ _)).mpr e] at m1
      exact h1 _ m1 m2
    · refine h2 _ (told_mem hp hi hi' hne) ((due_ox _ (gap_lt _ _)).mpr ?_)
      rw [val_four _ (gap_lt _ _), gap_eq (hp i hi) (hp i' hi')]; exact e
    · refine h3 _ (told_mem hq hj hj' hne) ((due_ox _ (gap_lt _ _)).mpr ?_)
      rw [val_four _ (gap_lt _ _), gap_eq (hq j hj) (hq j' hj')]; exact e
  · intro h
    refine ⟨fun w hw hz => ?_, fun w hw e => ?_, fun w hw e => ?_⟩
    · obtain ⟨i, i', hi, hi', rfl⟩ := mem_nest.mp hw
      obtain ⟨j, j', hj, hj', e⟩ := mem_nest.mp hz
      exact h.val i i' j j' hi (by omega) hj (by omega) (by omega) (by omega) ((due_val _ (gap_lt _ _) _ (gap_lt _ _)).mp e)
    · obtain ⟨i, i', hi, hi', rfl⟩ := mem_nest.mp hw
      have := (due_ox _ (gap_lt (pickN p0 p1 p2 p3 i) (pickN p0 p1 p2 p3 i'))).mp e
      rw [val_four _ (gap_lt _ _), gap_eq (hp i hi) (hp i' (by omega))] at this
      exact h.fst i i' hi (by omega) (by omega) this
    · obtain ⟨i, i', hi, hi', rfl⟩ := mem_nest.mp hw
      have := (due_ox _ (gap_lt (pickN q0 q1 q2 q3 i) (pickN q0 q1 q2 q3 i'))).mp e
      rw [val_four _ (gap_lt _ _), gap_eq (hq i hi) (hq i' (by omega))] at this
      exact h.snd i i' hi (by omega) (by omega) this
/-- the sum of the first n values -/
noncomputable def tot (f : Nat → Nat) : Nat → Nat
  | 0 => 0
  | n + 1 => tot f n + f n
theorem tot_add (f g : Nat → Nat) : ∀ n, tot (fun k => f k + g k) n = tot f n + tot g n
  | 0 => rfl
  | n + 1 => by
    show tot (fun k => f k + g k) n + (f n + g n) = tot f n + f n + (tot g n + g n)
    rw [tot_add f g n, Nat.add_add_add_comm]
theorem tot_one : ∀ a < 16, tot (fun k => if a == k then 1 else 0) 16 = 1 := by decide +kernel
theorem tot_zero : tot (fun _ => 0) 16 = 0 := rfl
theorem tot_count : ∀ S : List Nat, (∀ x ∈ S, x < 16) → tot (fun k => S.count k) 16 = S.length
  | [], _ => tot_zero
  | a :: r, h => by
    have e : (fun k => (a :: r).count k) = fun k => r.count k + (if a == k then 1 else 0) := by
      funext k; rw [List.count_cons]
    rw [e, tot_add, tot_count r fun x hx => h x (.tail _ hx), tot_one a (h a (.head _))]
    rfl
theorem tot_ge {f : Nat → Nat} : ∀ n, (∀ k, k < n → 1 ≤ f k) → n ≤ tot f n
  | 0, _ => Nat.le_refl _
  | n + 1, h => Nat.add_le_add (tot_ge n fun k hk => h k (Nat.lt_succ_of_lt hk)) (h n (Nat.lt_succ_self n))
theorem tot_le {f : Nat → Nat} : ∀ n, (∀ k, k < n → f k ≤ 1) → tot f n ≤ n
  | 0, _ => Nat.le_refl _
  | n + 1, h => Nat.add_le_add (tot_le n fun k hk => h k (Nat.lt_succ_of_lt hk)) (h n (Nat.lt_succ_self n))
theorem tot_up {f : Nat → Nat} : ∀ n, tot f n = n → (∀ k, k < n → 1 ≤ f k) → ∀ k, k < n → f k ≤ 1
  | 0, _, _, _, hk => absurd hk (Nat.not_lt_zero _)
  | n + 1, e, h, k, hk => by
    have e' : tot f n + f n = n + 1 := e
    have g := tot_ge n fun k hk => h k (Nat.lt_succ_of_lt hk)
    have l := h n (Nat.lt_succ_self n)
    rcases Nat.lt_or_eq_of_le (Nat.le_of_lt_succ hk) with q | q
    · exact tot_up n (by omega) (fun k hk => h k (Nat.lt_succ_of_lt hk)) k q
    · subst q; omega
theorem tot_down {f : Nat → Nat} : ∀ n, tot f n = n → (∀ k, k < n → f k ≤ 1) → ∀ k, k < n → 1 ≤ f k
  | 0, _, _, _, hk => absurd hk (Nat.not_lt_zero _)
  | n + 1, e, h, k, hk => by
    have e' : tot f n + f n = n + 1 := e
    have g := tot_le n fun k hk => h k (Nat.lt_succ_of_lt hk)
    have l := h n (Nat.lt_succ_self n)
    rcases Nat.lt_or_eq_of_le (Nat.le_of_lt_succ hk) with q | q
    · exact tot_down n (by omega) (fun k hk => h k (Nat.lt_succ_of_lt hk)) k q
    · subst q; omega
theorem tot_eq {f : Nat → Nat} (h : tot f 16 = 16) : (∀ k, k < 16 → 1 ≤ f k) ↔ ∀ k, k < 16 → f k ≤ 1 := ⟨tot_up 16 h, tot_down 16 h⟩
theorem cover_nodup {S : List Nat} (h : ∀ x ∈ S, x < 16) (hl : S.length = 16) : (∀ k, k < 16 → k ∈ S) ↔ S.Nodup := by
  have e := tot_eq ((tot_count S h).trans hl)
  rw [List.nodup_iff_count]
  constructor
  · intro g a
    by_cases ha : a < 16
    · exact e.mp (fun k hk => List.count_pos_iff.mpr (g k hk)) a ha
    · rw [List.count_eq_zero.mpr fun m => ha (h a m)]; exact Nat.zero_le _
  · intro g k hk
    exact List.count_pos_iff.mp (e.mpr (fun k _ => g k) k hk)
theorem nodup_range_map {f : Nat → Nat} {n : Nat} : ((List.range n).map f).Nodup ↔ ∀ k k', k < n → k' < n → f k = f k' → k = k' := by
  unfold List.Nodup
  rw [List.pairwise_map]
  constructor
  · intro h k k' hk hk' e
    rcases Nat.lt_trichotomy k k' with q | q | q
    · exfalso
      have := List.pairwise_iff_getElem.mp h k k' (by simpa using hk) (by simpa using hk') q
      simp at this; exact this e
    · exact q
    · exfalso
      have := List.pairwise_iff_getElem.mp h k' k (by simpa using hk') (by simpa using hk) q
      simp at this; exact this e.symm
  · intro h
    refine List.Pairwise.imp_of_mem ?_ (List.pairwise_lt_range (n := n))
    intro a b ha hb hab e
    have := h a b (List.mem_range.mp ha) (List.mem_range.mp hb) e
    omega
end
section
theorem countP_split (q : Nat) : ∀ ns : List Nat, ns.countP (fun x => decide (x ≤ q)) = ns.countP (fun x => decide (x < q)) + ns.count q
  | [] => rfl
  | a :: r => by
    rw [List.countP_cons, List.countP_cons, List.count_cons, countP_split q r]
    rcases Nat.lt_trichotomy a q with h | h | h
    · rw [if_pos (decide_eq_true (Nat.le_of_lt h)), if_pos (decide_eq_true h), if_neg (by simp; omega)]; omega
    · subst h
      rw [if_pos (decide_eq_true (Nat.le_refl _)), if_neg (by simp), if_pos (by simp)]; omega
    · rw [if_neg (by simp; omega), if_neg (by simp; omega), if_neg (by simp; omega)]; omega
theorem cntR_is (ns : List Nat) (q : Nat) : cntR ns q = ((ns.count q : Nat) : Int) := by
  unfold cntR
  rw [countP_split]; omega
theorem count_cast (k : Nat) : ∀ S : List Nat, (S.map fun n => ((n : Nat) : Int)).count (k : Int) = S.count k
  | [] => rfl
  | a :: r => by
    rw [List.map_cons, List.count_cons, List.count_cons, count_cast k r]
    congr 1
    by_cases h : a = k
    · subst h; simp
    · rw [if_neg (by simp; omega), if_neg (by simpa using h)]
section
variable {f : Nat → Nat} (hf : ∀ k, f k < 16)
noncomputable def sumsOf (f : Nat → Nat) : List Nat := (List.range 16).map f
noncomputable def usOf (f : Nat → Nat) : List Int := (List.range 16).map fun k => ((f k : Nat) : Int)
theorem us_is : usOf f = (sumsOf f).map fun n => ((n : Nat) : Int) := by unfold usOf sumsOf; rw [List.map_map]; rfl
theorem row_count (q : Nat) : cntR (rowN f 16) q = (((sumsOf f).count q : Nat) : Int) := by
  rw [cntR_is, (rowN_perm f 16).count_eq]; rfl
theorem us_count (k : Nat) : (usOf f).count (k : Int) = (sumsOf f).count k := by rw [us_is, count_cast]
theorem counts_agree : (List.range 16).map (cntR (rowN f 16)) = (List.range 16).map (fun (k : Nat) => (((usOf f).count (k : Int) : Nat) : Int)) := by
  apply List.map_congr_left
  intro k _
  rw [row_count, us_count]
theorem there_iff (k : Nat) : decide (0 < cntR (rowN f 16) k) = decide (k ∈ sumsOf f) := by
  rw [decide_eq_decide, row_count, ← List.count_pos_iff]
  omega
theorem us_mem (k : Nat) : ((k : Int) ∈ usOf f) ↔ k ∈ sumsOf f := by
  rw [us_is, List.mem_map]
  constructor
  · rintro ⟨a, ha, e⟩
    have : a = k := by omega
    exact this ▸ ha
  · intro h; exact ⟨k, h, rfl⟩
include hf in
theorem tell_is : tellW (fsum (fun i => decide (0 < cntR (rowN f 16) i)) 16) = ((List.range 16).filter fun k => decide (k ∈ sumsOf f)).map wordOf := by
  have e : (fun i => decide (0 < cntR (rowN f 16) i)) = fun k => decide (k ∈ sumsOf f) := funext there_iff
  rw [e]
  have hm : f 0 ∈ sumsOf f := List.mem_map.mpr ⟨0, by decide, rfl⟩
  have hz : fsum (fun k => decide (k ∈ sumsOf f)) 16 ≠ 0 := fun z => by
    have b := fsum_bit (fun k => decide (k ∈ sumsOf f)) 16 (f 0) (hf 0)
    rw [z, Nat.zero_div] at b
    simp only [decide_eq_true hm] at b
    cases b
  unfold tellW
  rw [if_neg hz, fsum_words]
include hf in
theorem tell_sel : tellW (fsum (fun i => decide (0 < cntR (rowN f 16) i)) 16) = selU (usOf f) 16 := by
  rw [tell_is hf]
  unfold selU
  congr 1
  apply List.filter_congr
  intro k _
  rw [decide_eq_decide, us_mem]
include hf in
theorem tell_len16 : (tellW (fsum (fun i => decide (0 < cntR (rowN f 16) i)) 16)).length = 16 ↔ ∀ k k', k < 16 → k' < 16 → f k = f k' → k = k' := by
  rw [tell_is hf, List.length_map]
  have h1 : ((List.range 16).filter fun k => decide (k ∈ sumsOf f)).length = 16 ↔ ∀ k, k < 16 → k ∈ sumsOf f := by
    have := List.length_filter_eq_length_iff (p := fun k => decide (k ∈ sumsOf f)) (l := List.range 16)
    rw [List.length_range] at this
    rw [this]
    constructor
    · intro h k hk; exact of_decide_eq_true (h k (List.mem_range.mpr hk))
    · intro h k hk; exact decide_eq_true (h k (List.mem_range.mp hk))
  rw [h1, cover_nodup (fun x hx => by obtain ⟨k, _, rfl⟩ := List.mem_map.mp hx; exact hf k) (by unfold sumsOf; rw [List.length_map, List.length_range])]
  exact nodup_range_map
end
theorem inj_iff {t p0 p1 p2 p3 q0 q1 q2 q3 : Nat} : (∀ k k', k < 16 → k' < 16 → sumAt t p0 p1 p2 p3 q0 q1 q2 q3 k = sumAt t p0 p1 p2 p3 q0 q1 q2 q3 k' → k = k') ↔ Inj t (pickN p0 p1 p2 p3) (pickN q0 q1 q2 q3) := by
  constructor
  · intro h i i' j j' hi hi' hj hj' e
    have := h (4 * i + j) (4 * i' + j') (by omega) (by omega) (by rw [sumAt_is hj, sumAt_is hj']; exact e)
    omega
  · intro h k k' hk hk' e
    have := h (k / 4) (k' / 4) (k % 4) (k' % 4) (by omega) (by omega) (by omega) (by omega) e
    omega
/-- the law's last word: the sixteen sums are the whole wheel if and only if the palettes share no power of two -/
theorem apart_iff {t p0 p1 p2 p3 q0 q1 q2 q3 : Nat} {ap : Bool} (ht : t < 8) (h0 : p0 < 16) (h1 : p1 < 16) (h2 : p2 < 16) (h3 : p3 < 16) (g0 : q0 < 16) (g1 : q1 < 16) (g2 : q2 < 16) (g3 : q3 < 16)
    (h : ap = true ↔ apartP (nestW (toldW p0 p1 p2 p3) 4) (nestW (toldW q0 q1 q2 q3) 4)) :
    ap = true ↔ (tellW (fsum (fun i => decide (0 < cntR (rowN (sumAt t p0 p1 p2 p3 q0 q1 q2 q3) 16) i)) 16)).length = 16 := by
  have hp : ∀ i, i < 4 → pickN p0 p1 p2 p3 i < 16 := fun i hi => pickN_lt h0 h1 h2 h3 hi
  have hq : ∀ i, i < 4 → pickN q0 q1 q2 q3 i < 16 := fun i hi => pickN_lt g0 g1 g2 g3 hi
  rw [h, apart_apt hp hq, tell_len16 (fun k => sumAt_lt k), inj_iff]
  exact ⟨apt_inj ht hp hq, inj_apt ht hp hq⟩
theorem due_told {p0 p1 p2 p3 : Nat} (h0 : p0 < 16) (h1 : p1 < 16) (h2 : p2 < 16) (h3 : p3 < 16) : nestW (toldW p0 p1 p2 p3) 4 = nestW (dueW (p0 : Int) (p1 : Int) (p2 : Int) (p3 : Int)) 4 := by
  have e : ∀ a b : Nat, a < 16 → b < 16 → (((a : Int) - (b : Int)).fmod 16) = ((gap a b : Nat) : Int) := fun a b ha hb => by
    rw [Int.fmod_eq_emod_of_nonneg _ (by decide)]; unfold gap; omega
  have w : ∀ i j, i < 4 → j < 4 → toldW p0 p1 p2 p3 i j = dueW (p0 : Int) (p1 : Int) (p2 : Int) (p3 : Int) i j := fun i j hi hj => by
    have pk : ∀ k, k < 4 → pick (p0 : Int) (p1 : Int) (p2 : Int) (p3 : Int) k = ((pickN p0 p1 p2 p3 k : Nat) : Int) := fun k hk => by
      have hc := lt4 k (by assumption)
      rcases hc with rfl | rfl | rfl | rfl <;> rfl
    show dueWord _ = dueWord _
    rw [pk i hi, pk j hj, e _ _ (pickN_lt h0 h1 h2 h3 hi) (pickN_lt h0 h1 h2 h3 hj)]
    rfl
  show [toldW p0 p1 p2 p3 1 0, toldW p0 p1 p2 p3 2 0, toldW p0 p1 p2 p3 2 1, toldW p0 p1 p2 p3 3 0, toldW p0 p1 p2 p3 3 1, toldW p0 p1 p2 p3 3 2] = [dueW p0 p1 p2 p3 1 0, dueW p0 p1 p2 p3 2 0, dueW p0 p1 p2 p3 2 1, dueW p0 p1 p2 p3 3 0, dueW p0 p1 p2 p3 3 1, dueW p0 p1 p2 p3 3 2]
  rw [w 1 0 (by decide) (by decide), w 2 0 (by decide) (by decide), w 2 1 (by decide) (by decide), w 3 0 (by decide) (by decide), w 3 1 (by decide) (by decide), w 3 2 (by decide) (by decide)]
end
section
open LCg
theorem sub_mid {α : Type} {pre mid r : List α} {p : α} (hp : p ∈ pre ++ r) : p ∈ pre ++ (mid ++ r) := by
  rcases List.mem_append.mp hp with h | h
  · exact List.mem_append.mpr (.inl h)
  · exact List.mem_append.mpr (.inr (List.mem_append.mpr (.inr h)))
theorem nat_of {x : Int} (h : 0 ≤ x ∧ x < 16) : ∃ n : Nat, x = (n : Int) ∧ n < 16 := ⟨x.toNat, by omega, by omega⟩
theorem eight_of (x : Int) : ∃ t : Nat, x.fmod 8 = (t : Int) ∧ t < 8 := ⟨(x.fmod 8).toNat, by rw [Int.fmod_eq_emod_of_nonneg _ (by decide)]; omega, by rw [Int.fmod_eq_emod_of_nonneg _ (by decide)]; omega⟩
section
variable {w : World} {mean : ExcName → Option Value} {mg mb : Str → Option Value} {loose : List Str}
  {dp un : Nat} {gd : Option (List Code)} {a : Addr} {ccd : Value} {outer : List Env} {A₀ : Around} {base h₀ : Heap} {L : Addr} {m : Str → Option Value} {s : Shared} {Q : Flow → Shared → Prop} {E : Value → Shared → Prop}
theorem law_all {sl : Addr} {vs : List Value} {ns : List Int} {w8 w7 w6 w5 w4 w3 w2 w1 : Obj} {v8 v7 v6 v5 v4 v3 v2 v1 : Option Value}
  (B : Below A₀ base outer h₀) (F : Fr h₀ L s.heap (fun y => if y = Str.ofString "script" then some (.ref sl) else m y)) (X : (hd.heap_39 w.params).In h₀) (N : News h₀ L s.heap (cellsL L w8 w7 w6 w5 w4 w3 w2 w1)) (T : Top hd.view_39 loose mean mg mb h₀)
  (hdp : dp + 8 < recursionLimit) (hun : un + 128 < cLine) (hl : base.IsList sl vs.toArray) (hi : IntsAre vs ns) (hle : ns.length ≤ 63)
  (d8 : w8.data = .cell v8) (d7 : w7.data = .cell v7) (d6 : w6.data = .cell v6) (d5 : w5.data = .cell v5) (d4 : w4.data = .cell v4) (d3 : w3.data = .cell v3) (d2 : w2.data = .cell v2) (d1 : w1.data = .cell v1)
  (hE : PassesOwn (model Challenge.rw_rl0062_01.row.prog w) (lawA dp un gd L a ccd outer) (lawEnv L a ccd) E)
  (fin : ∀ (h' : Heap) (tk' : Nat) (m' : Str → Option Value), Fr h₀ L h' m' → Q (.ret (.bool true)) { s with heap := h', toks := tk' }) :
   wpAny (model Challenge.rw_rl0062_01.row.prog w) (lawA dp un gd L a ccd outer) (execs (lawTail 0 lawBody) (lawEnv L a ccd)) Q E s := by
  have hun' : un + 64 < cLine := by omega
  refine stage1 B F X N T hdp hun' hl hi hle d8 d7 d6 d5 d4 d3 d2 d1 fun nl al bl ml on oa ob om o3 o2 o1 n0 n1 n2 p0 p1 p2 p3 q0 q1 q2 q3 t1 t2 h1 tk1 is3 ia ib im r1 r2 c1 c2 c3 lnl fal fbl fml F1 N1 => ?_
  obtain ⟨P0, rfl, l0⟩ := nat_of r1.1
  obtain ⟨P1, rfl, l1⟩ := nat_of r1.2.1
  obtain ⟨P2, rfl, l2⟩ := nat_of r1.2.2.1
  obtain ⟨P3, rfl, l3⟩ := nat_of r1.2.2.2
  obtain ⟨Q0, rfl, k0⟩ := nat_of r2.1
  obtain ⟨Q1, rfl, k1⟩ := nat_of r2.2.1
  obtain ⟨Q2, rfl, k2⟩ := nat_of r2.2.2.1
  obtain ⟨Q3, rfl, k3⟩ := nat_of r2.2.2.2
  obtain ⟨t, et, ht⟩ := eight_of n2
  rw [et] at c2
  obtain ⟨y0, y1, y2, nn, rfl⟩ := is3
  obtain ⟨vm, km, rfl, hvm⟩ := im
  refine stage2 B F1 X N1 T hdp hun' d8 d7 d6 d5 d4 c3 c2 c1 ia ib r1 r2 fun fl b0 b1 b2 b3 sl' e0 e1 e2 e3 kf ks x0 x1 x2 x3 u0 u1 u2 u3 h2 tk2 i0 i1 i2 i3 j0 j1 j2 j3 lf lc ls le F2 N2 => ?_
  show wpAny _ _ _ _ _ { s with heap := h2, toks := tk2 }
  refine stage3 B F2 X N2 T hdp hun' d4 c2 ht i0 i1 i2 i3 l0 l1 l2 l3 j0 j1 j2 j3 k0 k1 k2 k3 lf lc ls le lnl fal fbl fml hE fun rl vr kr z1 z2 z3 o4 h3 tk3 hvr c4 lr F3 N3 => ?_
  show wpAny _ _ _ _ _ { s with heap := h3, toks := tk3 }
  refine stage4 (ns := rowN (sumAt t P0 P1 P2 P3 Q0 Q1 Q2 Q3) 16) B F3 X N3 T hdp hun' d5 c4 hvr ?_ ?_ ?_ hvm ?_ lc ls le ?_ ?_ fal fbl fml fun cl vc kc o5 h4 tk4 hvc c5 fcl F4 N4 => ?_
  · rw [rowN_len]; exact Nat.le_refl _
  · exact rowN_lt sumAt_lt 16
  · exact rowN_climbs _ 16
  · exact lf
  · exact lr.1
  · exact lnl
  · show wpAny _ _ _ _ _ { s with heap := h4, toks := tk4 }
    have sub : ∀ {p : Addr × Obj}, p ∈ palL sl' ks e0 e1 e2 e3 u0 u1 u2 u3 (palL fl kf b0 b1 b2 b3 x0 x1 x2 x3 ((ml, PySem.W.listOf vm.toArray km) :: (bl, ob) :: (al, oa) :: cellsL L w8 w7 w6 o5 o4 o3 o2 o1)) → p ∈ ledB L nl al bl ml fl sl' b0 b1 b2 b3 e0 e1 e2 e3 kf ks x0 x1 x2 x3 u0 u1 u2 u3 (PySem.W.listOf #[.int n0 y0, .int n1 y1, .int n2 y2] nn) oa ob (PySem.W.listOf vm.toArray km) w8 w7 w6 o5 o4 o3 o2 o1 :=
      fun {p} hp => sub_mid (pre := palL sl' ks e0 e1 e2 e3 u0 u1 u2 u3 (palL fl kf b0 b1 b2 b3 x0 x1 x2 x3 [(ml, PySem.W.listOf vm.toArray km), (bl, ob), (al, oa)])) (mid := [(nl, PySem.W.listOf #[.int n0 y0, .int n1 y1, .int n2 y2] nn)]) (r := cellsL L w8 w7 w6 o5 o4 o3 o2 o1) (p := p) hp
    have hfl : @LT.lt Nat _ (L + 1 + 1 + 1 + 1 + 1 + 1 + 1 + 1) fl := lf.2.2.2.2.1
    have hb0 : @LT.lt Nat _ (L + 1 + 1 + 1 + 1 + 1 + 1 + 1 + 1) b0 := Nat.lt_trans hfl lc.1
    have hb1 : @LT.lt Nat _ (L + 1 + 1 + 1 + 1 + 1 + 1 + 1 + 1) b1 := Nat.lt_trans hb0 lc.2.1
    have hb2 : @LT.lt Nat _ (L + 1 + 1 + 1 + 1 + 1 + 1 + 1 + 1) b2 := Nat.lt_trans hb1 lc.2.2.1
    have hb3 : @LT.lt Nat _ (L + 1 + 1 + 1 + 1 + 1 + 1 + 1 + 1) b3 := Nat.lt_trans hb2 lc.2.2.2
    have hsl : @LT.lt Nat _ (L + 1 + 1 + 1 + 1 + 1 + 1 + 1 + 1) sl' := Nat.lt_trans hb3 ls
    have he0 : @LT.lt Nat _ (L + 1 + 1 + 1 + 1 + 1 + 1 + 1 + 1) e0 := Nat.lt_trans hsl le.1
    have he1 : @LT.lt Nat _ (L + 1 + 1 + 1 + 1 + 1 + 1 + 1 + 1) e1 := Nat.lt_trans he0 le.2.1
    have he2 : @LT.lt Nat _ (L + 1 + 1 + 1 + 1 + 1 + 1 + 1 + 1) e2 := Nat.lt_trans he1 le.2.2.1
    have he3 : @LT.lt Nat _ (L + 1 + 1 + 1 + 1 + 1 + 1 + 1 + 1) e3 := Nat.lt_trans he2 le.2.2.2
    refine stage5 B F4 X N4 T hdp hun' c5 hvc fun tl vt h5 tk5 ivt ltl F5 N5 => ?_
    show wpAny _ _ _ _ _ { s with heap := h5, toks := tk5 }
    have ftl : OffC L tl := offC_gt (allLt_get ltl (L + 1 + 1 + 1 + 1 + 1 + 1 + 1 + 1, w8) (.tail _ (.tail _ (sub (by simp)))))
    have N5' : News h₀ L h5 (ledC L al bl ml cl tl fl sl' b0 b1 b2 b3 e0 e1 e2 e3 kf ks (PySem.W.listOf vt.toArray 0) (PySem.W.listOf vc.toArray kc) oa ob (PySem.W.listOf vm.toArray km) x0 x1 x2 x3 u0 u1 u2 u3 w8 w7 w6 o5 o4 o3 o2 o1) := fun p hp => by
      refine N5 p ?_
      rcases List.mem_cons.mp hp with h | hp
      · exact h ▸ .head _
      · rcases List.mem_cons.mp hp with h | hp
        · exact h ▸ .tail _ (.head _)
        · exact .tail _ (.tail _ (.tail _ (sub hp)))
    refine stage6 B F5 X N5' T hdp hun' d6 hvm i0 i1 i2 i3 l0 l1 l2 l3 j0 j1 j2 j3 k0 k1 k2 k3 fal fbl fml fcl ftl (offC_gt hfl) (offC_gt hsl) (offC_gt hb0) (offC_gt hb1) (offC_gt hb2) (offC_gt hb3) (offC_gt he0) (offC_gt he1) (offC_gt he2) (offC_gt he3)
      fun wl a1 a2 va vb ka kb kw o6 h6 tk6 iva ivb c6 fwl fa1 fa2 F6 N6 => ?_
    show wpAny _ _ _ _ _ { s with heap := h6, toks := tk6 }
    have N6' : News h₀ L h6 (ledD L al bl cl tl wl a1 a2 ka kb kw va vb (PySem.W.listOf vt.toArray 0) (PySem.W.listOf vc.toArray kc) oa ob w8 w7 o6 o5 o4 o3 o2 o1) := fun p hp =>
      N6 p (sub_mid (pre := [(wl, PySem.W.listOf #[.ref a1, .ref a2] kw), (a2, PySem.W.listOf vb.toArray kb), (a1, PySem.W.listOf va.toArray ka), (tl, PySem.W.listOf vt.toArray 0), (cl, PySem.W.listOf vc.toArray kc)]) (mid := palL sl' ks e0 e1 e2 e3 u0 u1 u2 u3 (palL fl kf b0 b1 b2 b3 x0 x1 x2 x3 [(ml, PySem.W.listOf vm.toArray km)])) (r := (bl, ob) :: (al, oa) :: cellsL L w8 w7 o6 o5 o4 o3 o2 o1) (p := p) hp)
    refine stage7 B F6 X N6' T hdp hun' c6 iva ivb oks_told rfl rfl fun ap h7 tk7 hap F7 N7 => ?_
    show wpAny _ _ _ _ _ { s with heap := h7, toks := tk7 }
    have hap' := apart_iff ht l0 l1 l2 l3 k0 k1 k2 k3 hap
    refine stage8 B F7 X N7 T hdp hun' ivt (Nat.le_trans tell_count (by decide)) hap' fun h8 tk8 F8 N8 => ?_
    show wpAny _ _ _ _ _ { s with heap := h8, toks := tk8 }
    refine stage9 B F8 X N8 T hdp hun' d7 c2 c1 ht ia ib fal fbl fcl ftl fwl fa1 fa2 fun ul vu ku o7 h9 tk9 ivu c7 ful F9 N9 => ?_
    show wpAny _ _ _ _ _ { s with heap := h9, toks := tk9 }
    refine stage10 B F9 X N9 T hdp hun' c7 c6 c5 c1 ia ib hvc ivu iva ivb oks_told oks_told counts_agree (due_told l0 l1 l2 l3) (due_told k0 k1 k2 k3) fun h10 tk10 F10 N10 => ?_
    show wpAny _ _ _ _ _ { s with heap := h10, toks := tk10 }
    exact stage11 (bl := bl) B F10 X N10 T hdp hun d8 c7 ivu ivt oks_tell (tell_sel (fun k => sumAt_lt k)) ful ftl fun h' tk' m' F' => fin h' tk' m' F'
end
end
end Mine
set_option maxRecDepth 100000 in
set_option maxHeartbeats 8000000 in
theorem PySem.Challenge.cw_rl0062_01_holds : PySem.Challenge.rw_rl0062_01.Holds := by
  w_top off
  refine Mine.hd ?_
  w_strict (k_go0)
  rename Below _ _ _ _ => BB
  rename Fr _ _ _ _ => FF
  rename News _ _ _ _ => NN
  rename Top _ _ _ _ _ _ => TT
  rename Frag.In _ _ => XX
  rename IntsAre _ _ => II
  rename (_ : Heap).IsList _ _ => LL
  with_unfolding_all refine' Mine.law_all (dp := callerA.depth + 1) (un := callerA.units + 3) (gd := some []) (outer := []) BB ?F XX ?N TT ?d ?u LL II ?le ?d8 ?d7 ?d6 ?d5 ?d4 ?d3 ?d2 ?d1 ?hE ?fin
  case N => exact NN
  case d8 => assumption
  case d7 => assumption
  case d6 => assumption
  case d5 => assumption
  case d4 => assumption
  case d3 => assumption
  case d2 => assumption
  case d1 => assumption
  case F => exact FF
  case d => decide +kernel
  case u => decide +kernel
  case le => omega
  case hE => passes_own
  case fin =>
    intro h' tk' m' F'
    dsimp only
    wrow_close
