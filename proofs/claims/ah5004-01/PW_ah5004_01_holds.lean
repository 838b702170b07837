import PyProof.Rows.All
import Wide.All
import OpenK.AllK
import Wide.FinOn
import Lean
import PySem.Challenge.RW_ah5004_01
open PySem PySem.W PyProof.Rows
set_option Elab.async false
set_option maxRecDepth 100000
set_option maxHeartbeats 8000000
set_option pp.maxSteps 20000
set_option pp.deepTerms false
set_option pp.deepTerms.threshold 6
set_option linter.unusedVariables false
namespace Mine

def StEq (s s' : PySem.Shared) : Prop := s = s'
theorem StEq.same (s : PySem.Shared) : StEq s s := rfl
theorem wp_st {α : Type} {M : Model} {A : Around} {t : Sem α} {Q : α → Shared → Prop} {E : Value → Shared → Prop} {s s' : Shared} (e : StEq s s') (h : wpAny M A t Q E s') : wpAny M A t Q E s := by
  unfold StEq at e
  exact e ▸ h

end Mine
namespace Mine
open_top hd for PySem.Challenge.rw_ah5004_01

end Mine
namespace Mine
/-- a contract of a def that makes nothing that stays -/
def Cl (D : Nat) (f : Addr) (vs : List Value) (pre : Prop) (R : Tok → Value) : Prop :=
  ∀ (w : World) (p : Program) (loose : List Str) (mean : ExcName → Option Value) (mg mb : Str → Option Value) (news : List (Addr × Obj)) (dp un : Nat) (gd : Option (List Code)) (cn : Str) (cs : Scope) (a : Addr) (ccd : Value) (cl : List (Str × Addr)) (outer : List Env) (A₀ : Around) (base h₀ : Heap) (L : Addr) (m : Str → Option Value) (s : Shared) (Q E : Value → Shared → Prop),
    Below A₀ base outer h₀ → Fr h₀ L s.heap m → (hd.heap_39 w.params).In h₀ → News h₀ L s.heap news → Top p loose mean mg mb h₀ → cs.kind = .function → pre → dp + D < recursionLimit → un + 8 * D < cLine → CbRet h₀ L m news s Q R →
      wpAny (model PySem.Challenge.rw_ah5004_01.row.prog w) (ktrTop dp un gd cn cs L a ccd cl outer) (call (.ref f) vs) Q E s
theorem Cl.use {D : Nat} {f : Addr} {vs : List Value} {pre : Prop} {R : Tok → Value} (h : Cl D f vs pre R) {w : World} {p : Program} {loose : List Str} {mean : ExcName → Option Value} {mg mb : Str → Option Value} {news : List (Addr × Obj)} {dp un : Nat} {gd : Option (List Code)} {cn : Str} {cs : Scope} {a : Addr} {ccd : Value} {cl : List (Str × Addr)} {outer : List Env} {A₀ : Around} {base h₀ : Heap} {L : Addr} {m : Str → Option Value} {s : Shared} {Q E : Value → Shared → Prop}
    (k1 : Below A₀ base outer h₀) (k2 : Fr h₀ L s.heap m) (k3 : (hd.heap_39 w.params).In h₀) (k4 : News h₀ L s.heap news) (k5 : Top p loose mean mg mb h₀) (k6 : cs.kind = .function) (k7 : pre) (k8 : dp + D < recursionLimit) (k9 : un + 8 * D < cLine) (k10 : CbRet h₀ L m news s Q R) :
      wpAny (model PySem.Challenge.rw_ah5004_01.row.prog w) (ktrTop dp un gd cn cs L a ccd cl outer) (call (.ref f) vs) Q E s :=
  h w p loose mean mg mb news dp un gd cn cs a ccd cl outer A₀ base h₀ L m s Q E k1 k2 k3 k4 k5 k6 k7 k8 k9 k10

end Mine
namespace Mine
local macro_rules | `(tactic| k_call_by "use" $g:term) => `(tactic| (k_here; k_dflt (refine' Cl.use $g ?k1 ?k2 ?k3 ?k4 ?k5 ?kK ?kp ?kd ?ku ?kR; (case k1 => k_asm); (case k2 => k_asm); (case k3 => k_asm); (case k4 => k_asm); (case k5 => k_asm); (case kK => first | exact rfl | assumption); (case kp => first | trivial | omega | ((try dsimp only); first | assumption | omega | l_fact)); (case kd => k_room); (case ku => k_units)); intro t9 h9 tk9 F9 N9; (try dsimp only); (try k_extra "fact use"); (try k_fold)))
local macro_rules | `(tactic| k_room) => `(tactic| ((simp only [depth_under_make, depth_under_kw, depth_in1, depth_deeper, depth_caller, recursionLimit] at *); omega))
local macro_rules | `(tactic| k_units) => `(tactic| ((have hcL9 := cLine_is); (simp only [units_in1, units_deeper, Around.mark_units, units_caller, cLine] at *); omega))
local macro_rules | `(tactic| walk_at "InvEndN") => `(tactic| first | k_extra "InvEndN" | k_dflt kst_close)
local macro_rules | `(tactic| walk_at "CompEnd") => `(tactic| k_dflt (refine LCg.CompEnd.intro (by assumption) (by assumption) _ (fun _ hp => hp) (by assumption) (by first | exact True.intro | exact Or.inl (Or.inl (by assumption)) | exact Or.inl (by assumption) | exact Or.inr ⟨_, .head _, rfl, _, rfl⟩ | exact Or.inr ⟨_, by k_mem, rfl, _, rfl⟩) ?_))
local macro_rules | `(tactic| k_call_by "enterC" $_g:term) => `(tactic| (refine' code_defC ?k1 ?k2 ?k3 ?k4 ?k5 ?kA ?kF ?kK ?k6 ?k7 ?k8 ?k9 ?kB ?kD ?_ ?c2 ?c3 ?c4; (case kA => exact rfl); (case kF => exact rfl); (case kK => assumption); (case k1 => k_asm); (case k2 => k_asm); (case k3 => k_asm); (case k4 => k_asm); (case k5 => k_asm); (case k6 => k_is); (case k7 => k_is); (case k8 => k_room); (case k9 => exact BindsTo.of_eq rfl); (case kB => exact rfl); (case kD => decide +kernel); (case c2 => exact rfl); (case c3 => exact rfl); (case c4 => exact rfl); k_whole; intro g' L' h' tk' cells' FG' F' N' Y' B' X' T' l1; have hOc9 := ownOff_cells l1; have kMark9 := kstMark; (try k_lt l1); k_cells Y'; (try simp only [List.cons_append, List.nil_append] at N'); (try dsimp only); (try k_lift B'); (try k_fold)))
local macro_rules | `(tactic| k_call_by "om" $_g:term) => `(tactic| ((repeat (rename (_ ≠ _ ∧ _ ≠ _ ∧ _ ≠ _) ∧ _ => o9; clear o9)); (repeat (rename _ ≠ _ ∧ _ ≠ _ ∧ _ ≠ _ => o9; clear o9)); (repeat (rename @Ne Nat _ _ => o9; clear o9)); omega))
local macro_rules | `(tactic| k_call_by "item" $h:term) => `(tactic| (k_here; (with_reducible rename News _ _ _ _ => myN9); k_dflt (refine' item_list_ints (News.isList (by with_reducible exact myN9) ?hm) $h ?h0 ?h1 ?h2 (fun tI9 => ?hQ)); (case hm => k_dflt k_mem); (case h0 => k_call_by "om" 0); (case h1 => k_call_by "om" 0); (case h2 => k_call_by "om" 0); (try k_fold)))
local macro_rules | `(tactic| k_call_by "enterD" $_g:term) => `(tactic| (refine' code_def ?k1 ?k2 ?k3 ?k4 ?k5 ?kA ?kF ?kK ?k6 ?k7 ?k8 ?k9 ?kB ?_ ?c2 ?c3 ?c4 ?c5; (case kA => exact rfl); (case kF => exact rfl); (case kK => assumption); (case k1 => k_asm); (case k2 => k_asm); (case k3 => k_asm); (case k4 => k_asm); (case k5 => k_asm); (case k6 => k_is); (case k7 => k_is); (case k8 => k_room); (case k9 => first | exact binds_K (by k_in) rfl (by k_is) rfl rfl rfl | exact BindsTo.of_eq rfl); (case c5 => decide); (case kB => exact locs rfl); (case c2 => exact rfl); (case c3 => exact rfl); (case c4 => exact rfl); k_whole; intro g' L' h' FG' F' N' B' X' T'; (try dsimp only); (try k_lift B'); (try k_fold)))
local macro_rules | `(tactic| k_call_by "itemN" $h:term) => `(tactic| (k_here; (with_reducible rename News _ _ _ _ => myN9); k_dflt (refine' item_list_ints_neg (News.isList (by with_reducible exact myN9) ?hm) $h ?h0 ?h1 ?h2 (fun tI9 => ?hQ)); (case hm => k_dflt k_mem); (case h0 => k_call_by "om" 0); (case h1 => k_call_by "om" 0); (case h2 => k_call_by "om" 0); (try k_fold)))

theorem allInt {P : Int → Prop} (N : Nat) (h : ∀ k < N, P (k : Int)) (x : Int) (h0 : 0 ≤ x) (h1 : x < N) : P x := by
  have e : x = (x.toNat : Int) := by omega
  rw [e]; exact h _ (by omega)
theorem log2_63 {y : Int} (h1 : -(2 ^ 63) < y) (h2 : y < 2 ^ 63) : y.natAbs.log2 < 9000 := by
  by_cases h0 : y.natAbs = 0
  · rw [h0]; decide +kernel
  · have : y.natAbs.log2 < 63 := (Nat.log2_lt h0).mpr (by omega)
    omega
theorem floordiv_b {prog : Program} {w : World} {A : Around} {E : Value → Shared → Prop} {s : Shared} {a b : Int} {t u : Tok} {Q : Value → Shared → Prop} (hb : b ≠ 0) (h1 : -(2 ^ 63) < b) (h2 : b < 2 ^ 63)
    (h : Q (.int (a.fdiv b) s.toks) { s with toks := s.toks + 1 }) : wpAny (model prog w) A (binaryOp .FloorDiv (.int a t) (.int b u)) Q E s :=
  floordiv_int hb h (Or.inl (PyProof.noPylong_of_log2 (log2_63 h1 h2)))
theorem sign_is (j : Nat) : (-1 : Int) ^ j = 1 ∨ (-1 : Int) ^ j = -1 := by
  induction j with
  | zero => exact .inl rfl
  | succ j ih => rw [Int.pow_succ]; rcases ih with h | h <;> rw [h] <;> simp
theorem sign_bits (j : Nat) : Builtin.Int.intBits ((-1 : Int) ^ j) ≤ 64 := by
  rcases sign_is j with h | h <;> rw [h] <;> decide
theorem ownOff_cells {L : Addr} {news : List (Addr × Obj)} (h : ∀ p ∈ news, p.1 < L) : OwnOff news [L + 1, L + 1 + 1, L + 1 + 1 + 1, L + 1 + 1 + 1 + 1, L + 1 + 1 + 1 + 1 + 1] := fun p hp b hb => by
  have := h p hp
  intro e
  simp only [List.mem_cons, List.not_mem_nil, or_false] at hb
  have hL : (p.1 : Nat) < L := this
  rcases hb with rfl | rfl | rfl | rfl | rfl
  · exact absurd (e ▸ hL) (Nat.not_lt.mpr (Nat.le_add_right L 1))
  · exact absurd (e ▸ hL) (Nat.not_lt.mpr (Nat.le_add_right L 2))
  · exact absurd (e ▸ hL) (Nat.not_lt.mpr (Nat.le_add_right L 3))
  · exact absurd (e ▸ hL) (Nat.not_lt.mpr (Nat.le_add_right L 4))
  · exact absurd (e ▸ hL) (Nat.not_lt.mpr (Nat.le_add_right L 5))
theorem ints_two {h g : Heap} {L D : Addr} {a b : Int} {t u : Tok} {n : Nat} {r : List (Addr × Obj)} (_N : News h L g ((D, listOf #[.int a t, .int b u] n) :: r)) : IntsAre [.int a t, .int b u] [a, b] := by repeat constructor

end Mine
namespace Mine
local macro_rules | `(tactic| k_call_by "use" $g:term) => `(tactic| (k_here; k_dflt (refine' Cl.use $g ?k1 ?k2 ?k3 ?k4 ?k5 ?kK ?kp ?kd ?ku ?kR; (case k1 => k_asm); (case k2 => k_asm); (case k3 => k_asm); (case k4 => k_asm); (case k5 => k_asm); (case kK => first | exact rfl | assumption); (case kp => first | trivial | omega | ((try dsimp only); first | assumption | omega | l_fact)); (case kd => k_room); (case ku => k_units)); intro t9 h9 tk9 F9 N9; (try dsimp only); (try k_extra "fact use"); (try k_fold)))
local macro_rules | `(tactic| k_room) => `(tactic| ((simp only [depth_under_make, depth_under_kw, depth_in1, depth_deeper, depth_caller, recursionLimit] at *); omega))
local macro_rules | `(tactic| k_units) => `(tactic| ((have hcL9 := cLine_is); (simp only [units_in1, units_deeper, Around.mark_units, units_caller, cLine] at *); omega))
local macro_rules | `(tactic| walk_at "InvEndN") => `(tactic| first | k_extra "InvEndN" | k_dflt kst_close)
local macro_rules | `(tactic| walk_at "CompEnd") => `(tactic| k_dflt (refine LCg.CompEnd.intro (by assumption) (by assumption) _ (fun _ hp => hp) (by assumption) (by first | exact True.intro | exact Or.inl (Or.inl (by assumption)) | exact Or.inl (by assumption) | exact Or.inr ⟨_, .head _, rfl, _, rfl⟩ | exact Or.inr ⟨_, by k_mem, rfl, _, rfl⟩) ?_))
local macro_rules | `(tactic| k_call_by "enterC" $_g:term) => `(tactic| (refine' code_defC ?k1 ?k2 ?k3 ?k4 ?k5 ?kA ?kF ?kK ?k6 ?k7 ?k8 ?k9 ?kB ?kD ?_ ?c2 ?c3 ?c4; (case kA => exact rfl); (case kF => exact rfl); (case kK => assumption); (case k1 => k_asm); (case k2 => k_asm); (case k3 => k_asm); (case k4 => k_asm); (case k5 => k_asm); (case k6 => k_is); (case k7 => k_is); (case k8 => k_room); (case k9 => exact BindsTo.of_eq rfl); (case kB => exact rfl); (case kD => decide +kernel); (case c2 => exact rfl); (case c3 => exact rfl); (case c4 => exact rfl); k_whole; intro g' L' h' tk' cells' FG' F' N' Y' B' X' T' l1; have hOc9 := ownOff_cells l1; have kMark9 := kstMark; (try k_lt l1); k_cells Y'; (try simp only [List.cons_append, List.nil_append] at N'); (try dsimp only); (try k_lift B'); (try k_fold)))
local macro_rules | `(tactic| k_call_by "om" $_g:term) => `(tactic| ((repeat (rename (_ ≠ _ ∧ _ ≠ _ ∧ _ ≠ _) ∧ _ => o9; clear o9)); (repeat (rename _ ≠ _ ∧ _ ≠ _ ∧ _ ≠ _ => o9; clear o9)); (repeat (rename @Ne Nat _ _ => o9; clear o9)); omega))
local macro_rules | `(tactic| k_call_by "item" $h:term) => `(tactic| (k_here; (with_reducible rename News _ _ _ _ => myN9); k_dflt (refine' item_list_ints (News.isList (by with_reducible exact myN9) ?hm) $h ?h0 ?h1 ?h2 (fun tI9 => ?hQ)); (case hm => k_dflt k_mem); (case h0 => k_call_by "om" 0); (case h1 => k_call_by "om" 0); (case h2 => k_call_by "om" 0); (try k_fold)))
local macro_rules | `(tactic| k_call_by "enterD" $_g:term) => `(tactic| (refine' code_def ?k1 ?k2 ?k3 ?k4 ?k5 ?kA ?kF ?kK ?k6 ?k7 ?k8 ?k9 ?kB ?_ ?c2 ?c3 ?c4 ?c5; (case kA => exact rfl); (case kF => exact rfl); (case kK => assumption); (case k1 => k_asm); (case k2 => k_asm); (case k3 => k_asm); (case k4 => k_asm); (case k5 => k_asm); (case k6 => k_is); (case k7 => k_is); (case k8 => k_room); (case k9 => first | exact binds_K (by k_in) rfl (by k_is) rfl rfl rfl | exact BindsTo.of_eq rfl); (case c5 => decide); (case kB => exact locs rfl); (case c2 => exact rfl); (case c3 => exact rfl); (case c4 => exact rfl); k_whole; intro g' L' h' FG' F' N' B' X' T'; (try dsimp only); (try k_lift B'); (try k_fold)))
local macro_rules | `(tactic| k_call_by "itemN" $h:term) => `(tactic| (k_here; (with_reducible rename News _ _ _ _ => myN9); k_dflt (refine' item_list_ints_neg (News.isList (by with_reducible exact myN9) ?hm) $h ?h0 ?h1 ?h2 (fun tI9 => ?hQ)); (case hm => k_dflt k_mem); (case h0 => k_call_by "om" 0); (case h1 => k_call_by "om" 0); (case h2 => k_call_by "om" 0); (try k_fold)))

/-- the ints of a range of any step -/
def stepKs (a c : Int) (n : Nat) : List Int := (List.range n).map fun (i : Nat) => a + (i : Int) * c
theorem stepKs_length (a c : Int) (n : Nat) : (stepKs a c n).length = n := by simp [stepKs]
theorem stepKs_succ (a c : Int) (n : Nat) : stepKs a c (n + 1) = stepKs a c n ++ [a + (n : Int) * c] := by simp [stepKs, List.range_succ]
section
variable {prog : Program} {w : World} {A : Around} {E : Value → Shared → Prop} {s : Shared} {env : Env} {h₀ : Heap} {x : Str} {body : List Stmt} {Q : Flow → Shared → Prop}
/-- a for over a range of any step by a word over its state; behind it the letters are known at the loop's own name, too -/
theorem my_range {σ : Type} {r : Addr} {a b c : Int} {t₁ t₂ t₃ : Tok} {n : Nat} {m₀ : Str → Option Value} (Led : σ → List (Addr × Obj)) (ps : σ → List (Str × Value)) (Facts : σ → Prop) (stored : List Str) (P : List Int → σ → Prop) (z₀ : σ)
    (hh : A.handled = none) (hr : IsRange s.heap r a b c t₁ t₂ t₃) (hs : Builtin.Range.small a b c = true) (hn : Builtin.Range.rangeSize a b c = (n : Int)) (F : Fr h₀ env.locals s.heap m₀) (N : News h₀ env.locals s.heap (Led z₀)) (hf : Facts z₀) (hk : ∀ p ∈ ps z₀, m₀ p.1 = some p.2) (hp : P [] z₀)
    (turn : ∀ (z : σ) (pre : List Int) (k : Int) t (u : Str → Option Value) h tk own, k = a + (pre.length : Int) * c → pre.length < n → OwnOff own ((Led z₀).map (·.1)) → Facts z → P pre z →
      Fr h₀ env.locals h (fun y => if y = x then some (.int k t) else kstB (fun v => if stored.contains v then u v else m₀ v) (ps z) y) → News h₀ env.locals h (Led z ++ own) →
      wpAny (model prog w) A (execs body env) (InvPostN h₀ env.locals (KstS Led ps Facts x stored m₀ P (pre ++ [k])) own ((Led z₀).map (·.1)) { s with heap := h, toks := tk } Q) E { s with heap := h, toks := tk })
    (done : ∀ (z : σ) (pre : List Int) (u : Str → Option Value) h tk, pre.length = n → Facts z → P pre z → (∀ p ∈ ps z, u p.1 = some p.2) → Fr h₀ env.locals h (fun y => if y = x then u y else kstB (fun v => if stored.contains v then u v else m₀ v) (ps z) y) → News h₀ env.locals h (Led z) → Q .next { s with heap := h, toks := tk }) :
    wpAny (model prog w) A (pyIter (.ref r)) (fun it s₂ => LoopAtV prog w A h₀ env x body Q E it s₂) E s := by
  refine wpAny_pyIter_range hr hs ?_
  have W : Walks prog w A s.heap.objs.size [s.heap.objs.size] [s.heap.objs.size] n (fun i v => i < n ∧ ∃ t, v = .int (a + i * c) t)
      (fun i h => IsRangeIter h s.heap.objs.size (a + (i : Nat) * c) ((n : Int) - (i : Nat)) c) := (Walks.range hh _ a c n).bound
  have fresh : ∀ l : List (Addr × Obj), (∀ p ∈ l, s.heap.get? p.1 = some p.2) → ∀ p ∈ l, p.1 ∈ [s.heap.objs.size] → False := fun l hl p hp hI =>
    absurd (Heap.lt_size (hl p hp)) ((List.mem_singleton.mp hI) ▸ Nat.lt_irrefl _)
  refine loop_invN (fun i m nx => KstS Led ps Facts x stored m₀ P (stepKs a c i) m nx) W ?_ ?_ ?_ ?_ (by show IsRangeIter _ _ _ _ _; rw [hn]; simpa using Heap.get?_push_size _ rfl) (F.push _) (fun p hp => ⟨Heap.get?_push_of_some _ (N p hp).1, (N p hp).2⟩) ⟨z₀, rfl, hf, hk, fun _ _ _ _ => rfl, hp⟩ ?_ ?_
  · intro hm
    exact absurd F.ns.lt ((List.mem_singleton.mp hm) ▸ Nat.lt_irrefl _)
  · intro q hq
    rw [List.mem_singleton.mp hq]
    exact next_is_new F
  · intro p hp hI
    exact fresh _ (fun q hq => (N q hq).1) p hp hI
  · intro p hp hI
    exact fresh _ (fun q hq => (N q hq).1) p hp hI
  · rintro i v m₁ nx h tk own hi ⟨_, t, rfl⟩ _ hoff ⟨z, rfl, hf', h1, h2, hp'⟩ F₁ N₁
    rw [stepKs_succ]
    have hl : (stepKs a c i).length = i := stepKs_length a c i
    exact turn z _ _ t m₁ h tk own (by rw [hl]) (by rw [hl]; exact hi) hoff hf' hp' (kst_fr h1 h2 F₁) N₁
  · rintro m₁ nx h tk ⟨z, rfl, hf', h1, h2, hp'⟩ F₁ N₁
    exact done z _ m₁ h tk (stepKs_length a c n) hf' hp' h1 (kst_frOut h1 h2 F₁) N₁
/-- one list of ints, the newest thing made -/
theorem my_rangeL {r D : Addr} {a b c : Int} {t₁ t₂ t₃ : Tok} {n : Nat} {m₀ : Str → Option Value} {rest : List (Addr × Obj)} {vs₀ : List Value} {ns₀ : List Int} {nn₀ : Nat} (stored : List Str) (P : List Int → List Int → Prop)
    (hh : A.handled = none) (hr : IsRange s.heap r a b c t₁ t₂ t₃) (hs : Builtin.Range.small a b c = true) (hn : Builtin.Range.rangeSize a b c = (n : Int)) (F : Fr h₀ env.locals s.heap m₀) (N : News h₀ env.locals s.heap ((D, listOf vs₀.toArray nn₀) :: rest)) (hf : IntsAre vs₀ ns₀) (hp : P [] ns₀)
    (turn : ∀ (vs : List Value) (ns : List Int) (nn : Nat) (pre : List Int) (k : Int) t (u : Str → Option Value) h tk own, k = a + (pre.length : Int) * c → pre.length < n → OwnOff own (D :: rest.map (·.1)) → IntsAre vs ns → P pre ns →
      Fr h₀ env.locals h (fun y => if y = x then some (.int k t) else (if stored.contains y then u y else m₀ y)) → News h₀ env.locals h ((D, listOf vs.toArray nn) :: (rest ++ own)) →
      wpAny (model prog w) A (execs body env) (InvPostN h₀ env.locals (KstS (fun c : List Value × List Int × Nat => (D, listOf c.1.toArray c.2.2) :: rest) (fun _ => []) (fun c => IntsAre c.1 c.2.1) x stored m₀ (fun pre c => P pre c.2.1) (pre ++ [k])) own (D :: rest.map (·.1)) { s with heap := h, toks := tk } Q) E { s with heap := h, toks := tk })
    (done : ∀ (vs : List Value) (ns : List Int) (nn : Nat) (pre : List Int) (u : Str → Option Value) h tk, pre.length = n → IntsAre vs ns → P pre ns → Fr h₀ env.locals h (fun y => if y = x then u y else (if stored.contains y then u y else m₀ y)) → News h₀ env.locals h ((D, listOf vs.toArray nn) :: rest) → Q .next { s with heap := h, toks := tk }) :
    wpAny (model prog w) A (pyIter (.ref r)) (fun it s₂ => LoopAtV prog w A h₀ env x body Q E it s₂) E s :=
  my_range (fun c : List Value × List Int × Nat => (D, listOf c.1.toArray c.2.2) :: rest) (fun _ => []) (fun c => IntsAre c.1 c.2.1) stored (fun pre c => P pre c.2.1) (vs₀, ns₀, nn₀) hh hr hs hn F N hf (fun _ h => nomatch h) hp
    (fun z pre k t u h tk own e l o f p F' N' => turn z.1 z.2.1 z.2.2 pre k t u h tk own e l o f p F' N')
    (fun z pre u h tk e f p _ F' N' => done z.1 z.2.1 z.2.2 pre u h tk e f p F' N')
/-- one name that holds an int -/
theorem my_rangeI {r : Addr} {a b c : Int} {t₁ t₂ t₃ : Tok} {n : Nat} {m₀ : Str → Option Value} {news : List (Addr × Obj)} {i₀ : Int} {k₀ : Tok} (y₀ : Str) (stored : List Str) (P : List Int → Int → Prop)
    (hh : A.handled = none) (hr : IsRange s.heap r a b c t₁ t₂ t₃) (hs : Builtin.Range.small a b c = true) (hn : Builtin.Range.rangeSize a b c = (n : Int)) (F : Fr h₀ env.locals s.heap m₀) (N : News h₀ env.locals s.heap news) (hk : m₀ y₀ = some (.int i₀ k₀)) (hp : P [] i₀)
    (turn : ∀ (i : Int) (ti : Tok) (pre : List Int) (k : Int) t (u : Str → Option Value) h tk own, k = a + (pre.length : Int) * c → pre.length < n → OwnOff own (news.map (·.1)) → P pre i →
      Fr h₀ env.locals h (fun y => if y = x then some (.int k t) else if y = y₀ then some (.int i ti) else (if stored.contains y then u y else m₀ y)) → News h₀ env.locals h (news ++ own) →
      wpAny (model prog w) A (execs body env) (InvPostN h₀ env.locals (KstS (fun _ : Int × Tok => news) (fun c => [(y₀, .int c.1 c.2)]) (fun _ => True) x stored m₀ (fun pre c => P pre c.1) (pre ++ [k])) own (news.map (·.1)) { s with heap := h, toks := tk } Q) E { s with heap := h, toks := tk })
    (done : ∀ (i : Int) (ti : Tok) (pre : List Int) (u : Str → Option Value) h tk, pre.length = n → P pre i → Fr h₀ env.locals h (fun y => if y = x then u y else if y = y₀ then some (.int i ti) else (if stored.contains y then u y else m₀ y)) → News h₀ env.locals h news → Q .next { s with heap := h, toks := tk }) :
    wpAny (model prog w) A (pyIter (.ref r)) (fun it s₂ => LoopAtV prog w A h₀ env x body Q E it s₂) E s :=
  my_range (fun _ : Int × Tok => news) (fun c => [(y₀, .int c.1 c.2)]) (fun _ => True) stored (fun pre c => P pre c.1) (i₀, k₀) hh hr hs hn F N trivial (fun p h => by rcases List.mem_singleton.mp h with rfl; exact hk) hp
    (fun z pre k t u h tk own e l o _ p F' N' => turn z.1 z.2 pre k t u h tk own e l o p F' N')
    (fun z pre u h tk e _ p _ F' N' => done z.1 z.2 pre u h tk e p F' N')
/-- one list of ints (the newest thing made), one name that holds an int, and the loop's own name -/
theorem my_rangeLIX {r D : Addr} {a b c : Int} {t₁ t₂ t₃ : Tok} {n : Nat} {m₀ : Str → Option Value} {rest : List (Addr × Obj)} {vs₀ : List Value} {ns₀ : List Int} {nn₀ : Nat} {i₀ x₀ : Int} {k₀ l₀ : Tok} (y₀ : Str) (stored : List Str) (P : List Int → List Int → Int → Int → Prop)
    (hh : A.handled = none) (hr : IsRange s.heap r a b c t₁ t₂ t₃) (hs : Builtin.Range.small a b c = true) (hn : Builtin.Range.rangeSize a b c = (n : Int)) (F : Fr h₀ env.locals s.heap m₀) (N : News h₀ env.locals s.heap ((D, listOf vs₀.toArray nn₀) :: rest)) (hf : IntsAre vs₀ ns₀) (hk : m₀ y₀ = some (.int i₀ k₀)) (hx : m₀ x = some (.int x₀ l₀)) (hxy : x ≠ y₀) (hp : P [] ns₀ i₀ x₀)
    (turn : ∀ (vs : List Value) (ns : List Int) (nn : Nat) (i : Int) (ti : Tok) (xi : Int) (txi : Tok) (pre : List Int) (k : Int) t (u : Str → Option Value) h tk own, k = a + (pre.length : Int) * c → pre.length < n → OwnOff own (D :: rest.map (·.1)) → IntsAre vs ns → P pre ns i xi →
      Fr h₀ env.locals h (fun y => if y = x then some (.int k t) else if y = y₀ then some (.int i ti) else if y = x then some (.int xi txi) else (if stored.contains y then u y else m₀ y)) → News h₀ env.locals h ((D, listOf vs.toArray nn) :: (rest ++ own)) →
      wpAny (model prog w) A (execs body env) (InvPostN h₀ env.locals (KstS (fun c : List Value × List Int × Nat × Int × Tok × Int × Tok => (D, listOf c.1.toArray c.2.2.1) :: rest) (fun c => [(y₀, .int c.2.2.2.1 c.2.2.2.2.1), (x, .int c.2.2.2.2.2.1 c.2.2.2.2.2.2)]) (fun c => IntsAre c.1 c.2.1) x stored m₀ (fun pre c => P pre c.2.1 c.2.2.2.1 c.2.2.2.2.2.1) (pre ++ [k])) own (D :: rest.map (·.1)) { s with heap := h, toks := tk } Q) E { s with heap := h, toks := tk })
    (done : ∀ (vs : List Value) (ns : List Int) (nn : Nat) (i : Int) (ti : Tok) (xi : Int) (txi : Tok) (pre : List Int) (u : Str → Option Value) h tk, pre.length = n → IntsAre vs ns → P pre ns i xi → Fr h₀ env.locals h (fun y => if y = x then some (.int xi txi) else if y = y₀ then some (.int i ti) else (if stored.contains y then u y else m₀ y)) → News h₀ env.locals h ((D, listOf vs.toArray nn) :: rest) → Q .next { s with heap := h, toks := tk }) :
    wpAny (model prog w) A (pyIter (.ref r)) (fun it s₂ => LoopAtV prog w A h₀ env x body Q E it s₂) E s :=
  my_range (fun c : List Value × List Int × Nat × Int × Tok × Int × Tok => (D, listOf c.1.toArray c.2.2.1) :: rest) (fun c => [(y₀, .int c.2.2.2.1 c.2.2.2.2.1), (x, .int c.2.2.2.2.2.1 c.2.2.2.2.2.2)]) (fun c => IntsAre c.1 c.2.1) stored (fun pre c => P pre c.2.1 c.2.2.2.1 c.2.2.2.2.2.1) (vs₀, ns₀, nn₀, i₀, k₀, x₀, l₀) hh hr hs hn F N hf
    (fun p h => by
      rcases List.mem_cons.mp h with rfl | h
      · exact hk
      · rcases List.mem_singleton.mp h with rfl; exact hx) hp
    (fun z pre k t u h tk own e l o f p F' N' => turn z.1 z.2.1 z.2.2.1 z.2.2.2.1 z.2.2.2.2.1 z.2.2.2.2.2.1 z.2.2.2.2.2.2 pre k t u h tk own e l o f p F' N')
    (fun z pre u h tk e f p hu F' N' => done z.1 z.2.1 z.2.2.1 z.2.2.2.1 z.2.2.2.2.1 z.2.2.2.2.2.1 z.2.2.2.2.2.2 pre u h tk e f p (by
      have e1 : u x = some (.int z.2.2.2.2.2.1 z.2.2.2.2.2.2) := hu (x, _) (.tail _ (.head _))
      have em : (fun y => if y = x then u y else kstB (fun v => if stored.contains v then u v else m₀ v) [(y₀, .int z.2.2.2.1 z.2.2.2.2.1), (x, .int z.2.2.2.2.2.1 z.2.2.2.2.2.2)] y) = fun y => if y = x then some (.int z.2.2.2.2.2.1 z.2.2.2.2.2.2) else if y = y₀ then some (.int z.2.2.2.1 z.2.2.2.2.1) else (if stored.contains y then u y else m₀ y) := by
        funext y
        by_cases hy : y = x
        · rw [if_pos hy, if_pos hy, hy, e1]
        · rw [if_neg hy, if_neg hy]
          show (if y = y₀ then _ else if y = x then _ else _) = _
          rw [if_neg hy]; rfl
      rw [em] at F'
      exact F') N')
end
theorem ownOff_of {D : Addr} : ∀ {l : List (Addr × Obj)}, LCg.Off1 D l → OwnOff l [D]
  | [], _ => fun _ hp => nomatch hp
  | q :: r, h => fun p hp b hb => by
    rcases List.mem_singleton.mp hb with rfl
    rcases List.mem_cons.mp hp with rfl | hp
    · exact h.1
    · exact ownOff_of h.2 p hp _ (.head _)

end Mine
namespace Mine
local macro_rules | `(tactic| k_call_by "use" $g:term) => `(tactic| (k_here; k_dflt (refine' Cl.use $g ?k1 ?k2 ?k3 ?k4 ?k5 ?kK ?kp ?kd ?ku ?kR; (case k1 => k_asm); (case k2 => k_asm); (case k3 => k_asm); (case k4 => k_asm); (case k5 => k_asm); (case kK => first | exact rfl | assumption); (case kp => first | trivial | omega | ((try dsimp only); first | assumption | omega | l_fact)); (case kd => k_room); (case ku => k_units)); intro t9 h9 tk9 F9 N9; (try dsimp only); (try k_extra "fact use"); (try k_fold)))
local macro_rules | `(tactic| k_room) => `(tactic| ((simp only [depth_under_make, depth_under_kw, depth_in1, depth_deeper, depth_caller, recursionLimit] at *); omega))
local macro_rules | `(tactic| k_units) => `(tactic| ((have hcL9 := cLine_is); (simp only [units_in1, units_deeper, Around.mark_units, units_caller, cLine] at *); omega))
local macro_rules | `(tactic| walk_at "InvEndN") => `(tactic| first | k_extra "InvEndN" | k_dflt kst_close)
local macro_rules | `(tactic| walk_at "CompEnd") => `(tactic| k_dflt (refine LCg.CompEnd.intro (by assumption) (by assumption) _ (fun _ hp => hp) (by assumption) (by first | exact True.intro | exact Or.inl (Or.inl (by assumption)) | exact Or.inl (by assumption) | exact Or.inr ⟨_, .head _, rfl, _, rfl⟩ | exact Or.inr ⟨_, by k_mem, rfl, _, rfl⟩) ?_))
local macro_rules | `(tactic| k_call_by "enterC" $_g:term) => `(tactic| (refine' code_defC ?k1 ?k2 ?k3 ?k4 ?k5 ?kA ?kF ?kK ?k6 ?k7 ?k8 ?k9 ?kB ?kD ?_ ?c2 ?c3 ?c4; (case kA => exact rfl); (case kF => exact rfl); (case kK => assumption); (case k1 => k_asm); (case k2 => k_asm); (case k3 => k_asm); (case k4 => k_asm); (case k5 => k_asm); (case k6 => k_is); (case k7 => k_is); (case k8 => k_room); (case k9 => exact BindsTo.of_eq rfl); (case kB => exact rfl); (case kD => decide +kernel); (case c2 => exact rfl); (case c3 => exact rfl); (case c4 => exact rfl); k_whole; intro g' L' h' tk' cells' FG' F' N' Y' B' X' T' l1; have hOc9 := ownOff_cells l1; have kMark9 := kstMark; (try k_lt l1); k_cells Y'; (try simp only [List.cons_append, List.nil_append] at N'); (try dsimp only); (try k_lift B'); (try k_fold)))
local macro_rules | `(tactic| k_call_by "om" $_g:term) => `(tactic| ((repeat (rename (_ ≠ _ ∧ _ ≠ _ ∧ _ ≠ _) ∧ _ => o9; clear o9)); (repeat (rename _ ≠ _ ∧ _ ≠ _ ∧ _ ≠ _ => o9; clear o9)); (repeat (rename @Ne Nat _ _ => o9; clear o9)); omega))
local macro_rules | `(tactic| k_call_by "item" $h:term) => `(tactic| (k_here; (with_reducible rename News _ _ _ _ => myN9); k_dflt (refine' item_list_ints (News.isList (by with_reducible exact myN9) ?hm) $h ?h0 ?h1 ?h2 (fun tI9 => ?hQ)); (case hm => k_dflt k_mem); (case h0 => k_call_by "om" 0); (case h1 => k_call_by "om" 0); (case h2 => k_call_by "om" 0); (try k_fold)))
local macro_rules | `(tactic| k_call_by "enterD" $_g:term) => `(tactic| (refine' code_def ?k1 ?k2 ?k3 ?k4 ?k5 ?kA ?kF ?kK ?k6 ?k7 ?k8 ?k9 ?kB ?_ ?c2 ?c3 ?c4 ?c5; (case kA => exact rfl); (case kF => exact rfl); (case kK => assumption); (case k1 => k_asm); (case k2 => k_asm); (case k3 => k_asm); (case k4 => k_asm); (case k5 => k_asm); (case k6 => k_is); (case k7 => k_is); (case k8 => k_room); (case k9 => first | exact binds_K (by k_in) rfl (by k_is) rfl rfl rfl | exact BindsTo.of_eq rfl); (case c5 => decide); (case kB => exact locs rfl); (case c2 => exact rfl); (case c3 => exact rfl); (case c4 => exact rfl); k_whole; intro g' L' h' FG' F' N' B' X' T'; (try dsimp only); (try k_lift B'); (try k_fold)))
local macro_rules | `(tactic| k_call_by "itemN" $h:term) => `(tactic| (k_here; (with_reducible rename News _ _ _ _ => myN9); k_dflt (refine' item_list_ints_neg (News.isList (by with_reducible exact myN9) ?hm) $h ?h0 ?h1 ?h2 (fun tI9 => ?hQ)); (case hm => k_dflt k_mem); (case h0 => k_call_by "om" 0); (case h1 => k_call_by "om" 0); (case h2 => k_call_by "om" 0); (try k_fold)))

/-- the end of a turn of a loop over a range whose ledger may change its addresses -/
def RgEnd (h₀ : Heap) (L : Addr) (J : (Str → Option Value) → List (Addr × Obj) → Prop) (I : Addr) (oI : Obj) (s₁ s₂ : Shared) : Prop :=
  ∃ h' tk m' nx, s₂ = { s₁ with heap := h', toks := tk } ∧ Fr h₀ L h' m' ∧ News h₀ L h' ((I, oI) :: nx) ∧ (∀ p ∈ nx, p.1 ≠ I) ∧ J m' nx
def RgPost (h₀ : Heap) (L : Addr) (J : (Str → Option Value) → List (Addr × Obj) → Prop) (I : Addr) (oI : Obj) (s₁ : Shared) (Q : Flow → Shared → Prop) (f : Flow) (s₂ : Shared) : Prop :=
  match f with
  | .ret v => Q (.ret v) s₂
  | .brk => Q .next s₂
  | _ => RgEnd h₀ L J I oI s₁ s₂
section
variable {prog : Program} {w : World} {A : Around} {E : Value → Shared → Prop} {s : Shared} {env : Env} {h₀ : Heap} {x : Str} {body : List Stmt} {Q : Flow → Shared → Prop}
theorem my_rangeF {σ : Type} {r : Addr} {a b c : Int} {t₁ t₂ t₃ : Tok} {n : Nat} {m₀ : Str → Option Value} (Led : σ → List (Addr × Obj)) (ps : σ → List (Str × Value)) (Facts : σ → Prop) (stored : List Str) (P : List Int → σ → Prop) (z₀ : σ)
    (hh : A.handled = none) (hr : IsRange s.heap r a b c t₁ t₂ t₃) (hs : Builtin.Range.small a b c = true) (hn : Builtin.Range.rangeSize a b c = (n : Int)) (F : Fr h₀ env.locals s.heap m₀) (N : News h₀ env.locals s.heap (Led z₀)) (hf : Facts z₀) (hk : ∀ p ∈ ps z₀, m₀ p.1 = some p.2) (hp : P [] z₀)
    (turn : ∀ (z : σ) (pre : List Int) (k : Int) t (u : Str → Option Value) h tk I oI, k = a + (pre.length : Int) * c → pre.length < n → (∀ p ∈ Led z, p.1 ≠ I) → Facts z → P pre z →
      Fr h₀ env.locals h (fun y => if y = x then some (.int k t) else kstB (fun v => if stored.contains v then u v else m₀ v) (ps z) y) → News h₀ env.locals h ((I, oI) :: Led z) →
      wpAny (model prog w) A (execs body env) (RgPost h₀ env.locals (KstS Led ps Facts x stored m₀ P (pre ++ [k])) I oI { s with heap := h, toks := tk } Q) E { s with heap := h, toks := tk })
    (done : ∀ (z : σ) (pre : List Int) (u : Str → Option Value) h tk, pre.length = n → Facts z → P pre z → (∀ p ∈ ps z, u p.1 = some p.2) → Fr h₀ env.locals h (fun y => if y = x then u y else kstB (fun v => if stored.contains v then u v else m₀ v) (ps z) y) → News h₀ env.locals h (Led z) → Q .next { s with heap := h, toks := tk }) :
    wpAny (model prog w) A (pyIter (.ref r)) (fun it s₂ => LoopAtV prog w A h₀ env x body Q E it s₂) E s := by
  refine wpAny_pyIter_range hr hs ?_
  have W : Walks prog w A s.heap.objs.size [s.heap.objs.size] [s.heap.objs.size] n (fun i v => i < n ∧ ∃ t, v = .int (a + i * c) t)
      (fun i h => IsRangeIter h s.heap.objs.size (a + (i : Nat) * c) ((n : Int) - (i : Nat)) c) := (Walks.range hh _ a c n).bound
  have hnew := next_is_new F
  refine ⟨_, _, _, n, _, _, m₀, Led z₀, (fun i m nx => KstS Led ps Facts x stored m₀ P (stepKs a c i) m nx), rfl, W, ?_, ?_, ?_, (by show IsRangeIter _ _ _ _ _; rw [hn]; simpa using Heap.get?_push_size _ rfl), F.push _, (fun p hp => ⟨Heap.get?_push_of_some _ (N p hp).1, (N p hp).2⟩), ⟨z₀, rfl, hf, hk, fun _ _ _ _ => rfl, hp⟩, ?_, ?_⟩
  · intro hm
    exact absurd F.ns.lt ((List.mem_singleton.mp hm) ▸ Nat.lt_irrefl _)
  · intro q hq
    rw [List.mem_singleton.mp hq]
    exact hnew
  · intro p hp hI
    exact absurd (Heap.lt_size (N p hp).1) ((List.mem_singleton.mp hI) ▸ Nat.lt_irrefl _)
  · rintro i v m₁ nx s₁ own ⟨hh', tk', rfl⟩ hin ⟨_, t, rfl⟩ ⟨z, rfl, hf', h1, h2, hp'⟩ hoff hown hget hall hst F₁ N₁
    dsimp only
    rw [stepKs_succ]
    have hl : (stepKs a c i).length = i := stepKs_length a c i
    obtain ⟨oI, hoI⟩ : ∃ o, hh'.get? s.heap.objs.size = some o := ⟨_, hst⟩
    have hmem := hall s.heap.objs.size (List.mem_singleton.mpr rfl) hnew oI hoI
    have one : ∀ p ∈ own, p = (s.heap.objs.size, oI) := fun p hp => by
      have h3 : p.1 = s.heap.objs.size := List.mem_singleton.mp (hown p hp)
      have h4 : hh'.get? p.1 = some p.2 := hget p hp
      rw [h3, hoI] at h4
      exact Prod.ext h3 (Option.some.inj h4).symm
    have off : ∀ p ∈ Led z, p.1 ≠ s.heap.objs.size := fun p hp e => hoff p hp (List.mem_singleton.mpr e)
    have N₂ : News h₀ env.locals hh' ((s.heap.objs.size, oI) :: Led z) := fun p hp => by
      rcases List.mem_cons.mp hp with rfl | hp
      · exact N₁ _ (List.mem_append_left _ hmem)
      · exact N₁ _ (List.mem_append_right _ hp)
    refine wpAny_mono (turn z _ _ t m₁ hh' tk' _ _ (by rw [hl]) (by rw [hl]; exact hin) off hf' hp' (kst_fr h1 h2 F₁) N₂) (fun f s₂ p => ?_) fun _ _ e => e
    have fin : RgEnd h₀ env.locals (KstS Led ps Facts x stored m₀ P (stepKs a c i ++ [a + (i : Int) * c])) s.heap.objs.size oI { s with heap := hh', toks := tk' } s₂ →
        LoopStepU h₀ env.locals [s.heap.objs.size] own (KstS Led ps Facts x stored m₀ P (stepKs a c i ++ [a + (i : Int) * c])) { s with heap := hh', toks := tk' } .next s₂ := by
      rintro ⟨h', tk, m', nx', e, F', N', ho, hJ⟩
      refine ⟨rfl, h', tk, m', nx', e, F', fun p hp => ?_, fun p hp hI => ho p hp (List.mem_singleton.mp hI), hJ⟩
      rcases List.mem_append.mp hp with hp | hp
      · rw [one p hp]; exact N' _ (.head _)
      · exact N' _ (.tail _ hp)
    cases f with
    | ret v => exact .ret p
    | brk => exact .brk p
    | next => exact .next (fin p)
    | cont => exact .cont (fin p)
  · rintro h' tk m' nx F' N' _ ⟨z, rfl, hf', h1, h2, hp'⟩
    exact done z _ m' h' tk (stepKs_length a c n) hf' hp' h1 (kst_frOut h1 h2 F') N'
end
section
variable {prog : Program} {w : World} {A : Around} {E : Value → Shared → Prop} {s : Shared} {env : Env} {h₀ : Heap} {x : Str} {body : List Stmt} {Q : Flow → Shared → Prop}
abbrev CellS := Addr × Obj × List Value × List Int × Nat
/-- a cell that holds a list of ints, another one at each turn -/
abbrev cellLed (C : Addr) (rest : List (Addr × Obj)) (z : CellS) : List (Addr × Obj) := (z.1, listOf z.2.2.1.toArray z.2.2.2.2) :: (C, z.2.1) :: rest
abbrev cellFacts (z : CellS) : Prop := z.2.1.data = .cell (some (.ref z.1)) ∧ IntsAre z.2.2.1 z.2.2.2.1
theorem my_rangeCell {r C D₀ : Addr} {oC₀ : Obj} {a b c : Int} {t₁ t₂ t₃ : Tok} {n : Nat} {m₀ : Str → Option Value} {rest : List (Addr × Obj)} {vs₀ : List Value} {ns₀ : List Int} {nn₀ : Nat} (stored : List Str) (P : List Int → List Int → Prop)
    (hh : A.handled = none) (hr : IsRange s.heap r a b c t₁ t₂ t₃) (hs : Builtin.Range.small a b c = true) (hn : Builtin.Range.rangeSize a b c = (n : Int)) (F : Fr h₀ env.locals s.heap m₀) (N : News h₀ env.locals s.heap ((D₀, listOf vs₀.toArray nn₀) :: (C, oC₀) :: rest)) (hc : oC₀.data = .cell (some (.ref D₀))) (hf : IntsAre vs₀ ns₀) (hp : P [] ns₀)
    (turn : ∀ (D : Addr) (oC : Obj) (vs : List Value) (ns : List Int) (nn : Nat) (pre : List Int) (k : Int) t (u : Str → Option Value) h tk I oI, k = a + (pre.length : Int) * c → pre.length < n → D ≠ I → C ≠ I → OwnOff rest [I] → D ≠ C → oC.data = .cell (some (.ref D)) → IntsAre vs ns → P pre ns →
      Fr h₀ env.locals h (fun y => if y = x then some (.int k t) else (if stored.contains y then u y else m₀ y)) → News h₀ env.locals h ((I, oI) :: (D, listOf vs.toArray nn) :: (C, oC) :: rest) →
      wpAny (model prog w) A (execs body env) (RgPost h₀ env.locals (KstS (cellLed C rest) (fun _ => []) cellFacts x stored m₀ (fun pre z => P pre z.2.2.2.1) (pre ++ [k])) I oI { s with heap := h, toks := tk } Q) E { s with heap := h, toks := tk })
    (done : ∀ (D : Addr) (oC : Obj) (vs : List Value) (ns : List Int) (nn : Nat) (pre : List Int) (u : Str → Option Value) h tk, pre.length = n → D ≠ C → oC.data = .cell (some (.ref D)) → IntsAre vs ns → P pre ns → Fr h₀ env.locals h (fun y => if y = x then u y else (if stored.contains y then u y else m₀ y)) → News h₀ env.locals h ((D, listOf vs.toArray nn) :: (C, oC) :: rest) → Q .next { s with heap := h, toks := tk }) :
    wpAny (model prog w) A (pyIter (.ref r)) (fun it s₂ => LoopAtV prog w A h₀ env x body Q E it s₂) E s := by
  have apart : ∀ {h : Heap} {D : Addr} {oC : Obj} {vs : List Value} {nn : Nat} {l : List (Addr × Obj)}, News h₀ env.locals h l → (D, listOf vs.toArray nn) ∈ l → (C, oC) ∈ l → oC.data = .cell (some (.ref D)) → D ≠ C := by
    intro h D oC vs nn l N h1 h2 hd e
    have e1 := (N _ h1).1
    have e2 := (N _ h2).1
    subst e
    rw [e1] at e2
    have := congrArg Obj.data (Option.some.inj e2)
    rw [hd] at this
    cases this
  refine my_rangeF (cellLed C rest) (fun _ => []) cellFacts stored (fun pre z => P pre z.2.2.2.1) (D₀, oC₀, vs₀, ns₀, nn₀) hh hr hs hn F N ⟨hc, hf⟩ (fun _ h => nomatch h) hp ?_ ?_
  · intro z pre k t u h tk I oI e l o f p F' N'
    exact turn z.1 z.2.1 z.2.2.1 z.2.2.2.1 z.2.2.2.2 pre k t u h tk I oI e l (o _ (.head _)) (o _ (.tail _ (.head _))) (fun q hq b hb => by rw [List.mem_singleton.mp hb]; exact o q (.tail _ (.tail _ hq))) (apart N' (.tail _ (.head _)) (.tail _ (.tail _ (.head _))) f.1) f.1 f.2 p F' N'
  · intro z pre u h tk e f p _ F' N'
    exact done z.1 z.2.1 z.2.2.1 z.2.2.2.1 z.2.2.2.2 pre u h tk e (apart N' (.head _) (.tail _ (.head _)) f.1) f.1 f.2 p F' N'
theorem cell_end {C D I L : Addr} {oC oI : Obj} {rest all : List (Addr × Obj)} {vs : List Value} {ns : List Int} {nn : Nat} {stored : List Str} {m₀ m' : Str → Option Value} {P : List Int → List Int → Prop} {pre : List Int} {s₁ : Shared} {h' : Heap} {tk : Nat}
    (F : Fr h₀ L h' m') (N : News h₀ L h' all) (hI : (I, oI) ∈ all) (hD : (D, listOf vs.toArray nn) ∈ all) (hC : (C, oC) ∈ all) (hr : ∀ p ∈ rest, p ∈ all) (nD : D ≠ I) (nC : C ≠ I) (nr : OwnOff rest [I]) (hc : oC.data = .cell (some (.ref D))) (hi : IntsAre vs ns)
    (same : ∀ z, z ≠ x → stored.contains z = false → m' z = m₀ z) (hp : P pre ns) :
    RgEnd h₀ L (KstS (cellLed C rest) (fun _ => []) cellFacts x stored m₀ (fun pre z => P pre z.2.2.2.1) pre) I oI s₁ { s₁ with heap := h', toks := tk } := by
  refine ⟨h', tk, m', cellLed C rest (D, oC, vs, ns, nn), rfl, F, fun p hp => ?_, fun p hp => ?_, (D, oC, vs, ns, nn), rfl, ⟨hc, hi⟩, (fun _ h => nomatch h), fun z hz _ hs => same z hz hs, hp⟩
  · rcases List.mem_cons.mp hp with rfl | hp
    · exact N _ hI
    · rcases List.mem_cons.mp hp with rfl | hp
      · exact N _ hD
      · rcases List.mem_cons.mp hp with rfl | hp
        · exact N _ hC
        · exact N _ (hr p hp)
  · rcases List.mem_cons.mp hp with rfl | hp
    · exact nD
    · rcases List.mem_cons.mp hp with rfl | hp
      · exact nC
      · exact nr p hp I (.head _)
end
theorem news_turn {h g : Heap} {L : Addr} {t a b : Addr × Obj} {r : List (Addr × Obj)} (N : News h L g (t :: a :: b :: r)) : News h L g (a :: b :: t :: r) := fun p hp => N p (by
  simp only [List.mem_cons] at hp ⊢
  rcases hp with h | h | h | h
  · exact .inr (.inl h)
  · exact .inr (.inr (.inl h))
  · exact .inl h
  · exact .inr (.inr (.inr h)))
theorem wp_same {α : Type} {M : Model} {A : Around} {t : Sem α} {Q : α → Shared → Prop} {E : Value → Shared → Prop} {s : Shared} (h : wpAny M A t Q E s) : wpAny M A t Q E s := h

end Mine
namespace Mine
local macro_rules | `(tactic| k_call_by "use" $g:term) => `(tactic| (k_here; k_dflt (refine' Cl.use $g ?k1 ?k2 ?k3 ?k4 ?k5 ?kK ?kp ?kd ?ku ?kR; (case k1 => k_asm); (case k2 => k_asm); (case k3 => k_asm); (case k4 => k_asm); (case k5 => k_asm); (case kK => first | exact rfl | assumption); (case kp => first | trivial | omega | ((try dsimp only); first | assumption | omega | l_fact)); (case kd => k_room); (case ku => k_units)); intro t9 h9 tk9 F9 N9; (try dsimp only); (try k_extra "fact use"); (try k_fold)))
local macro_rules | `(tactic| k_room) => `(tactic| ((simp only [depth_under_make, depth_under_kw, depth_in1, depth_deeper, depth_caller, recursionLimit] at *); omega))
local macro_rules | `(tactic| k_units) => `(tactic| ((have hcL9 := cLine_is); (simp only [units_in1, units_deeper, Around.mark_units, units_caller, cLine] at *); omega))
local macro_rules | `(tactic| walk_at "InvEndN") => `(tactic| first | k_extra "InvEndN" | k_dflt kst_close)
local macro_rules | `(tactic| walk_at "CompEnd") => `(tactic| k_dflt (refine LCg.CompEnd.intro (by assumption) (by assumption) _ (fun _ hp => hp) (by assumption) (by first | exact True.intro | exact Or.inl (Or.inl (by assumption)) | exact Or.inl (by assumption) | exact Or.inr ⟨_, .head _, rfl, _, rfl⟩ | exact Or.inr ⟨_, by k_mem, rfl, _, rfl⟩) ?_))
local macro_rules | `(tactic| k_call_by "enterC" $_g:term) => `(tactic| (refine' code_defC ?k1 ?k2 ?k3 ?k4 ?k5 ?kA ?kF ?kK ?k6 ?k7 ?k8 ?k9 ?kB ?kD ?_ ?c2 ?c3 ?c4; (case kA => exact rfl); (case kF => exact rfl); (case kK => assumption); (case k1 => k_asm); (case k2 => k_asm); (case k3 => k_asm); (case k4 => k_asm); (case k5 => k_asm); (case k6 => k_is); (case k7 => k_is); (case k8 => k_room); (case k9 => exact BindsTo.of_eq rfl); (case kB => exact rfl); (case kD => decide +kernel); (case c2 => exact rfl); (case c3 => exact rfl); (case c4 => exact rfl); k_whole; intro g' L' h' tk' cells' FG' F' N' Y' B' X' T' l1; have hOc9 := ownOff_cells l1; have kMark9 := kstMark; (try k_lt l1); k_cells Y'; (try simp only [List.cons_append, List.nil_append] at N'); (try dsimp only); (try k_lift B'); (try k_fold)))
local macro_rules | `(tactic| k_call_by "om" $_g:term) => `(tactic| ((repeat (rename (_ ≠ _ ∧ _ ≠ _ ∧ _ ≠ _) ∧ _ => o9; clear o9)); (repeat (rename _ ≠ _ ∧ _ ≠ _ ∧ _ ≠ _ => o9; clear o9)); (repeat (rename @Ne Nat _ _ => o9; clear o9)); omega))
local macro_rules | `(tactic| k_call_by "item" $h:term) => `(tactic| (k_here; (with_reducible rename News _ _ _ _ => myN9); k_dflt (refine' item_list_ints (News.isList (by with_reducible exact myN9) ?hm) $h ?h0 ?h1 ?h2 (fun tI9 => ?hQ)); (case hm => k_dflt k_mem); (case h0 => k_call_by "om" 0); (case h1 => k_call_by "om" 0); (case h2 => k_call_by "om" 0); (try k_fold)))
local macro_rules | `(tactic| k_call_by "enterD" $_g:term) => `(tactic| (refine' code_def ?k1 ?k2 ?k3 ?k4 ?k5 ?kA ?kF ?kK ?k6 ?k7 ?k8 ?k9 ?kB ?_ ?c2 ?c3 ?c4 ?c5; (case kA => exact rfl); (case kF => exact rfl); (case kK => assumption); (case k1 => k_asm); (case k2 => k_asm); (case k3 => k_asm); (case k4 => k_asm); (case k5 => k_asm); (case k6 => k_is); (case k7 => k_is); (case k8 => k_room); (case k9 => first | exact binds_K (by k_in) rfl (by k_is) rfl rfl rfl | exact BindsTo.of_eq rfl); (case c5 => decide); (case kB => exact locs rfl); (case c2 => exact rfl); (case c3 => exact rfl); (case c4 => exact rfl); k_whole; intro g' L' h' FG' F' N' B' X' T'; (try dsimp only); (try k_lift B'); (try k_fold)))
local macro_rules | `(tactic| k_call_by "itemN" $h:term) => `(tactic| (k_here; (with_reducible rename News _ _ _ _ => myN9); k_dflt (refine' item_list_ints_neg (News.isList (by with_reducible exact myN9) ?hm) $h ?h0 ?h1 ?h2 (fun tI9 => ?hQ)); (case hm => k_dflt k_mem); (case h0 => k_call_by "om" 0); (case h1 => k_call_by "om" 0); (case h2 => k_call_by "om" 0); (try k_fold)))

def facN : Nat → Int | 0 => 1 | n+1 => facN n * (n + 1 : Nat)
def facV (n : Int) : Int := facN n.toNat
theorem fac_bd : ∀ n < 61, 0 ≤ facN n ∧ facN n < 10 ^ 90 := by decide +kernel
theorem fac_step (p : Int) (l : Nat) (k : Int) (n : Int) (hk : k = 2 + (l : Int)) (hl : l < (n + 1 - 2).toNat) (hn : n ≤ 60) (h : p = facN (l + 1)) : p * k = facN (l + 1 + 1) ∧ 0 ≤ p * k ∧ p * k < 10 ^ 90 := by
  have e : p * k = facN (l + 1 + 1) := by
    rw [h, facN, hk]; congr 1; omega
  have := fac_bd (l + 1 + 1) (by omega)
  rw [e]; exact ⟨rfl, this⟩
theorem fac_end (p n : Int) (l : Nat) (h : p = facN (l + 1)) (hl : l = (n + 1 - 2).toNat) (hn : 0 ≤ n) : p = facV n := by
  unfold facV
  rw [h]
  by_cases h2 : n = 0
  · subst h2; subst hl; rfl
  · congr 1; omega
theorem c_ifac (n : Int) (t : Tok) : Cl 4 85 [.int n t] (0 ≤ n ∧ n ≤ 60) (fun t => .int (facV n) t) := by
  unfold Cl CbRet; k_fill; intros; rename_i hret
  k_with_none
  (k_with "pyIter ref" => k_state (fun pre p => p = facN (pre.length + 1) ∧ 0 ≤ p ∧ p < 10 ^ 90) "p")
  (k_with "state" => first | exact ⟨rfl, by decide, by decide⟩ | (simp only [List.length_append, List.length_cons, List.length_nil]; exact fac_step _ _ _ _ (by assumption) (by assumption) (by omega) (by assumption)))
  (k_with "tree" => exact fac_end _ _ _ (by assumption) (rangeKs_length _ _) (by omega))
  w_top off
  w_strict (refine wpAny_call ?_; cell_enter; k_steps; all_goals (cb_end hret))

end Mine
namespace Mine
local macro_rules | `(tactic| k_call_by "use" $g:term) => `(tactic| (k_here; k_dflt (refine' Cl.use $g ?k1 ?k2 ?k3 ?k4 ?k5 ?kK ?kp ?kd ?ku ?kR; (case k1 => k_asm); (case k2 => k_asm); (case k3 => k_asm); (case k4 => k_asm); (case k5 => k_asm); (case kK => first | exact rfl | assumption); (case kp => first | trivial | omega | ((try dsimp only); first | assumption | omega | l_fact)); (case kd => k_room); (case ku => k_units)); intro t9 h9 tk9 F9 N9; (try dsimp only); (try k_extra "fact use"); (try k_fold)))
local macro_rules | `(tactic| k_room) => `(tactic| ((simp only [depth_under_make, depth_under_kw, depth_in1, depth_deeper, depth_caller, recursionLimit] at *); omega))
local macro_rules | `(tactic| k_units) => `(tactic| ((have hcL9 := cLine_is); (simp only [units_in1, units_deeper, Around.mark_units, units_caller, cLine] at *); omega))
local macro_rules | `(tactic| walk_at "InvEndN") => `(tactic| first | k_extra "InvEndN" | k_dflt kst_close)
local macro_rules | `(tactic| walk_at "CompEnd") => `(tactic| k_dflt (refine LCg.CompEnd.intro (by assumption) (by assumption) _ (fun _ hp => hp) (by assumption) (by first | exact True.intro | exact Or.inl (Or.inl (by assumption)) | exact Or.inl (by assumption) | exact Or.inr ⟨_, .head _, rfl, _, rfl⟩ | exact Or.inr ⟨_, by k_mem, rfl, _, rfl⟩) ?_))
local macro_rules | `(tactic| k_call_by "enterC" $_g:term) => `(tactic| (refine' code_defC ?k1 ?k2 ?k3 ?k4 ?k5 ?kA ?kF ?kK ?k6 ?k7 ?k8 ?k9 ?kB ?kD ?_ ?c2 ?c3 ?c4; (case kA => exact rfl); (case kF => exact rfl); (case kK => assumption); (case k1 => k_asm); (case k2 => k_asm); (case k3 => k_asm); (case k4 => k_asm); (case k5 => k_asm); (case k6 => k_is); (case k7 => k_is); (case k8 => k_room); (case k9 => exact BindsTo.of_eq rfl); (case kB => exact rfl); (case kD => decide +kernel); (case c2 => exact rfl); (case c3 => exact rfl); (case c4 => exact rfl); k_whole; intro g' L' h' tk' cells' FG' F' N' Y' B' X' T' l1; have hOc9 := ownOff_cells l1; have kMark9 := kstMark; (try k_lt l1); k_cells Y'; (try simp only [List.cons_append, List.nil_append] at N'); (try dsimp only); (try k_lift B'); (try k_fold)))
local macro_rules | `(tactic| k_call_by "om" $_g:term) => `(tactic| ((repeat (rename (_ ≠ _ ∧ _ ≠ _ ∧ _ ≠ _) ∧ _ => o9; clear o9)); (repeat (rename _ ≠ _ ∧ _ ≠ _ ∧ _ ≠ _ => o9; clear o9)); (repeat (rename @Ne Nat _ _ => o9; clear o9)); omega))
local macro_rules | `(tactic| k_call_by "item" $h:term) => `(tactic| (k_here; (with_reducible rename News _ _ _ _ => myN9); k_dflt (refine' item_list_ints (News.isList (by with_reducible exact myN9) ?hm) $h ?h0 ?h1 ?h2 (fun tI9 => ?hQ)); (case hm => k_dflt k_mem); (case h0 => k_call_by "om" 0); (case h1 => k_call_by "om" 0); (case h2 => k_call_by "om" 0); (try k_fold)))
local macro_rules | `(tactic| k_call_by "enterD" $_g:term) => `(tactic| (refine' code_def ?k1 ?k2 ?k3 ?k4 ?k5 ?kA ?kF ?kK ?k6 ?k7 ?k8 ?k9 ?kB ?_ ?c2 ?c3 ?c4 ?c5; (case kA => exact rfl); (case kF => exact rfl); (case kK => assumption); (case k1 => k_asm); (case k2 => k_asm); (case k3 => k_asm); (case k4 => k_asm); (case k5 => k_asm); (case k6 => k_is); (case k7 => k_is); (case k8 => k_room); (case k9 => first | exact binds_K (by k_in) rfl (by k_is) rfl rfl rfl | exact BindsTo.of_eq rfl); (case c5 => decide); (case kB => exact locs rfl); (case c2 => exact rfl); (case c3 => exact rfl); (case c4 => exact rfl); k_whole; intro g' L' h' FG' F' N' B' X' T'; (try dsimp only); (try k_lift B'); (try k_fold)))
local macro_rules | `(tactic| k_call_by "itemN" $h:term) => `(tactic| (k_here; (with_reducible rename News _ _ _ _ => myN9); k_dflt (refine' item_list_ints_neg (News.isList (by with_reducible exact myN9) ?hm) $h ?h0 ?h1 ?h2 (fun tI9 => ?hQ)); (case hm => k_dflt k_mem); (case h0 => k_call_by "om" 0); (case h1 => k_call_by "om" 0); (case h2 => k_call_by "om" 0); (try k_fold)))

/-- ifac2: the product of the numbers of n's own parity from n down -/
def fac2N : Nat → Int | 0 => 1 | 1 => 1 | n+2 => fac2N n * (n + 2 : Nat)
def fac2V (n : Int) : Int := fac2N n.toNat
theorem fac2_bd : ∀ n < 61, 0 ≤ fac2N n ∧ fac2N n < 10 ^ 90 := by decide +kernel
theorem fac2_start (n : Int) (h0 : 0 ≤ n) : 1 = fac2N (Builtin.bitAnd n 1).toNat ∧ (0 : Int) ≤ 1 ∧ (1 : Int) < 10 ^ 90 ∧ 0 ≤ Builtin.bitAnd n 1 ∧ Builtin.bitAnd n 1 ≤ n ∧ Builtin.bitAnd n 1 % 2 = n % 2 := by
  rw [bitAnd_m1]
  refine ⟨?_, by decide, by decide, by omega, by omega, by omega⟩
  rcases (show n % 2 = 0 ∨ n % 2 = 1 by omega) with h | h <;> rw [h] <;> rfl
theorem fac2_turn (n p k : Int) (hn : n ≤ 60) (h : p = fac2N k.toNat) (h1 : 0 ≤ k) (h2 : k < n) (h3 : k % 2 = n % 2) :
    p * (k + 2) = fac2N (k + 2).toNat ∧ 0 ≤ p * (k + 2) ∧ p * (k + 2) < 10 ^ 90 ∧ 0 ≤ k + 2 ∧ k + 2 ≤ n ∧ (k + 2) % 2 = n % 2 := by
  have e : p * (k + 2) = fac2N (k + 2).toNat := by
    rw [show (k + 2).toNat = k.toNat + 2 by omega, fac2N, h]; congr 1; omega
  have := fac2_bd (k + 2).toNat (by omega)
  rw [← e] at this
  exact ⟨e, this.1, this.2, by omega, by omega, by omega⟩
theorem c_ifac2 (n : Int) (t : Tok) : Cl 4 78 [.int n t] (0 ≤ n ∧ n ≤ 60) (fun t => .int (fac2V n) t) := by
  unfold Cl CbRet; k_fill; intros; rename_i hret
  k_with_none
  (k_with "exec While Compare cons nil" => k_while_given ["n"] (fun n _ p k => p = fac2N k.toNat ∧ 0 ≤ p ∧ p < 10 ^ 90 ∧ 0 ≤ k ∧ k ≤ n ∧ k % 2 = n % 2) (fun n _ p k => (n - k).toNat) "p" "k")
  (k_with "state" => first | exact fac2_start _ (by omega) | exact fac2_turn _ _ _ (by omega) (by assumption) (by omega) (by omega) (by omega))
  (k_with "tree" => (rename _ = fac2N _ => h; refine h.trans (congrArg (fun x : Int => fac2N x.toNat) ?_); omega))
  w_top off
  w_strict (refine wpAny_call ?_; cell_enter; k_steps; all_goals (cb_end hret))

end Mine
namespace Mine
local macro_rules | `(tactic| k_call_by "use" $g:term) => `(tactic| (k_here; k_dflt (refine' Cl.use $g ?k1 ?k2 ?k3 ?k4 ?k5 ?kK ?kp ?kd ?ku ?kR; (case k1 => k_asm); (case k2 => k_asm); (case k3 => k_asm); (case k4 => k_asm); (case k5 => k_asm); (case kK => first | exact rfl | assumption); (case kp => first | trivial | omega | ((try dsimp only); first | assumption | omega | l_fact)); (case kd => k_room); (case ku => k_units)); intro t9 h9 tk9 F9 N9; (try dsimp only); (try k_extra "fact use"); (try k_fold)))
local macro_rules | `(tactic| k_room) => `(tactic| ((simp only [depth_under_make, depth_under_kw, depth_in1, depth_deeper, depth_caller, recursionLimit] at *); omega))
local macro_rules | `(tactic| k_units) => `(tactic| ((have hcL9 := cLine_is); (simp only [units_in1, units_deeper, Around.mark_units, units_caller, cLine] at *); omega))
local macro_rules | `(tactic| walk_at "InvEndN") => `(tactic| first | k_extra "InvEndN" | k_dflt kst_close)
local macro_rules | `(tactic| walk_at "CompEnd") => `(tactic| k_dflt (refine LCg.CompEnd.intro (by assumption) (by assumption) _ (fun _ hp => hp) (by assumption) (by first | exact True.intro | exact Or.inl (Or.inl (by assumption)) | exact Or.inl (by assumption) | exact Or.inr ⟨_, .head _, rfl, _, rfl⟩ | exact Or.inr ⟨_, by k_mem, rfl, _, rfl⟩) ?_))
local macro_rules | `(tactic| k_call_by "enterC" $_g:term) => `(tactic| (refine' code_defC ?k1 ?k2 ?k3 ?k4 ?k5 ?kA ?kF ?kK ?k6 ?k7 ?k8 ?k9 ?kB ?kD ?_ ?c2 ?c3 ?c4; (case kA => exact rfl); (case kF => exact rfl); (case kK => assumption); (case k1 => k_asm); (case k2 => k_asm); (case k3 => k_asm); (case k4 => k_asm); (case k5 => k_asm); (case k6 => k_is); (case k7 => k_is); (case k8 => k_room); (case k9 => exact BindsTo.of_eq rfl); (case kB => exact rfl); (case kD => decide +kernel); (case c2 => exact rfl); (case c3 => exact rfl); (case c4 => exact rfl); k_whole; intro g' L' h' tk' cells' FG' F' N' Y' B' X' T' l1; have hOc9 := ownOff_cells l1; have kMark9 := kstMark; (try k_lt l1); k_cells Y'; (try simp only [List.cons_append, List.nil_append] at N'); (try dsimp only); (try k_lift B'); (try k_fold)))
local macro_rules | `(tactic| k_call_by "om" $_g:term) => `(tactic| ((repeat (rename (_ ≠ _ ∧ _ ≠ _ ∧ _ ≠ _) ∧ _ => o9; clear o9)); (repeat (rename _ ≠ _ ∧ _ ≠ _ ∧ _ ≠ _ => o9; clear o9)); (repeat (rename @Ne Nat _ _ => o9; clear o9)); omega))
local macro_rules | `(tactic| k_call_by "item" $h:term) => `(tactic| (k_here; (with_reducible rename News _ _ _ _ => myN9); k_dflt (refine' item_list_ints (News.isList (by with_reducible exact myN9) ?hm) $h ?h0 ?h1 ?h2 (fun tI9 => ?hQ)); (case hm => k_dflt k_mem); (case h0 => k_call_by "om" 0); (case h1 => k_call_by "om" 0); (case h2 => k_call_by "om" 0); (try k_fold)))
local macro_rules | `(tactic| k_call_by "enterD" $_g:term) => `(tactic| (refine' code_def ?k1 ?k2 ?k3 ?k4 ?k5 ?kA ?kF ?kK ?k6 ?k7 ?k8 ?k9 ?kB ?_ ?c2 ?c3 ?c4 ?c5; (case kA => exact rfl); (case kF => exact rfl); (case kK => assumption); (case k1 => k_asm); (case k2 => k_asm); (case k3 => k_asm); (case k4 => k_asm); (case k5 => k_asm); (case k6 => k_is); (case k7 => k_is); (case k8 => k_room); (case k9 => first | exact binds_K (by k_in) rfl (by k_is) rfl rfl rfl | exact BindsTo.of_eq rfl); (case c5 => decide); (case kB => exact locs rfl); (case c2 => exact rfl); (case c3 => exact rfl); (case c4 => exact rfl); k_whole; intro g' L' h' FG' F' N' B' X' T'; (try dsimp only); (try k_lift B'); (try k_fold)))
local macro_rules | `(tactic| k_call_by "itemN" $h:term) => `(tactic| (k_here; (with_reducible rename News _ _ _ _ => myN9); k_dflt (refine' item_list_ints_neg (News.isList (by with_reducible exact myN9) ?hm) $h ?h0 ?h1 ?h2 (fun tI9 => ?hQ)); (case hm => k_dflt k_mem); (case h0 => k_call_by "om" 0); (case h1 => k_call_by "om" 0); (case h2 => k_call_by "om" 0); (try k_fold)))

def trailV (n : Int) : Int := if n = 0 then 0 else (Builtin.Int.intBits (Builtin.bitAnd n (-n)) : Int) - 1
theorem c_trailing (n : Int) (t : Tok) : Cl 4 43 [.int n t] True (fun t => .int (trailV n) t) := by
  unfold Cl CbRet; k_fill; intros; rename_i hret
  k_with_none
  (k_with "tree" => first | exact (if_neg (by assumption)).symm | exact (if_pos (by omega)).symm)
  w_top off
  w_strict (refine wpAny_call ?_; cell_enter; k_steps; all_goals (cb_end hret))
def rshV (x n : Int) : Int := if 0 ≤ n then x.fdiv (2 ^ n.toNat) else x * 2 ^ (-n).toNat
theorem c_rshift (x n : Int) (t u : Tok) : Cl 4 29 [.int x t, .int n u] (-2 ^ 63 < x ∧ x < 2 ^ 63 ∧ -70 < n ∧ n < 70) (fun t => .int (rshV x n) t) := by
  unfold Cl CbRet; k_fill; intros; rename_i hret
  k_with_none
  (k_with "tree" => first | exact (if_neg (by omega)).symm | exact (if_pos (by omega)).symm)
  w_top off
  w_strict (refine wpAny_call ?_; cell_enter; k_steps; all_goals (cb_end hret))
def lshV (x n : Int) : Int := if 0 ≤ n then x * 2 ^ n.toNat else x.fdiv (2 ^ (-n).toNat)
theorem c_lshift (x n : Int) (t u : Tok) : Cl 4 36 [.int x t, .int n u] (-2 ^ 63 < x ∧ x < 2 ^ 63 ∧ -70 < n ∧ n < 70) (fun t => .int (lshV x n) t) := by
  unfold Cl CbRet; k_fill; intros; rename_i hret
  k_with_none
  (k_with "tree" => first | exact (if_neg (by omega)).symm | exact (if_pos (by omega)).symm)
  w_top off
  w_strict (refine wpAny_call ?_; cell_enter; k_steps; all_goals (cb_end hret))

end Mine
namespace Mine
local macro_rules | `(tactic| k_call_by "use" $g:term) => `(tactic| (k_here; k_dflt (refine' Cl.use $g ?k1 ?k2 ?k3 ?k4 ?k5 ?kK ?kp ?kd ?ku ?kR; (case k1 => k_asm); (case k2 => k_asm); (case k3 => k_asm); (case k4 => k_asm); (case k5 => k_asm); (case kK => first | exact rfl | assumption); (case kp => first | trivial | omega | ((try dsimp only); first | assumption | omega | l_fact)); (case kd => k_room); (case ku => k_units)); intro t9 h9 tk9 F9 N9; (try dsimp only); (try k_extra "fact use"); (try k_fold)))
local macro_rules | `(tactic| k_room) => `(tactic| ((simp only [depth_under_make, depth_under_kw, depth_in1, depth_deeper, depth_caller, recursionLimit] at *); omega))
local macro_rules | `(tactic| k_units) => `(tactic| ((have hcL9 := cLine_is); (simp only [units_in1, units_deeper, Around.mark_units, units_caller, cLine] at *); omega))
local macro_rules | `(tactic| walk_at "InvEndN") => `(tactic| first | k_extra "InvEndN" | k_dflt kst_close)
local macro_rules | `(tactic| walk_at "CompEnd") => `(tactic| k_dflt (refine LCg.CompEnd.intro (by assumption) (by assumption) _ (fun _ hp => hp) (by assumption) (by first | exact True.intro | exact Or.inl (Or.inl (by assumption)) | exact Or.inl (by assumption) | exact Or.inr ⟨_, .head _, rfl, _, rfl⟩ | exact Or.inr ⟨_, by k_mem, rfl, _, rfl⟩) ?_))
local macro_rules | `(tactic| k_call_by "enterC" $_g:term) => `(tactic| (refine' code_defC ?k1 ?k2 ?k3 ?k4 ?k5 ?kA ?kF ?kK ?k6 ?k7 ?k8 ?k9 ?kB ?kD ?_ ?c2 ?c3 ?c4; (case kA => exact rfl); (case kF => exact rfl); (case kK => assumption); (case k1 => k_asm); (case k2 => k_asm); (case k3 => k_asm); (case k4 => k_asm); (case k5 => k_asm); (case k6 => k_is); (case k7 => k_is); (case k8 => k_room); (case k9 => exact BindsTo.of_eq rfl); (case kB => exact rfl); (case kD => decide +kernel); (case c2 => exact rfl); (case c3 => exact rfl); (case c4 => exact rfl); k_whole; intro g' L' h' tk' cells' FG' F' N' Y' B' X' T' l1; have hOc9 := ownOff_cells l1; have kMark9 := kstMark; (try k_lt l1); k_cells Y'; (try simp only [List.cons_append, List.nil_append] at N'); (try dsimp only); (try k_lift B'); (try k_fold)))
local macro_rules | `(tactic| k_call_by "om" $_g:term) => `(tactic| ((repeat (rename (_ ≠ _ ∧ _ ≠ _ ∧ _ ≠ _) ∧ _ => o9; clear o9)); (repeat (rename _ ≠ _ ∧ _ ≠ _ ∧ _ ≠ _ => o9; clear o9)); (repeat (rename @Ne Nat _ _ => o9; clear o9)); omega))
local macro_rules | `(tactic| k_call_by "item" $h:term) => `(tactic| (k_here; (with_reducible rename News _ _ _ _ => myN9); k_dflt (refine' item_list_ints (News.isList (by with_reducible exact myN9) ?hm) $h ?h0 ?h1 ?h2 (fun tI9 => ?hQ)); (case hm => k_dflt k_mem); (case h0 => k_call_by "om" 0); (case h1 => k_call_by "om" 0); (case h2 => k_call_by "om" 0); (try k_fold)))
local macro_rules | `(tactic| k_call_by "enterD" $_g:term) => `(tactic| (refine' code_def ?k1 ?k2 ?k3 ?k4 ?k5 ?kA ?kF ?kK ?k6 ?k7 ?k8 ?k9 ?kB ?_ ?c2 ?c3 ?c4 ?c5; (case kA => exact rfl); (case kF => exact rfl); (case kK => assumption); (case k1 => k_asm); (case k2 => k_asm); (case k3 => k_asm); (case k4 => k_asm); (case k5 => k_asm); (case k6 => k_is); (case k7 => k_is); (case k8 => k_room); (case k9 => first | exact binds_K (by k_in) rfl (by k_is) rfl rfl rfl | exact BindsTo.of_eq rfl); (case c5 => decide); (case kB => exact locs rfl); (case c2 => exact rfl); (case c3 => exact rfl); (case c4 => exact rfl); k_whole; intro g' L' h' FG' F' N' B' X' T'; (try dsimp only); (try k_lift B'); (try k_fold)))
local macro_rules | `(tactic| k_call_by "itemN" $h:term) => `(tactic| (k_here; (with_reducible rename News _ _ _ _ => myN9); k_dflt (refine' item_list_ints_neg (News.isList (by with_reducible exact myN9) ?hm) $h ?h0 ?h1 ?h2 (fun tI9 => ?hQ)); (case hm => k_dflt k_mem); (case h0 => k_call_by "om" 0); (case h1 => k_call_by "om" 0); (case h2 => k_call_by "om" 0); (try k_fold)))

def isqN (x : Nat) : Nat := (List.range 12).countP (fun r => (r + 1) * (r + 1) ≤ x)
def isqV (x : Int) : Int := isqN x.toNat
abbrev isqA (x : Int) : Int := (((Builtin.Int.intBits x : Nat) : Int) + 1).fdiv (2 ^ Int.toNat 1)
theorem isq_amt (x : Int) (h0 : 0 ≤ x) (h1 : x ≤ 120) : (0 ≤ isqA x ∧ isqA x ≤ 1000000) ∧ 1 ≤ 1 * (2 : Int) ^ (isqA x).toNat ∧ 1 * (2 : Int) ^ (isqA x).toNat ≤ 16 ∧ x < (1 * (2 : Int) ^ (isqA x).toNat + 1) * (1 * (2 : Int) ^ (isqA x).toNat + 1) :=
  allInt (P := fun x => (0 ≤ isqA x ∧ isqA x ≤ 1000000) ∧ 1 ≤ 1 * (2 : Int) ^ (isqA x).toNat ∧ 1 * (2 : Int) ^ (isqA x).toNat ≤ 16 ∧ x < (1 * (2 : Int) ^ (isqA x).toNat + 1) * (1 * (2 : Int) ^ (isqA x).toNat + 1)) 121 (by decide +kernel) x h0 (by omega)
abbrev isqY (x r : Int) : Int := (r + x.fdiv r).fdiv (2 ^ Int.toNat 1)
theorem isq_all : ∀ x : Nat, x < 121 → ∀ r : Nat, r < 17 → (decide (1 ≤ r ∧ (x : Int) < ((r : Int) + 1) * ((r : Int) + 1) ∧ 1 ≤ x) == false || (decide (1 ≤ isqY x r ∧ isqY x r ≤ 16 ∧ (x : Int) < (isqY x r + 1) * (isqY x r + 1)) && (decide ((r : Int) ≤ isqY x r) == false || decide ((r : Int) = isqV x)))) = true := by decide +kernel
theorem isq_turn (x r : Int) (h0 : 1 ≤ x) (h1 : x ≤ 120) (h2 : 1 ≤ r) (h3 : r ≤ 16) (h4 : x < (r + 1) * (r + 1)) :
    (1 ≤ isqY x r ∧ isqY x r ≤ 16 ∧ x < (isqY x r + 1) * (isqY x r + 1)) ∧ (r ≤ isqY x r → r = isqV x) := by
  have k := isq_all x.toNat (by omega) r.toNat (by omega)
  have ex : ((x.toNat : Nat) : Int) = x := by omega
  have er : ((r.toNat : Nat) : Int) = r := by omega
  rw [ex, er] at k
  have h5 : 1 ≤ r.toNat := by omega
  have h6 : 1 ≤ x.toNat := by omega
  simp only [h5, h4, h6, true_and, and_self, decide_true, Bool.or_eq_true, Bool.and_eq_true, decide_eq_true_eq, beq_iff_eq, Bool.true_eq_false, false_or, decide_eq_false_iff_not] at k
  exact ⟨k.1, fun h => k.2.resolve_left fun q => q h⟩
theorem c_isqs (x : Int) (t : Tok) : Cl 4 50 [.int x t] (0 ≤ x ∧ x ≤ 120) (fun t => .int (isqV x) t) := by
  unfold Cl CbRet; k_fill; intros; rename_i hret
  k_with_none
  (k_with "exec While Constant cons nil" => k_while_given ["x"] (fun x _ r => 1 ≤ r ∧ r ≤ 16 ∧ x < (r + 1) * (r + 1)) (fun x _ r => r.toNat) "r")
  (k_with "binaryOp LShift int int" => (k_here; have hs := (isq_amt x (by omega) (by omega)).1; refine lshift_int_small hs.1 hs.2 (by decide) ?_))
  (k_with "state" => first | exact (isq_amt x (by omega) (by omega)).2 | exact (isq_turn _ _ (by omega) (by omega) (by assumption) (by assumption) (by assumption)).1)
  (k_with "tree" => first | exact (isq_turn _ _ (by omega) (by omega) (by assumption) (by assumption) (by assumption)).2 (by assumption) | (subst x; decide))
  w_top off
  w_strict (refine wpAny_call ?_; cell_enter; k_steps; all_goals (cb_end hret))
theorem isq_bd (x : Int) (h0 : 0 ≤ x) (h1 : x ≤ 120) : 0 ≤ isqV x ∧ isqV x ≤ 10 :=
  allInt (P := fun x => 0 ≤ isqV x ∧ isqV x ≤ 10) 121 (by decide +kernel) x h0 (by omega)
theorem c_isqrt (x : Int) (t : Tok) : Cl 10 64 [.int x t] (0 ≤ x ∧ x ≤ 120) (fun t => .int (isqV x) t) := by
  unfold Cl CbRet; k_fill; intros; rename_i hret
  k_with_none
  (k_with "call ref" => k_call_by "use" (c_isqs _ _))
  (k_with "fact use" => have hf9 := isq_bd x (by omega) (by omega))
  w_top off
  w_strict (refine wpAny_call ?_; cell_enter; k_steps; all_goals (cb_end hret))

end Mine
namespace Mine
local macro_rules | `(tactic| k_call_by "use" $g:term) => `(tactic| (k_here; k_dflt (refine' Cl.use $g ?k1 ?k2 ?k3 ?k4 ?k5 ?kK ?kp ?kd ?ku ?kR; (case k1 => k_asm); (case k2 => k_asm); (case k3 => k_asm); (case k4 => k_asm); (case k5 => k_asm); (case kK => first | exact rfl | assumption); (case kp => first | trivial | omega | ((try dsimp only); first | assumption | omega | l_fact)); (case kd => k_room); (case ku => k_units)); intro t9 h9 tk9 F9 N9; (try dsimp only); (try k_extra "fact use"); (try k_fold)))
local macro_rules | `(tactic| k_room) => `(tactic| ((simp only [depth_under_make, depth_under_kw, depth_in1, depth_deeper, depth_caller, recursionLimit] at *); omega))
local macro_rules | `(tactic| k_units) => `(tactic| ((have hcL9 := cLine_is); (simp only [units_in1, units_deeper, Around.mark_units, units_caller, cLine] at *); omega))
local macro_rules | `(tactic| walk_at "InvEndN") => `(tactic| first | k_extra "InvEndN" | k_dflt kst_close)
local macro_rules | `(tactic| walk_at "CompEnd") => `(tactic| k_dflt (refine LCg.CompEnd.intro (by assumption) (by assumption) _ (fun _ hp => hp) (by assumption) (by first | exact True.intro | exact Or.inl (Or.inl (by assumption)) | exact Or.inl (by assumption) | exact Or.inr ⟨_, .head _, rfl, _, rfl⟩ | exact Or.inr ⟨_, by k_mem, rfl, _, rfl⟩) ?_))
local macro_rules | `(tactic| k_call_by "enterC" $_g:term) => `(tactic| (refine' code_defC ?k1 ?k2 ?k3 ?k4 ?k5 ?kA ?kF ?kK ?k6 ?k7 ?k8 ?k9 ?kB ?kD ?_ ?c2 ?c3 ?c4; (case kA => exact rfl); (case kF => exact rfl); (case kK => assumption); (case k1 => k_asm); (case k2 => k_asm); (case k3 => k_asm); (case k4 => k_asm); (case k5 => k_asm); (case k6 => k_is); (case k7 => k_is); (case k8 => k_room); (case k9 => exact BindsTo.of_eq rfl); (case kB => exact rfl); (case kD => decide +kernel); (case c2 => exact rfl); (case c3 => exact rfl); (case c4 => exact rfl); k_whole; intro g' L' h' tk' cells' FG' F' N' Y' B' X' T' l1; have hOc9 := ownOff_cells l1; have kMark9 := kstMark; (try k_lt l1); k_cells Y'; (try simp only [List.cons_append, List.nil_append] at N'); (try dsimp only); (try k_lift B'); (try k_fold)))
local macro_rules | `(tactic| k_call_by "om" $_g:term) => `(tactic| ((repeat (rename (_ ≠ _ ∧ _ ≠ _ ∧ _ ≠ _) ∧ _ => o9; clear o9)); (repeat (rename _ ≠ _ ∧ _ ≠ _ ∧ _ ≠ _ => o9; clear o9)); (repeat (rename @Ne Nat _ _ => o9; clear o9)); omega))
local macro_rules | `(tactic| k_call_by "item" $h:term) => `(tactic| (k_here; (with_reducible rename News _ _ _ _ => myN9); k_dflt (refine' item_list_ints (News.isList (by with_reducible exact myN9) ?hm) $h ?h0 ?h1 ?h2 (fun tI9 => ?hQ)); (case hm => k_dflt k_mem); (case h0 => k_call_by "om" 0); (case h1 => k_call_by "om" 0); (case h2 => k_call_by "om" 0); (try k_fold)))
local macro_rules | `(tactic| k_call_by "enterD" $_g:term) => `(tactic| (refine' code_def ?k1 ?k2 ?k3 ?k4 ?k5 ?kA ?kF ?kK ?k6 ?k7 ?k8 ?k9 ?kB ?_ ?c2 ?c3 ?c4 ?c5; (case kA => exact rfl); (case kF => exact rfl); (case kK => assumption); (case k1 => k_asm); (case k2 => k_asm); (case k3 => k_asm); (case k4 => k_asm); (case k5 => k_asm); (case k6 => k_is); (case k7 => k_is); (case k8 => k_room); (case k9 => first | exact binds_K (by k_in) rfl (by k_is) rfl rfl rfl | exact BindsTo.of_eq rfl); (case c5 => decide); (case kB => exact locs rfl); (case c2 => exact rfl); (case c3 => exact rfl); (case c4 => exact rfl); k_whole; intro g' L' h' FG' F' N' B' X' T'; (try dsimp only); (try k_lift B'); (try k_fold)))
local macro_rules | `(tactic| k_call_by "itemN" $h:term) => `(tactic| (k_here; (with_reducible rename News _ _ _ _ => myN9); k_dflt (refine' item_list_ints_neg (News.isList (by with_reducible exact myN9) ?hm) $h ?h0 ?h1 ?h2 (fun tI9 => ?hQ)); (case hm => k_dflt k_mem); (case h0 => k_call_by "om" 0); (case h1 => k_call_by "om" 0); (case h2 => k_call_by "om" 0); (try k_fold)))

def st1Set (m : Int) (L : List Int) (j : Nat) : List Int := L.set j ((m - 1) * L.getD j 0 + L.getD (j - 1) 0)
def st1In (k m : Nat) (L : List Int) : Nat → List Int
  | 0 => L
  | c + 1 => st1Set m (st1In k m L c) (min k m - c)
def st1Row (k : Nat) : Nat → List Int
  | 0 => (List.replicate (k + 1) 0).set 1 1
  | i + 1 => st1In k (i + 2) (st1Row k i) (min k (i + 2))
def st1V (n k : Int) : Int := if n ≤ k then (if (n == k) = true then 1 else 0) else if k < 1 then 0 else (-1) ^ (n + k).toNat * (st1Row k.toNat (n + 1 - 2).toNat).getD k.toNat 0
theorem st1_start (k : Int) (h : 1 ≤ k) : (List.replicate (k + 1).toNat [(0 : Int)]).flatten.set (Int.toNat 1) 1 = st1Row k.toNat 0 ∧ (((List.replicate (k + 1).toNat [(0 : Int)]).flatten.set (Int.toNat 1) 1).length : Int) = k + 1 := by
  rw [List.flatten_replicate_singleton, show (k + 1).toNat = k.toNat + 1 by omega]
  refine ⟨rfl, ?_⟩
  rw [List.length_set, List.length_replicate]; omega
theorem st1_in (k m kN : Int) (L : List Int) (i c : Nat) (h1 : 1 ≤ k) (hm : m = 2 + (i : Int)) (e : kN = (if m < k then m else k) - (c : Int)) (hc : c < ((if m < k then m else k) - 0).toNat)
    (hL : L = st1In k.toNat m.toNat (st1Row k.toNat i) c) (hl : (L.length : Int) = k + 1) :
    L.set kN.toNat ((m - 1) * L.getD kN.toNat 0 + L.getD (kN - 1).toNat 0) = st1In k.toNat m.toNat (st1Row k.toNat i) (c + 1) ∧ ((L.set kN.toNat ((m - 1) * L.getD kN.toNat 0 + L.getD (kN - 1).toNat 0)).length : Int) = k + 1 := by
  refine ⟨?_, by rw [List.length_set]; exact hl⟩
  have e1 : min k.toNat m.toNat - c = kN.toNat := by split at e <;> omega
  have e2 : (kN - 1).toNat = kN.toNat - 1 := by omega
  rw [st1In, ← hL, e1, e2, st1Set, show ((m.toNat : Nat) : Int) = m by omega]
theorem st1_out (k m : Int) (L : List Int) (i d : Nat) (h1 : 1 ≤ k) (hm : m = 2 + (i : Int)) (hd : d = ((if m < k then m else k) - 0).toNat) (hL : L = st1In k.toNat m.toNat (st1Row k.toNat i) d) (hl : (L.length : Int) = k + 1) :
    L = st1Row k.toNat (i + 1) ∧ (L.length : Int) = k + 1 := by
  refine ⟨?_, hl⟩
  have e1 : d = min k.toNat (i + 2) := by split at hd <;> omega
  have e2 : m.toNat = i + 2 := by omega
  rw [hL, e1, e2, st1Row]
theorem st1_in0 (k m : Int) (L : List Int) (i : Nat) (h : L = st1Row k.toNat i) (hl : (L.length : Int) = k + 1) : L = st1In k.toNat m.toNat (st1Row k.toNat i) ([] : List Int).length ∧ (L.length : Int) = k + 1 := ⟨h, hl⟩
theorem st1_a (n k : Int) (h : n ≤ k) : (if (n == k) = true then (1 : Int) else 0) = st1V n k := by unfold st1V; exact (if_pos h).symm
theorem st1_b (n k : Int) (h : ¬ n ≤ k) (h' : k < 1) : 0 = st1V n k := by unfold st1V; rw [if_neg h]; exact (if_pos h').symm
theorem st1_c (n k : Int) (L : List Int) (d : Nat) (h : ¬ n ≤ k) (h' : ¬ k < 1) (hd : d = (n + 1 - 2).toNat) (hL : L = st1Row k.toNat d) : (-1) ^ (n + k).toNat * L.getD k.toNat 0 = st1V n k := by unfold st1V; rw [if_neg h, if_neg h', hL, hd]
theorem c_st1 (n k : Int) (t u : Tok) : Cl 10 117 [.int n t, .int k u] (0 ≤ n ∧ n ≤ 12 ∧ 0 ≤ k ∧ k ≤ 13) (fun t => .int (st1V n k) t) := by
  unfold Cl CbRet; k_fill; intros; rename_i hret
  k_with_none
  (k_with "pyIter ref" => k_of "m" => k_state_given ["k"] (fun k pre L => L = st1Row k.toNat pre.length ∧ (L.length : Int) = k + 1) "L")
  (k_with "pyIter ref" => k_of "j" => k_state (fun pre L => L = st1In k.toNat kN.toNat (st1Row k.toNat kPre.length) pre.length ∧ (L.length : Int) = k + 1) "L")
  (k_with "state" => first
    | ((simp only [List.length_nil]); exact st1_start k (by omega))
    | exact st1_in0 k _ _ _ (by assumption) (by assumption)
    | ((simp only [List.length_append, List.length_cons, List.length_nil, Nat.zero_add]); first
      | exact st1_in k _ _ _ _ _ (by omega) (by assumption) (by assumption) (by assumption) (by assumption) (by assumption)
      | exact st1_out k _ _ _ _ (by omega) (by assumption) (downKs_length _ _) (by assumption) (by assumption)))
  (k_with "binaryOp Mult int int" => (k_here; first | refine mul_int ?_ (IntMulOk.of_left (sign_bits _)) | refine mul_int ?_ (IntMulOk.of_left (intBits_le_64 (by omega) (by omega)))))
  (k_with "tree" => first | exact st1_a _ _ (by omega) | exact st1_b _ _ (by omega) (by omega) | exact st1_c _ _ _ _ (by omega) (by omega) (rangeKs_length _ _) (by assumption))
  w_top off
  w_strict (refine wpAny_call ?_; cell_enter; k_steps; all_goals (cb_end hret))

end Mine
namespace Mine
local macro_rules | `(tactic| k_call_by "use" $g:term) => `(tactic| (k_here; k_dflt (refine' Cl.use $g ?k1 ?k2 ?k3 ?k4 ?k5 ?kK ?kp ?kd ?ku ?kR; (case k1 => k_asm); (case k2 => k_asm); (case k3 => k_asm); (case k4 => k_asm); (case k5 => k_asm); (case kK => first | exact rfl | assumption); (case kp => first | trivial | omega | ((try dsimp only); first | assumption | omega | l_fact)); (case kd => k_room); (case ku => k_units)); intro t9 h9 tk9 F9 N9; (try dsimp only); (try k_extra "fact use"); (try k_fold)))
local macro_rules | `(tactic| k_room) => `(tactic| ((simp only [depth_under_make, depth_under_kw, depth_in1, depth_deeper, depth_caller, recursionLimit] at *); omega))
local macro_rules | `(tactic| k_units) => `(tactic| ((have hcL9 := cLine_is); (simp only [units_in1, units_deeper, Around.mark_units, units_caller, cLine] at *); omega))
local macro_rules | `(tactic| walk_at "InvEndN") => `(tactic| first | k_extra "InvEndN" | k_dflt kst_close)
local macro_rules | `(tactic| walk_at "CompEnd") => `(tactic| k_dflt (refine LCg.CompEnd.intro (by assumption) (by assumption) _ (fun _ hp => hp) (by assumption) (by first | exact True.intro | exact Or.inl (Or.inl (by assumption)) | exact Or.inl (by assumption) | exact Or.inr ⟨_, .head _, rfl, _, rfl⟩ | exact Or.inr ⟨_, by k_mem, rfl, _, rfl⟩) ?_))
local macro_rules | `(tactic| k_call_by "enterC" $_g:term) => `(tactic| (refine' code_defC ?k1 ?k2 ?k3 ?k4 ?k5 ?kA ?kF ?kK ?k6 ?k7 ?k8 ?k9 ?kB ?kD ?_ ?c2 ?c3 ?c4; (case kA => exact rfl); (case kF => exact rfl); (case kK => assumption); (case k1 => k_asm); (case k2 => k_asm); (case k3 => k_asm); (case k4 => k_asm); (case k5 => k_asm); (case k6 => k_is); (case k7 => k_is); (case k8 => k_room); (case k9 => exact BindsTo.of_eq rfl); (case kB => exact rfl); (case kD => decide +kernel); (case c2 => exact rfl); (case c3 => exact rfl); (case c4 => exact rfl); k_whole; intro g' L' h' tk' cells' FG' F' N' Y' B' X' T' l1; have hOc9 := ownOff_cells l1; have kMark9 := kstMark; (try k_lt l1); k_cells Y'; (try simp only [List.cons_append, List.nil_append] at N'); (try dsimp only); (try k_lift B'); (try k_fold)))
local macro_rules | `(tactic| k_call_by "om" $_g:term) => `(tactic| ((repeat (rename (_ ≠ _ ∧ _ ≠ _ ∧ _ ≠ _) ∧ _ => o9; clear o9)); (repeat (rename _ ≠ _ ∧ _ ≠ _ ∧ _ ≠ _ => o9; clear o9)); (repeat (rename @Ne Nat _ _ => o9; clear o9)); omega))
local macro_rules | `(tactic| k_call_by "item" $h:term) => `(tactic| (k_here; (with_reducible rename News _ _ _ _ => myN9); k_dflt (refine' item_list_ints (News.isList (by with_reducible exact myN9) ?hm) $h ?h0 ?h1 ?h2 (fun tI9 => ?hQ)); (case hm => k_dflt k_mem); (case h0 => k_call_by "om" 0); (case h1 => k_call_by "om" 0); (case h2 => k_call_by "om" 0); (try k_fold)))
local macro_rules | `(tactic| k_call_by "enterD" $_g:term) => `(tactic| (refine' code_def ?k1 ?k2 ?k3 ?k4 ?k5 ?kA ?kF ?kK ?k6 ?k7 ?k8 ?k9 ?kB ?_ ?c2 ?c3 ?c4 ?c5; (case kA => exact rfl); (case kF => exact rfl); (case kK => assumption); (case k1 => k_asm); (case k2 => k_asm); (case k3 => k_asm); (case k4 => k_asm); (case k5 => k_asm); (case k6 => k_is); (case k7 => k_is); (case k8 => k_room); (case k9 => first | exact binds_K (by k_in) rfl (by k_is) rfl rfl rfl | exact BindsTo.of_eq rfl); (case c5 => decide); (case kB => exact locs rfl); (case c2 => exact rfl); (case c3 => exact rfl); (case c4 => exact rfl); k_whole; intro g' L' h' FG' F' N' B' X' T'; (try dsimp only); (try k_lift B'); (try k_fold)))
local macro_rules | `(tactic| k_call_by "itemN" $h:term) => `(tactic| (k_here; (with_reducible rename News _ _ _ _ => myN9); k_dflt (refine' item_list_ints_neg (News.isList (by with_reducible exact myN9) ?hm) $h ?h0 ?h1 ?h2 (fun tI9 => ?hQ)); (case hm => k_dflt k_mem); (case h0 => k_call_by "om" 0); (case h1 => k_call_by "om" 0); (case h2 => k_call_by "om" 0); (try k_fold)))

def fibT : Nat → Int × Int | 0 => (0, 1) | n + 1 => let p := fibT n; (p.2, p.1 + p.2)
def fibN (n : Nat) : Int := (fibT n).1
def fibOk (n m a b p q : Int) : Prop := ∃ j c : Nat, j ≤ 5 ∧ c ≤ 61 ∧ m * 2 ^ j + (c : Int) = n ∧ a = fibN (c + 1) ∧ b = fibN c ∧ p = fibN (2 ^ j - 1) ∧ q = fibN (2 ^ j)
theorem fib_add : ∀ j : Nat, j < 6 → ∀ c : Nat, c < 62 → c + 2 ^ j < 62 → fibN (c + 2 ^ j + 1) = fibN c * fibN (2 ^ j) + fibN (c + 1) * fibN (2 ^ j) + fibN (c + 1) * fibN (2 ^ j - 1) ∧ fibN (c + 2 ^ j) = fibN c * fibN (2 ^ j - 1) + fibN (c + 1) * fibN (2 ^ j) := by decide +kernel
theorem fib_dbl : ∀ j : Nat, j < 5 → fibN (2 ^ (j + 1) - 1) = fibN (2 ^ j - 1) * fibN (2 ^ j - 1) + fibN (2 ^ j) * fibN (2 ^ j) ∧ fibN (2 ^ (j + 1)) = fibN (2 ^ j) * fibN (2 ^ j) + 2 * fibN (2 ^ j - 1) * fibN (2 ^ j) := by decide +kernel
theorem fib_bd : ∀ c : Nat, c < 63 → -2 ^ 60 < fibN c ∧ fibN c < 2 ^ 60 := by decide +kernel
theorem fib_pow : ∀ j : Nat, j < 6 → 2 ^ j < 63 := by decide
theorem fib_bds {n m a b p q : Int} (h : fibOk n m a b p q) : -2 ^ 60 < a ∧ a < 2 ^ 60 ∧ -2 ^ 60 < b ∧ b < 2 ^ 60 ∧ -2 ^ 60 < p ∧ p < 2 ^ 60 ∧ -2 ^ 60 < q ∧ q < 2 ^ 60 := by
  obtain ⟨j, c, hj, hc, _, rfl, rfl, rfl, rfl⟩ := h
  have h0 := fib_pow j (by omega)
  have h1 := fib_bd (c + 1) (by omega)
  have h2 := fib_bd c (by omega)
  have h3 := fib_bd (2 ^ j - 1) (by omega)
  have h4 := fib_bd (2 ^ j) (by omega)
  exact ⟨h1.1, h1.2, h2.1, h2.2, h3.1, h3.2, h4.1, h4.2⟩
abbrev fibW (n m a b p q : Int) : Prop := fibOk n m a b p q ∧ 0 ≤ m ∧ m ≤ 61 ∧ -2 ^ 60 < a ∧ a < 2 ^ 60 ∧ -2 ^ 60 < b ∧ b < 2 ^ 60 ∧ -2 ^ 60 < p ∧ p < 2 ^ 60 ∧ -2 ^ 60 < q ∧ q < 2 ^ 60
theorem fib_w {n m a b p q : Int} (h : fibOk n m a b p q) (h0 : 0 ≤ m) (h1 : m ≤ 61) : fibW n m a b p q := ⟨h, h0, h1, fib_bds h⟩
theorem fib_start (n : Int) (h0 : 0 ≤ n) (h1 : n ≤ 61) : fibW n n 1 0 0 1 := fib_w ⟨0, 0, by decide, by decide, by omega, by decide, by decide, by decide, by decide⟩ h0 h1
theorem fib_odd (n m a b p q : Int) (hn : n ≤ 61) (h : fibOk n m a b p q) (h0 : 0 ≤ m) (h1 : m ≤ 61) (ho : m % 2 ≠ 0) : fibW n (m - 1) (b * q + a * q + a * p) (b * p + a * q) p q := by
  refine fib_w ?_ (by omega) (by omega)
  obtain ⟨j, c, hj, hc, e, rfl, rfl, rfl, rfl⟩ := h
  have hp : (0 : Int) < 2 ^ j := Int.pow_pos (by decide)
  have hm : (2 : Int) ^ j ≤ m * 2 ^ j := by
    have := Int.mul_le_mul_of_nonneg_right (show (1 : Int) ≤ m by omega) (Int.le_of_lt hp)
    rwa [Int.one_mul] at this
  have hcast : ((2 ^ j : Nat) : Int) = (2 : Int) ^ j := by norm_cast
  have hlt : c + 2 ^ j < 62 := by omega
  have k := fib_add j (by omega) c (by omega) hlt
  refine ⟨j, c + 2 ^ j, hj, by omega, ?_, k.1.symm, k.2.symm, rfl, rfl⟩
  rw [Int.sub_mul, Int.one_mul]; omega
theorem fib_even (n m a b p q : Int) (hn : n ≤ 61) (h : fibOk n m a b p q) (h0 : 0 ≤ m) (h1 : m ≤ 61) (hz : m ≠ 0) (ho : m % 2 = 0) : fibW n (m.fdiv (2 ^ Int.toNat 1)) a b (p * p + q * q) (q * q + 2 * p * q) := by
  have e2 : m.fdiv (2 ^ Int.toNat 1) = m / 2 := Int.fdiv_eq_ediv_of_nonneg _ (by decide)
  rw [e2]
  refine fib_w ?_ (by omega) (by omega)
  obtain ⟨j, c, hj, hc, e, rfl, rfl, rfl, rfl⟩ := h
  obtain ⟨d, rfl⟩ : ∃ d, m = 2 * d := ⟨m / 2, by omega⟩
  have hp : (0 : Int) < 2 ^ j := Int.pow_pos (by decide)
  have hm : 2 * (2 : Int) ^ j ≤ 2 * d * 2 ^ j := Int.mul_le_mul_of_nonneg_right (show (2 : Int) ≤ 2 * d by omega) (Int.le_of_lt hp)
  have hj5 : j < 5 := by
    rcases Nat.lt_or_ge j 5 with h | h
    · exact h
    · have : j = 5 := by omega
      subst this; omega
  have k := fib_dbl j hj5
  refine ⟨j + 1, c, by omega, hc, ?_, rfl, rfl, k.1.symm, k.2.symm⟩
  rw [show 2 * d / 2 = d by omega, Int.pow_succ, ← e]
  rw [Int.mul_comm 2 d, Int.mul_assoc, Int.mul_comm (2 ^ j) 2]
theorem fib_less (m : Int) (h0 : 0 ≤ m) (hz : m ≠ 0) : (m.fdiv (2 ^ Int.toNat 1)).toNat < m.toNat := by
  rw [show m.fdiv (2 ^ Int.toNat 1) = m / 2 from Int.fdiv_eq_ediv_of_nonneg _ (by decide)]; omega
theorem fib_end (n m a b p q : Int) (h : fibOk n m a b p q) (hz : m = 0) : b = fibN n.toNat := by
  obtain ⟨j, c, hj, hc, e, rfl, rfl, rfl, rfl⟩ := h
  subst hz
  congr 1; omega
theorem c_fib (n : Int) (t : Tok) : Cl 4 71 [.int n t] (0 ≤ n ∧ n ≤ 61) (fun t => .int (fibN n.toNat) t) := by
  unfold Cl CbRet; k_fill; intros; rename_i hret
  k_with_none
  (k_with "exec While Name cons nil" => k_while (fun _ m a b p q => fibOk n m a b p q ∧ 0 ≤ m ∧ m ≤ 61 ∧ -2 ^ 60 < a ∧ a < 2 ^ 60 ∧ -2 ^ 60 < b ∧ b < 2 ^ 60 ∧ -2 ^ 60 < p ∧ p < 2 ^ 60 ∧ -2 ^ 60 < q ∧ q < 2 ^ 60) (fun _ m a b p q => m.toNat) "n" "a" "b" "p" "q")
  (k_with "state" => first
    | exact fib_start n (by omega) (by omega)
    | ((simp only [bitAnd_m1] at *); first
      | exact fib_odd _ _ _ _ _ _ (by omega) (by assumption) (by omega) (by omega) (by omega)
      | exact fib_even _ _ _ _ _ _ (by omega) (by assumption) (by omega) (by omega) (by omega) (by omega)))
  (k_with "measure" => exact fib_less _ (by omega) (by omega))
  (k_with "tree" => exact fib_end _ _ _ _ _ _ (by assumption) (by omega))
  w_top off
  w_strict (refine wpAny_call ?_; cell_enter; k_steps; all_goals (cb_end hret))
def fibZ (n : Int) : Int := if n < 0 then (-1) ^ (-n + 1).toNat * fibN (-n).toNat else fibN n.toNat
theorem fibN_bd (n : Int) (h0 : 0 ≤ n) (h1 : n ≤ 61) : -2 ^ 60 < fibN n.toNat ∧ fibN n.toNat < 2 ^ 60 := fib_bd n.toNat (by omega)
theorem c_fibm (n : Int) (t : Tok) : Cl 10 71 [.int n t] (-61 ≤ n ∧ n < 0) (fun t => .int ((-1) ^ (-n + 1).toNat * fibN (-n).toNat) t) := by
  unfold Cl CbRet; k_fill; intros; rename_i hret
  k_with_none
  (k_with "call ref" => k_call_by "use" (c_fib _ _))
  (k_with "binaryOp Mult int int" => (k_here; refine mul_int ?_ (IntMulOk.of_left (sign_bits _))))
  w_top off
  w_strict (refine wpAny_call ?_; cell_enter; k_steps; all_goals (cb_end hret))
theorem c_ifib (n : Int) (t : Tok) : Cl 10 71 [.int n t] (-61 ≤ n ∧ n ≤ 61) (fun t => .int (fibZ n) t) := by
  intro w p loose mean mg mb news dp un gd cn cs a ccd cl outer A₀ base h₀ L m s Q E k1 k2 k3 k4 k5 k6 k7 k8 k9 k10
  by_cases h : n < 0
  · exact Cl.use (c_fibm n t) k1 k2 k3 k4 k5 k6 ⟨k7.1, h⟩ k8 k9 (by unfold fibZ at k10; simp only [h, if_true] at k10; exact k10)
  · exact Cl.use (c_fib n t) k1 k2 k3 k4 k5 k6 ⟨by omega, k7.2⟩ (by omega) (by omega) (by unfold fibZ at k10; simp only [h, if_false] at k10; exact k10)

end Mine
namespace Mine
local macro_rules | `(tactic| k_call_by "use" $g:term) => `(tactic| (k_here; k_dflt (refine' Cl.use $g ?k1 ?k2 ?k3 ?k4 ?k5 ?kK ?kp ?kd ?ku ?kR; (case k1 => k_asm); (case k2 => k_asm); (case k3 => k_asm); (case k4 => k_asm); (case k5 => k_asm); (case kK => first | exact rfl | assumption); (case kp => first | trivial | omega | ((try dsimp only); first | assumption | omega | l_fact)); (case kd => k_room); (case ku => k_units)); intro t9 h9 tk9 F9 N9; (try dsimp only); (try k_extra "fact use"); (try k_fold)))
local macro_rules | `(tactic| k_room) => `(tactic| ((simp only [depth_under_make, depth_under_kw, depth_in1, depth_deeper, depth_caller, recursionLimit] at *); omega))
local macro_rules | `(tactic| k_units) => `(tactic| ((have hcL9 := cLine_is); (simp only [units_in1, units_deeper, Around.mark_units, units_caller, cLine] at *); omega))
local macro_rules | `(tactic| walk_at "InvEndN") => `(tactic| first | k_extra "InvEndN" | k_dflt kst_close)
local macro_rules | `(tactic| walk_at "CompEnd") => `(tactic| k_dflt (refine LCg.CompEnd.intro (by assumption) (by assumption) _ (fun _ hp => hp) (by assumption) (by first | exact True.intro | exact Or.inl (Or.inl (by assumption)) | exact Or.inl (by assumption) | exact Or.inr ⟨_, .head _, rfl, _, rfl⟩ | exact Or.inr ⟨_, by k_mem, rfl, _, rfl⟩) ?_))
local macro_rules | `(tactic| k_call_by "enterC" $_g:term) => `(tactic| (refine' code_defC ?k1 ?k2 ?k3 ?k4 ?k5 ?kA ?kF ?kK ?k6 ?k7 ?k8 ?k9 ?kB ?kD ?_ ?c2 ?c3 ?c4; (case kA => exact rfl); (case kF => exact rfl); (case kK => assumption); (case k1 => k_asm); (case k2 => k_asm); (case k3 => k_asm); (case k4 => k_asm); (case k5 => k_asm); (case k6 => k_is); (case k7 => k_is); (case k8 => k_room); (case k9 => exact BindsTo.of_eq rfl); (case kB => exact rfl); (case kD => decide +kernel); (case c2 => exact rfl); (case c3 => exact rfl); (case c4 => exact rfl); k_whole; intro g' L' h' tk' cells' FG' F' N' Y' B' X' T' l1; have hOc9 := ownOff_cells l1; have kMark9 := kstMark; (try k_lt l1); k_cells Y'; (try simp only [List.cons_append, List.nil_append] at N'); (try dsimp only); (try k_lift B'); (try k_fold)))
local macro_rules | `(tactic| k_call_by "om" $_g:term) => `(tactic| ((repeat (rename (_ ≠ _ ∧ _ ≠ _ ∧ _ ≠ _) ∧ _ => o9; clear o9)); (repeat (rename _ ≠ _ ∧ _ ≠ _ ∧ _ ≠ _ => o9; clear o9)); (repeat (rename @Ne Nat _ _ => o9; clear o9)); omega))
local macro_rules | `(tactic| k_call_by "item" $h:term) => `(tactic| (k_here; (with_reducible rename News _ _ _ _ => myN9); k_dflt (refine' item_list_ints (News.isList (by with_reducible exact myN9) ?hm) $h ?h0 ?h1 ?h2 (fun tI9 => ?hQ)); (case hm => k_dflt k_mem); (case h0 => k_call_by "om" 0); (case h1 => k_call_by "om" 0); (case h2 => k_call_by "om" 0); (try k_fold)))
local macro_rules | `(tactic| k_call_by "enterD" $_g:term) => `(tactic| (refine' code_def ?k1 ?k2 ?k3 ?k4 ?k5 ?kA ?kF ?kK ?k6 ?k7 ?k8 ?k9 ?kB ?_ ?c2 ?c3 ?c4 ?c5; (case kA => exact rfl); (case kF => exact rfl); (case kK => assumption); (case k1 => k_asm); (case k2 => k_asm); (case k3 => k_asm); (case k4 => k_asm); (case k5 => k_asm); (case k6 => k_is); (case k7 => k_is); (case k8 => k_room); (case k9 => first | exact binds_K (by k_in) rfl (by k_is) rfl rfl rfl | exact BindsTo.of_eq rfl); (case c5 => decide); (case kB => exact locs rfl); (case c2 => exact rfl); (case c3 => exact rfl); (case c4 => exact rfl); k_whole; intro g' L' h' FG' F' N' B' X' T'; (try dsimp only); (try k_lift B'); (try k_fold)))
local macro_rules | `(tactic| k_call_by "itemN" $h:term) => `(tactic| (k_here; (with_reducible rename News _ _ _ _ => myN9); k_dflt (refine' item_list_ints_neg (News.isList (by with_reducible exact myN9) ?hm) $h ?h0 ?h1 ?h2 (fun tI9 => ?hQ)); (case hm => k_dflt k_mem); (case h0 => k_call_by "om" 0); (case h1 => k_call_by "om" 0); (case h2 => k_call_by "om" 0); (try k_fold)))

/-- a contract of a def that the law itself calls, and that catches -/
def ClT (D : Nat) (f : Addr) (vs : List Value) (pre : Prop) (R : Tok → Value) : Prop :=
  ∀ (w : World) (p : Program) (loose : List Str) (mean : ExcName → Option Value) (mg mb : Str → Option Value) (news : List (Addr × Obj)) (dp un : Nat) (gd : Option (List Code)) (cn : Str) (cs : Scope) (a : Addr) (ccd : Value) (A₀ : Around) (base h₀ : Heap) (L : Addr) (m : Str → Option Value) (s : Shared) (Q E : Value → Shared → Prop),
    Below A₀ base [] h₀ → Fr h₀ L s.heap m → (hd.heap_39 w.params).In h₀ → News h₀ L s.heap news → Top p loose mean mg mb h₀ → (hd.heap_39 w.params).In base → Top p loose mean mg mb base → cs.kind = .function → pre → dp + D < recursionLimit → un + 8 * D < cLine → CbRet h₀ L m news s Q R →
      wpAny (model PySem.Challenge.rw_ah5004_01.row.prog w) { handled := none, depth := dp, frames := some [envOf cn cs L a ccd], guards := gd, units := un } (call (.ref f) vs) Q E s
theorem c_ref (n k : Int) (b : Bool) (t u : Tok) : ClT 20 143 [.int n t, .int k u, .bool b] (-10 < n ∧ n < 10 ∧ -10 < k ∧ k < 10 ∧ (n < 0 ∨ k < 0)) (fun _ => .bool true) := by
  unfold ClT CbRet; k_fill; intros; rename_i hret
  k_with_none
  (k_with "exec Raise some none" => (k_here; (with_reducible rename Fr _ _ _ _ => kF); k_dflt (refine' Raise_classB (X := "ValueError") ?hh excClass_ValueError ?hs ?hx ?_; (case hh => rfl); (case hs => (rw [isSubtype_type]; kernel_rfl)); (case hx => (refine' name_B kF ?k1 ?k2 ?k3 ?k4 ?k5 ?_; (case k1 => k_asm); (case k2 => k_asm); (case k3 => k_is); (case k4 => boot_by_name); (case k5 => decide); exact ⟨rfl, rfl⟩)); k_whole); intro h' e' hx'))
  (k_with "call ref" => (k_here; k_dflt (refine wpAny_call ?_; kts_go)))
  w_top off
  w_strict (refine wpAny_call ?_; (refine' code_defS0 ?k1 ?k2 ?k3 ?k4 ?k5 ?kA ?k6 ?k7 ?k8 ?k9 ?kB ?_ ?cK ?c2 ?c3 ?c4 ?c5; (case kA => exact rfl); (case k2 => k_asm); (case k1 => k_asm); (case k3 => k_asm); (case k4 => k_asm); (case k5 => k_asm); (case k6 => k_is); (case k7 => k_is); (case k8 => k_room); (case k9 => first | exact binds_K (by k_in) rfl (by k_is) rfl rfl rfl | exact BindsTo.of_eq rfl | fail "kts_go: no rule for these arguments"); (case kB => exact locs rfl); (case cK => assumption); (case c2 => exact rfl); (case c3 => exact rfl); (case c4 => exact rfl); (case c5 => decide); k_whole; intro g' L' h' FG' F' N' B' X' T' D'; (try dsimp only); (try k_lift B'); (try k_fold)); k_steps; all_goals (first | cb_end hret))

end Mine
namespace Mine
local macro_rules | `(tactic| k_call_by "use" $g:term) => `(tactic| (k_here; k_dflt (refine' Cl.use $g ?k1 ?k2 ?k3 ?k4 ?k5 ?kK ?kp ?kd ?ku ?kR; (case k1 => k_asm); (case k2 => k_asm); (case k3 => k_asm); (case k4 => k_asm); (case k5 => k_asm); (case kK => first | exact rfl | assumption); (case kp => first | trivial | omega | ((try dsimp only); first | assumption | omega | l_fact)); (case kd => k_room); (case ku => k_units)); intro t9 h9 tk9 F9 N9; (try dsimp only); (try k_extra "fact use"); (try k_fold)))
local macro_rules | `(tactic| k_room) => `(tactic| ((simp only [depth_under_make, depth_under_kw, depth_in1, depth_deeper, depth_caller, recursionLimit] at *); omega))
local macro_rules | `(tactic| k_units) => `(tactic| ((have hcL9 := cLine_is); (simp only [units_in1, units_deeper, Around.mark_units, units_caller, cLine] at *); omega))
local macro_rules | `(tactic| walk_at "InvEndN") => `(tactic| first | k_extra "InvEndN" | k_dflt kst_close)
local macro_rules | `(tactic| walk_at "CompEnd") => `(tactic| k_dflt (refine LCg.CompEnd.intro (by assumption) (by assumption) _ (fun _ hp => hp) (by assumption) (by first | exact True.intro | exact Or.inl (Or.inl (by assumption)) | exact Or.inl (by assumption) | exact Or.inr ⟨_, .head _, rfl, _, rfl⟩ | exact Or.inr ⟨_, by k_mem, rfl, _, rfl⟩) ?_))
local macro_rules | `(tactic| k_call_by "enterC" $_g:term) => `(tactic| (refine' code_defC ?k1 ?k2 ?k3 ?k4 ?k5 ?kA ?kF ?kK ?k6 ?k7 ?k8 ?k9 ?kB ?kD ?_ ?c2 ?c3 ?c4; (case kA => exact rfl); (case kF => exact rfl); (case kK => assumption); (case k1 => k_asm); (case k2 => k_asm); (case k3 => k_asm); (case k4 => k_asm); (case k5 => k_asm); (case k6 => k_is); (case k7 => k_is); (case k8 => k_room); (case k9 => exact BindsTo.of_eq rfl); (case kB => exact rfl); (case kD => decide +kernel); (case c2 => exact rfl); (case c3 => exact rfl); (case c4 => exact rfl); k_whole; intro g' L' h' tk' cells' FG' F' N' Y' B' X' T' l1; have hOc9 := ownOff_cells l1; have kMark9 := kstMark; (try k_lt l1); k_cells Y'; (try simp only [List.cons_append, List.nil_append] at N'); (try dsimp only); (try k_lift B'); (try k_fold)))
local macro_rules | `(tactic| k_call_by "om" $_g:term) => `(tactic| ((repeat (rename (_ ≠ _ ∧ _ ≠ _ ∧ _ ≠ _) ∧ _ => o9; clear o9)); (repeat (rename _ ≠ _ ∧ _ ≠ _ ∧ _ ≠ _ => o9; clear o9)); (repeat (rename @Ne Nat _ _ => o9; clear o9)); omega))
local macro_rules | `(tactic| k_call_by "item" $h:term) => `(tactic| (k_here; (with_reducible rename News _ _ _ _ => myN9); k_dflt (refine' item_list_ints (News.isList (by with_reducible exact myN9) ?hm) $h ?h0 ?h1 ?h2 (fun tI9 => ?hQ)); (case hm => k_dflt k_mem); (case h0 => k_call_by "om" 0); (case h1 => k_call_by "om" 0); (case h2 => k_call_by "om" 0); (try k_fold)))
local macro_rules | `(tactic| k_call_by "enterD" $_g:term) => `(tactic| (refine' code_def ?k1 ?k2 ?k3 ?k4 ?k5 ?kA ?kF ?kK ?k6 ?k7 ?k8 ?k9 ?kB ?_ ?c2 ?c3 ?c4 ?c5; (case kA => exact rfl); (case kF => exact rfl); (case kK => assumption); (case k1 => k_asm); (case k2 => k_asm); (case k3 => k_asm); (case k4 => k_asm); (case k5 => k_asm); (case k6 => k_is); (case k7 => k_is); (case k8 => k_room); (case k9 => first | exact binds_K (by k_in) rfl (by k_is) rfl rfl rfl | exact BindsTo.of_eq rfl); (case c5 => decide); (case kB => exact locs rfl); (case c2 => exact rfl); (case c3 => exact rfl); (case c4 => exact rfl); k_whole; intro g' L' h' FG' F' N' B' X' T'; (try dsimp only); (try k_lift B'); (try k_fold)))
local macro_rules | `(tactic| k_call_by "itemN" $h:term) => `(tactic| (k_here; (with_reducible rename News _ _ _ _ => myN9); k_dflt (refine' item_list_ints_neg (News.isList (by with_reducible exact myN9) ?hm) $h ?h0 ?h1 ?h2 (fun tI9 => ?hQ)); (case hm => k_dflt k_mem); (case h0 => k_call_by "om" 0); (case h1 => k_call_by "om" 0); (case h2 => k_call_by "om" 0); (try k_fold)))

def st2I (n k : Int) : Nat → Int × Int
  | 0 => (0, 1)
  | j + 1 => let p := st2I n k j; ((if (k + (j : Int)) % 2 = 0 then p.1 + p.2 * (j : Int) ^ n.toNat else p.1 - p.2 * (j : Int) ^ n.toNat), (p.2 * (k - (j : Int))).fdiv ((j : Int) + 1))
def st2V (n k : Int) : Int := if n ≤ k then (if (n == k) = true then 1 else 0) else if k ≤ 1 then (if (k == 1) = true then 1 else 0) else (st2I n k (k + 1).toNat).1.fdiv (facV k)
theorem st2_bd0 : ∀ n : Nat, n < 13 → ∀ k : Nat, k < 14 → ∀ j : Nat, j < 16 → -10 ^ 30 < (st2I n k j).1 ∧ (st2I n k j).1 < 10 ^ 30 ∧ -10 ^ 10 < (st2I n k j).2 ∧ (st2I n k j).2 < 10 ^ 10 := by decide +kernel
theorem st2_bd (n k : Int) (j : Nat) (h : 0 ≤ n ∧ n ≤ 12 ∧ 0 ≤ k ∧ k ≤ 13) (hj : j < 16) : -10 ^ 30 < (st2I n k j).1 ∧ (st2I n k j).1 < 10 ^ 30 ∧ -10 ^ 10 < (st2I n k j).2 ∧ (st2I n k j).2 < 10 ^ 10 := by
  have := st2_bd0 n.toNat (by omega) k.toNat (by omega) j hj
  rw [show ((n.toNat : Nat) : Int) = n by omega, show ((k.toNat : Nat) : Int) = k by omega] at this
  exact this
theorem st2_even (n k kN s t : Int) (l : Nat) (h : 0 ≤ n ∧ n ≤ 12 ∧ 0 ≤ k ∧ k ≤ 13) (e : kN = 0 + (l : Int)) (hl : l < (k + 1 - 0).toNat) (h1 : s = (st2I n k l).1) (h2 : t = (st2I n k l).2) (hb : (k + kN) % 2 = 0) :
    s + t * kN ^ n.toNat = (st2I n k (l + 1)).1 ∧ (t * (k - kN)).fdiv (kN + 1) = (st2I n k (l + 1)).2 ∧ -10 ^ 30 < s + t * kN ^ n.toNat ∧ s + t * kN ^ n.toNat < 10 ^ 30 ∧ -10 ^ 10 < (t * (k - kN)).fdiv (kN + 1) ∧ (t * (k - kN)).fdiv (kN + 1) < 10 ^ 10 := by
  have e0 : kN = (l : Int) := by omega
  subst e0
  have e1 : s + t * (l : Int) ^ n.toNat = (st2I n k (l + 1)).1 := by rw [h1, h2, st2I]; simp only [hb, if_true]
  have e2 : (t * (k - (l : Int))).fdiv ((l : Int) + 1) = (st2I n k (l + 1)).2 := by rw [h2, st2I]
  rw [e1, e2]
  exact ⟨rfl, rfl, st2_bd n k (l + 1) h (by omega)⟩
theorem st2_odd (n k kN s t : Int) (l : Nat) (h : 0 ≤ n ∧ n ≤ 12 ∧ 0 ≤ k ∧ k ≤ 13) (e : kN = 0 + (l : Int)) (hl : l < (k + 1 - 0).toNat) (h1 : s = (st2I n k l).1) (h2 : t = (st2I n k l).2) (hb : (k + kN) % 2 ≠ 0) :
    s - t * kN ^ n.toNat = (st2I n k (l + 1)).1 ∧ (t * (k - kN)).fdiv (kN + 1) = (st2I n k (l + 1)).2 ∧ -10 ^ 30 < s - t * kN ^ n.toNat ∧ s - t * kN ^ n.toNat < 10 ^ 30 ∧ -10 ^ 10 < (t * (k - kN)).fdiv (kN + 1) ∧ (t * (k - kN)).fdiv (kN + 1) < 10 ^ 10 := by
  have e0 : kN = (l : Int) := by omega
  subst e0
  have e1 : s - t * (l : Int) ^ n.toNat = (st2I n k (l + 1)).1 := by rw [h1, h2, st2I]; simp only [hb, if_false]
  have e2 : (t * (k - (l : Int))).fdiv ((l : Int) + 1) = (st2I n k (l + 1)).2 := by rw [h2, st2I]
  rw [e1, e2]
  exact ⟨rfl, rfl, st2_bd n k (l + 1) h (by omega)⟩
theorem fac_pos (k : Int) (h0 : 0 ≤ k) (h1 : k ≤ 13) : 0 < facV k ∧ facV k < 2 ^ 60 :=
  allInt (P := fun k => 0 < facV k ∧ facV k < 2 ^ 60) 14 (by decide +kernel) k h0 (by omega)
theorem st2_a (n k : Int) (h : n ≤ k) : (if (n == k) = true then (1 : Int) else 0) = st2V n k := by unfold st2V; exact (if_pos h).symm
theorem st2_b (n k : Int) (h : ¬ n ≤ k) (h' : k ≤ 1) : (if (k == 1) = true then (1 : Int) else 0) = st2V n k := by unfold st2V; rw [if_neg h]; exact (if_pos h').symm
theorem st2_c (n k s : Int) (l : Nat) (h : ¬ n ≤ k) (h' : ¬ k ≤ 1) (e : s = (st2I n k l).1) (hl : l = (k + 1 - 0).toNat) : s.fdiv (facV k) = st2V n k := by unfold st2V; rw [if_neg h, if_neg h', e, hl, Int.sub_zero]
theorem c_st2 (n k : Int) (t u : Tok) : Cl 10 124 [.int n t, .int k u] (0 ≤ n ∧ n ≤ 12 ∧ 0 ≤ k ∧ k ≤ 13) (fun t => .int (st2V n k) t) := by
  unfold Cl CbRet; k_fill; intros; rename_i hret
  k_with_none
  (k_with "call ref" => k_call_by "use" (c_ifac _ _))
  (k_with "fact use" => have hf9 := fac_pos k (by omega) (by omega))
  (k_with "binaryOp FloorDiv int int" => (k_here; refine floordiv_b (by omega) (by omega) (by omega) ?_))
  (k_with "pyIter ref" => k_state_given ["n", "k"] (fun n k pre s t => s = (st2I n k pre.length).1 ∧ t = (st2I n k pre.length).2 ∧ -10 ^ 30 < s ∧ s < 10 ^ 30 ∧ -10 ^ 10 < t ∧ t < 10 ^ 10) "s" "t")
  (k_with "state" => first | exact ⟨rfl, rfl, by decide, by decide, by decide, by decide⟩ | ((simp only [List.length_append, List.length_cons, List.length_nil, bitAnd_m1] at *); first | exact st2_even _ _ _ _ _ _ (by omega) (by assumption) (by omega) (by assumption) (by assumption) (by omega) | exact st2_odd _ _ _ _ _ _ (by omega) (by assumption) (by omega) (by assumption) (by assumption) (by omega)))
  (k_with "tree" => first | exact st2_a _ _ (by omega) | exact st2_b _ _ (by omega) (by omega) | exact st2_c _ _ _ _ (by omega) (by omega) (by assumption) (rangeKs_length _ _))
  w_top off
  w_strict (refine wpAny_call ?_; cell_enter; k_steps; all_goals (cb_end hret))

end Mine
namespace Mine
local macro_rules | `(tactic| k_call_by "use" $g:term) => `(tactic| (k_here; k_dflt (refine' Cl.use $g ?k1 ?k2 ?k3 ?k4 ?k5 ?kK ?kp ?kd ?ku ?kR; (case k1 => k_asm); (case k2 => k_asm); (case k3 => k_asm); (case k4 => k_asm); (case k5 => k_asm); (case kK => first | exact rfl | assumption); (case kp => first | trivial | omega | ((try dsimp only); first | assumption | omega | l_fact)); (case kd => k_room); (case ku => k_units)); intro t9 h9 tk9 F9 N9; (try dsimp only); (try k_extra "fact use"); (try k_fold)))
local macro_rules | `(tactic| k_room) => `(tactic| ((simp only [depth_under_make, depth_under_kw, depth_in1, depth_deeper, depth_caller, recursionLimit] at *); omega))
local macro_rules | `(tactic| k_units) => `(tactic| ((have hcL9 := cLine_is); (simp only [units_in1, units_deeper, Around.mark_units, units_caller, cLine] at *); omega))
local macro_rules | `(tactic| walk_at "InvEndN") => `(tactic| first | k_extra "InvEndN" | k_dflt kst_close)
local macro_rules | `(tactic| walk_at "CompEnd") => `(tactic| k_dflt (refine LCg.CompEnd.intro (by assumption) (by assumption) _ (fun _ hp => hp) (by assumption) (by first | exact True.intro | exact Or.inl (Or.inl (by assumption)) | exact Or.inl (by assumption) | exact Or.inr ⟨_, .head _, rfl, _, rfl⟩ | exact Or.inr ⟨_, by k_mem, rfl, _, rfl⟩) ?_))
local macro_rules | `(tactic| k_call_by "enterC" $_g:term) => `(tactic| (refine' code_defC ?k1 ?k2 ?k3 ?k4 ?k5 ?kA ?kF ?kK ?k6 ?k7 ?k8 ?k9 ?kB ?kD ?_ ?c2 ?c3 ?c4; (case kA => exact rfl); (case kF => exact rfl); (case kK => assumption); (case k1 => k_asm); (case k2 => k_asm); (case k3 => k_asm); (case k4 => k_asm); (case k5 => k_asm); (case k6 => k_is); (case k7 => k_is); (case k8 => k_room); (case k9 => exact BindsTo.of_eq rfl); (case kB => exact rfl); (case kD => decide +kernel); (case c2 => exact rfl); (case c3 => exact rfl); (case c4 => exact rfl); k_whole; intro g' L' h' tk' cells' FG' F' N' Y' B' X' T' l1; have hOc9 := ownOff_cells l1; have kMark9 := kstMark; (try k_lt l1); k_cells Y'; (try simp only [List.cons_append, List.nil_append] at N'); (try dsimp only); (try k_lift B'); (try k_fold)))
local macro_rules | `(tactic| k_call_by "om" $_g:term) => `(tactic| ((repeat (rename (_ ≠ _ ∧ _ ≠ _ ∧ _ ≠ _) ∧ _ => o9; clear o9)); (repeat (rename _ ≠ _ ∧ _ ≠ _ ∧ _ ≠ _ => o9; clear o9)); (repeat (rename @Ne Nat _ _ => o9; clear o9)); omega))
local macro_rules | `(tactic| k_call_by "item" $h:term) => `(tactic| (k_here; (with_reducible rename News _ _ _ _ => myN9); k_dflt (refine' item_list_ints (News.isList (by with_reducible exact myN9) ?hm) $h ?h0 ?h1 ?h2 (fun tI9 => ?hQ)); (case hm => k_dflt k_mem); (case h0 => k_call_by "om" 0); (case h1 => k_call_by "om" 0); (case h2 => k_call_by "om" 0); (try k_fold)))
local macro_rules | `(tactic| k_call_by "enterD" $_g:term) => `(tactic| (refine' code_def ?k1 ?k2 ?k3 ?k4 ?k5 ?kA ?kF ?kK ?k6 ?k7 ?k8 ?k9 ?kB ?_ ?c2 ?c3 ?c4 ?c5; (case kA => exact rfl); (case kF => exact rfl); (case kK => assumption); (case k1 => k_asm); (case k2 => k_asm); (case k3 => k_asm); (case k4 => k_asm); (case k5 => k_asm); (case k6 => k_is); (case k7 => k_is); (case k8 => k_room); (case k9 => first | exact binds_K (by k_in) rfl (by k_is) rfl rfl rfl | exact BindsTo.of_eq rfl); (case c5 => decide); (case kB => exact locs rfl); (case c2 => exact rfl); (case c3 => exact rfl); (case c4 => exact rfl); k_whole; intro g' L' h' FG' F' N' B' X' T'; (try dsimp only); (try k_lift B'); (try k_fold)))
local macro_rules | `(tactic| k_call_by "itemN" $h:term) => `(tactic| (k_here; (with_reducible rename News _ _ _ _ => myN9); k_dflt (refine' item_list_ints_neg (News.isList (by with_reducible exact myN9) ?hm) $h ?h0 ?h1 ?h2 (fun tI9 => ?hQ)); (case hm => k_dflt k_mem); (case h0 => k_call_by "om" 0); (case h1 => k_call_by "om" 0); (case h2 => k_call_by "om" 0); (try k_fold)))

def euIn (n : Nat) (L : List Int) : Nat → List Int
  | 0 => L
  | c + 1 => let M := euIn n L c; M.set (n + 1 - 2 * c + 1) ((((n + 1 - 2 * c : Nat) : Int) - 1) * M.getD (n + 1 - 2 * c) 0 + (((n + 1 - 2 * c : Nat) : Int) + 1) * M.getD (n + 1 - 2 * c + 2) 0)
def euRow : Nat → List Int
  | 0 => [0, 0, 1, 0, 0, 0]
  | i + 1 => euIn (i + 1) (euRow i) ((i + 4) / 2) ++ [0]
def euSum (n : Nat) (L : List Int) : Nat → Int
  | 0 => 0
  | c + 1 => euSum n L c + L.getD (n + 1 - 2 * c + 1) 0
def euS : Nat → Int
  | 0 => 1
  | i + 1 => euSum (i + 1) (euRow (i + 1)) ((i + 4) / 2)
theorem eu_size (a : Int) (h0 : 0 ≤ a) (h1 : a ≤ 30) : Builtin.Range.small a (-1) (-2) = true ∧ Builtin.Range.rangeSize a (-1) (-2) = (((a.toNat + 2) / 2 : Nat) : Int) :=
  allInt (P := fun a => Builtin.Range.small a (-1) (-2) = true ∧ Builtin.Range.rangeSize a (-1) (-2) = (((a.toNat + 2) / 2 : Nat) : Int)) 31 (by decide +kernel) a h0 (by omega)
abbrev euP (m : Int) (pre : List Int) (L : List Int) (suma nn : Int) : Prop := L = euRow pre.length ∧ suma = euS pre.length ∧ (L.length : Int) = 6 + pre.length ∧ nn = (if pre.length = 0 then m else (pre.length : Int))
theorem eu_turn (n c : Nat) (ns M : List Int) (jN len : Int) (hM : M = euIn n ns c) (hl : (M.length : Int) = len) (e : jN = (n : Int) + 1 + (c : Int) * (-2)) (hj : 0 ≤ jN) :
    M.set (jN + 1).toNat ((jN - 1) * M.getD jN.toNat 0 + (jN + 1) * M.getD (jN + 2).toNat 0) = euIn n ns (c + 1) ∧ ((M.set (jN + 1).toNat ((jN - 1) * M.getD jN.toNat 0 + (jN + 1) * M.getD (jN + 2).toNat 0)).length : Int) = len := by
  refine ⟨?_, by rw [List.length_set]; exact hl⟩
  have e1 : jN = ((n + 1 - 2 * c : Nat) : Int) := by omega
  have e2 : (jN + 1).toNat = n + 1 - 2 * c + 1 := by omega
  have e3 : (jN + 2).toNat = n + 1 - 2 * c + 2 := by omega
  have e4 : jN.toNat = n + 1 - 2 * c := by omega
  rw [euIn, ← hM, e2, e3, e4, ← e1]
theorem eu_sumTurn (n c : Nat) (L : List Int) (s kN : Int) (hs : s = euSum n L c) (e : kN = (n : Int) + 1 + (c : Int) * (-2)) (hk : 0 ≤ kN) : s + L.getD (kN + 1).toNat 0 = euSum n L (c + 1) := by
  rw [euSum, ← hs, show (kN + 1).toNat = n + 1 - 2 * c + 1 by omega]
theorem eu_outer (m kN s : Int) (i d1 d2 : Nat) (ns M : List Int) (hk : kN = 1 + (i : Int) * 1) (hns : ns = euRow i) (hM : M = euIn (i + 1) ns d1) (hd1 : d1 = ((kN + 1).toNat + 2) / 2) (hl : (M.length : Int) = 6 + (i : Int)) (hs : s = euSum (i + 1) (M ++ [0]) d2) (hd2 : d2 = ((kN + 1).toNat + 2) / 2) :
    M ++ [0] = euRow (i + 1) ∧ s = euS (i + 1) ∧ ((M ++ [0]).length : Int) = 6 + ((i + 1 : Nat) : Int) ∧ kN = (if i + 1 = 0 then m else ((i + 1 : Nat) : Int)) := by
  have e : ((kN + 1).toNat + 2) / 2 = (i + 4) / 2 := by omega
  have e1 : M ++ [0] = euRow (i + 1) := by rw [euRow, hM, hns, hd1, e]
  refine ⟨e1, ?_, ?_, ?_⟩
  · rw [hs, e1, hd2, e, euS]
  · rw [List.length_append, List.length_singleton]; omega
  · rw [if_neg (by omega)]; omega
theorem eu_outerP (m kN s : Int) (pre : List Int) (d1 d2 : Nat) (ns M : List Int) (hk : kN = 1 + (pre.length : Int) * 1) (hns : ns = euRow pre.length) (hM : M = euIn (pre.length + 1) ns d1) (hd1 : d1 = ((kN + 1).toNat + 2) / 2) (hl : (M.length : Int) = 6 + (pre.length : Int)) (hs : s = euSum (pre.length + 1) (M ++ [0]) d2) (hd2 : d2 = ((kN + 1).toNat + 2) / 2) :
    euP m (pre ++ [kN]) (M ++ [0]) s kN := by
  have := eu_outer m kN s pre.length d1 d2 ns M hk hns hM hd1 hl hs hd2
  unfold euP
  rw [show (pre ++ [kN]).length = pre.length + 1 by simp]
  exact this
def euV (m : Int) : Int := if m % 2 ≠ 0 then 0 else ((-1) ^ (m.fdiv 2).toNat * euS m.toNat).fdiv (2 ^ m.toNat)
theorem eu_a (m : Int) (h : m % 2 ≠ 0) : 0 = euV m := by unfold euV; rw [if_pos h]
theorem eu_b (m s : Int) (d : Nat) (h : m % 2 = 0) (hs : s = euS d) (hd : d = (m + 1 - 1).toNat) : ((-1) ^ (m.fdiv 2).toNat * s).fdiv (2 ^ m.toNat) = euV m := by
  unfold euV
  rw [if_neg (by omega), hs, hd, Int.add_sub_cancel]
theorem c_eul (m : Int) (t : Tok) : Cl 10 110 [.int m t] (0 ≤ m ∧ m ≤ 25) (fun t => .int (euV m) t) := by
  unfold Cl CbRet; k_fill; intros; rename_i hret
  k_with_none
  (k_with "pyIter ref" => k_of "n" => (
    k_here
    (rename Fr _ _ _ _ => lF'); (rename News _ _ _ _ => lN'); (rename IsRange _ _ _ _ _ _ _ _ => rgX)
    (rename (_ ≠ _) ∧ LCg.Off1 _ _ => hO1); have hO2 := ownOff_of hO1.2; have hO3 := hO1.1
    (k_dflt refine' my_rangeLIX (ns₀ := [0, 0, 1, 0, 0, 0]) (Str.ofString "suma") [Str.ofString "j", Str.ofString "k"] (euP m) rfl rgX (small_one (by omega) (by omega) (by omega) (by omega)) (rangeSize_nat _ _) lF' lN' ?hf ?hk ?hx (by decide) ⟨rfl, rfl, rfl, rfl⟩ ?turn ?done)
    (case hf => k_dflt l_ints)
    (case hk => with_unfolding_all rfl)
    (case hx => with_unfolding_all rfl)
    (case' turn => (clear lF' lN'; intro vs ns nn sumaI sumaT nI nT kPre kN kT kU kH kTk kOwn kEq kLt kOff kFacts kInv kFr kNews; have kMark := kstMark; (try simp only [List.cons_append, List.nil_append] at kNews); (try simp only [List.map_cons, List.map_nil] at kOff); obtain ⟨iL, iS, iLen, iN⟩ := kInv; clear iN; (try k_fold)))
    (case' done => (clear lF' lN'; intro vs ns nn sumaI sumaT nI nT kPre kU kH kTk kEq kFacts kInv kFr kNews; have kMark := kstMark; obtain ⟨iL, iS, iLen, iN⟩ := kInv; have hnm : nI = m := (by rw [iN]; split <;> omega); clear iN; subst hnm; (try k_fold)))))
  (k_with "pyIter ref" => k_of "j" => (
    k_here
    (rename Fr _ _ _ _ => lF'); (rename News _ _ _ _ => lN'); (rename IsRange _ _ _ _ _ _ _ _ => rgX)
    (k_dflt refine' my_rangeL [] (fun pre M => M = euIn (kPre.length + 1) ns pre.length ∧ (M.length : Int) = 6 + (kPre.length : Int)) rfl rgX (eu_size (kN + 1) (by omega) (by omega)).1 (eu_size (kN + 1) (by omega) (by omega)).2 lF' lN' kFacts ⟨rfl, iLen⟩ ?turnJ ?doneJ)
    (case' turnJ => (clear lF' lN'; intro vs1 ns1 nn1 jPre jN jT jU jH jTk jOwn jEq jLt jOff jFacts jInv jFr jNews; (try simp only [List.cons_append, List.nil_append] at jNews); (try simp only [List.map_cons, List.map_nil] at jOff); obtain ⟨jL, jLen⟩ := jInv; (try k_fold)))
    (case' doneJ => (clear lF' lN'; intro vs1 ns1 nn1 jPre jU jH jTk jEq jFacts jInv jFr jNews; obtain ⟨jL, jLen⟩ := jInv; (try k_fold)))))
  (k_with "pyIter ref" => k_of "k" => (
    k_here
    (rename Fr _ _ _ _ => lF'); (rename News _ _ _ _ => lN'); (rename IsRange _ _ _ _ _ _ _ _ => rgX); (try simp only [List.push_toArray] at lN')
    (k_dflt refine' my_rangeI (Str.ofString "suma") [] (fun pre s => s = euSum (kPre.length + 1) (ns1 ++ [0]) pre.length) rfl rgX (eu_size (kN + 1) (by omega) (by omega)).1 (eu_size (kN + 1) (by omega) (by omega)).2 lF' lN' ?hkK rfl ?turnK ?doneK)
    (case hkK => with_unfolding_all rfl)
    (case' turnK => (clear lF' lN'; intro s2 ts2 lPre lN lT lU lH lTk lOwn lEq lLt lOff lInv lFr lNews; (try simp only [List.cons_append, List.nil_append] at lNews); (try simp only [List.map_cons, List.map_nil] at lOff); (try k_fold)))
    (case' doneK => (clear lF' lN'; intro s2 ts2 lPre lU lH lTk lEq lInv lFr lNews; (try k_fold)))))
  (k_with "state" => exact eu_outerP _ _ _ _ _ _ _ _ (by assumption) (by assumption) (by assumption) (by assumption) (by assumption) (by assumption) (by assumption))
  (k_with "state" => (
    simp only [List.length_append, List.length_cons, List.length_nil, Nat.zero_add]
    first
      | exact eu_turn _ _ _ _ _ _ (by assumption) (by assumption) (by omega) (by omega)
      | exact eu_sumTurn _ _ _ _ _ (by assumption) (by omega) (by omega)))
  (k_with "binaryOp Mult int int" => (k_here; first | refine mul_int ?_ (IntMulOk.of_left (sign_bits _)) | refine mul_int ?_ (IntMulOk.of_left (intBits_le_64 (by omega) (by omega)))))
  (k_with "tree" => ((simp only [bitAnd_m1] at *); first | exact eu_a _ (by omega) | exact eu_b _ _ _ (by omega) (by assumption) (by assumption)))
  w_top off
  w_strict (refine wpAny_call ?_; cell_enter; k_steps; all_goals (first | cb_end hret))

end Mine
namespace Mine
local macro_rules | `(tactic| k_call_by "use" $g:term) => `(tactic| (k_here; k_dflt (refine' Cl.use $g ?k1 ?k2 ?k3 ?k4 ?k5 ?kK ?kp ?kd ?ku ?kR; (case k1 => k_asm); (case k2 => k_asm); (case k3 => k_asm); (case k4 => k_asm); (case k5 => k_asm); (case kK => first | exact rfl | assumption); (case kp => first | trivial | omega | ((try dsimp only); first | assumption | omega | l_fact)); (case kd => k_room); (case ku => k_units)); intro t9 h9 tk9 F9 N9; (try dsimp only); (try k_extra "fact use"); (try k_fold)))
local macro_rules | `(tactic| k_room) => `(tactic| ((simp only [depth_under_make, depth_under_kw, depth_in1, depth_deeper, depth_caller, recursionLimit] at *); omega))
local macro_rules | `(tactic| k_units) => `(tactic| ((have hcL9 := cLine_is); (simp only [units_in1, units_deeper, Around.mark_units, units_caller, cLine] at *); omega))
local macro_rules | `(tactic| walk_at "InvEndN") => `(tactic| first | k_extra "InvEndN" | k_dflt kst_close)
local macro_rules | `(tactic| walk_at "CompEnd") => `(tactic| k_dflt (refine LCg.CompEnd.intro (by assumption) (by assumption) _ (fun _ hp => hp) (by assumption) (by first | exact True.intro | exact Or.inl (Or.inl (by assumption)) | exact Or.inl (by assumption) | exact Or.inr ⟨_, .head _, rfl, _, rfl⟩ | exact Or.inr ⟨_, by k_mem, rfl, _, rfl⟩) ?_))
local macro_rules | `(tactic| k_call_by "enterC" $_g:term) => `(tactic| (refine' code_defC ?k1 ?k2 ?k3 ?k4 ?k5 ?kA ?kF ?kK ?k6 ?k7 ?k8 ?k9 ?kB ?kD ?_ ?c2 ?c3 ?c4; (case kA => exact rfl); (case kF => exact rfl); (case kK => assumption); (case k1 => k_asm); (case k2 => k_asm); (case k3 => k_asm); (case k4 => k_asm); (case k5 => k_asm); (case k6 => k_is); (case k7 => k_is); (case k8 => k_room); (case k9 => exact BindsTo.of_eq rfl); (case kB => exact rfl); (case kD => decide +kernel); (case c2 => exact rfl); (case c3 => exact rfl); (case c4 => exact rfl); k_whole; intro g' L' h' tk' cells' FG' F' N' Y' B' X' T' l1; have hOc9 := ownOff_cells l1; have kMark9 := kstMark; (try k_lt l1); k_cells Y'; (try simp only [List.cons_append, List.nil_append] at N'); (try dsimp only); (try k_lift B'); (try k_fold)))
local macro_rules | `(tactic| k_call_by "om" $_g:term) => `(tactic| ((repeat (rename (_ ≠ _ ∧ _ ≠ _ ∧ _ ≠ _) ∧ _ => o9; clear o9)); (repeat (rename _ ≠ _ ∧ _ ≠ _ ∧ _ ≠ _ => o9; clear o9)); (repeat (rename @Ne Nat _ _ => o9; clear o9)); omega))
local macro_rules | `(tactic| k_call_by "item" $h:term) => `(tactic| (k_here; (with_reducible rename News _ _ _ _ => myN9); k_dflt (refine' item_list_ints (News.isList (by with_reducible exact myN9) ?hm) $h ?h0 ?h1 ?h2 (fun tI9 => ?hQ)); (case hm => k_dflt k_mem); (case h0 => k_call_by "om" 0); (case h1 => k_call_by "om" 0); (case h2 => k_call_by "om" 0); (try k_fold)))
local macro_rules | `(tactic| k_call_by "enterD" $_g:term) => `(tactic| (refine' code_def ?k1 ?k2 ?k3 ?k4 ?k5 ?kA ?kF ?kK ?k6 ?k7 ?k8 ?k9 ?kB ?_ ?c2 ?c3 ?c4 ?c5; (case kA => exact rfl); (case kF => exact rfl); (case kK => assumption); (case k1 => k_asm); (case k2 => k_asm); (case k3 => k_asm); (case k4 => k_asm); (case k5 => k_asm); (case k6 => k_is); (case k7 => k_is); (case k8 => k_room); (case k9 => first | exact binds_K (by k_in) rfl (by k_is) rfl rfl rfl | exact BindsTo.of_eq rfl); (case c5 => decide); (case kB => exact locs rfl); (case c2 => exact rfl); (case c3 => exact rfl); (case c4 => exact rfl); k_whole; intro g' L' h' FG' F' N' B' X' T'; (try dsimp only); (try k_lift B'); (try k_fold)))
local macro_rules | `(tactic| k_call_by "itemN" $h:term) => `(tactic| (k_here; (with_reducible rename News _ _ _ _ => myN9); k_dflt (refine' item_list_ints_neg (News.isList (by with_reducible exact myN9) ?hm) $h ?h0 ?h1 ?h2 (fun tI9 => ?hQ)); (case hm => k_dflt k_mem); (case h0 => k_call_by "om" 0); (case h1 => k_call_by "om" 0); (case h2 => k_call_by "om" 0); (try k_fold)))

def binRow : Nat → List Int
  | 0 => [1]
  | i + 1 => [1] ++ (rangeKs 0 i).map (fun j => (binRow i).getD j.toNat 0 + (binRow i).getD (j + 1).toNat 0) ++ [1]
def eulSum (n : Int) : Nat → Int
  | 0 => 0
  | i + 1 => eulSum n i + (binRow (2 * n).toNat).getD (2 * i) 0 * euV (2 * (i : Int))
theorem bin_turn (ns : List Int) (pre : List Int) (kN : Int) (iR : ns = binRow pre.length) (e : kN = 0 + (pre.length : Int) * 1) :
    [1] ++ (rangeKs 0 (kN - 0).toNat).map (fun (j : Int) => ns.getD j.toNat 0 + ns.getD (j + 1).toNat 0) ++ [1] = binRow (pre ++ [kN]).length ∧
    ((([1] ++ (rangeKs 0 (kN - 0).toNat).map (fun (j : Int) => ns.getD j.toNat 0 + ns.getD (j + 1).toNat 0) ++ [1]).length : Nat) : Int) = ((pre ++ [kN]).length : Int) + 1 := by
  refine ⟨?_, ?_⟩
  · rw [List.length_append, List.length_singleton, binRow, iR, show (kN - 0).toNat = pre.length by omega]
  · simp only [List.length_append, List.length_singleton, List.length_map, rangeKs_length]
    omega
theorem eul_turn (n k total : Int) (i d : Nat) (ns : List Int) (h0 : 0 ≤ n) (hk : k = 0 + (i : Int)) (ht : total = eulSum n i) (hr : ns = binRow d) (hd : d = (2 * n - 0).toNat) :
    total + ns.getD (2 * k).toNat 0 * euV (2 * k) = eulSum n (i + 1) := by
  have ek : k = (i : Int) := by omega
  subst ek
  rw [eulSum, ht, hr, hd, show (2 * n - 0).toNat = (2 * n).toNat by omega, show (2 * (i : Int)).toNat = 2 * i by omega]
theorem eul_end0 : ∀ n : Nat, n < 13 → eulSum (n : Int) (n + 1) = (if n = 0 then 1 else 0) ∧ euV (2 * (n : Int) + 1) = 0 := by decide +kernel
theorem eul_end (n : Int) (h0 : 0 ≤ n) (h1 : n ≤ 12) : eulSum n (n + 1 - 0).toNat = (if n = 0 then 1 else 0) ∧ euV (2 * n + 1) = 0 := by
  have := eul_end0 n.toNat (by omega)
  rw [show ((n.toNat : Nat) : Int) = n by omega] at this
  rw [show (n + 1 - 0).toNat = n.toNat + 1 by omega]
  refine ⟨this.1.trans ?_, this.2⟩
  by_cases h : n = 0
  · rw [if_pos h, if_pos (by omega)]
  · rw [if_neg h, if_neg (by omega)]
theorem eul_bd0 : ∀ n : Nat, n < 13 → ∀ i : Nat, i < 25 → -2 ^ 40 < (binRow (2 * n)).getD i 0 ∧ (binRow (2 * n)).getD i 0 < 2 ^ 40 := by decide +kernel
theorem eul_ok (n k x : Int) (d : Nat) (ns : List Int) (h0 : 0 ≤ n) (h1 : n ≤ 12) (hr : ns = binRow d) (hd : d = (2 * n - 0).toNat) (k0 : 0 ≤ k) (k1 : k ≤ n) : IntMulOk (ns.getD (2 * k).toNat 0) x := by
  have := eul_bd0 n.toNat (by omega) (2 * k).toNat (by omega)
  rw [show 2 * n.toNat = d by omega, ← hr] at this
  exact IntMulOk.of_left (intBits_le_64 (by omega) (by omega))
theorem eul_a (n total : Int) (i : Nat) (h0 : 0 ≤ n) (h1 : n ≤ 12) (ht : total = eulSum n i) (hi : i = (n + 1 - 0).toNat) (hn : n = 0) : (total == 1) = true := by
  have := (eul_end n h0 h1).1
  rw [← hi, ← ht, if_pos hn] at this
  simp [this]
theorem eul_b (n total : Int) (i : Nat) (h0 : 0 ≤ n) (h1 : n ≤ 12) (ht : total = eulSum n i) (hi : i = (n + 1 - 0).toNat) (hn : ¬ n = 0) : (total == 0) = true := by
  have := (eul_end n h0 h1).1
  rw [← hi, ← ht, if_neg hn] at this
  simp [this]
theorem eul_c (n : Int) (h0 : 0 ≤ n) (h1 : n ≤ 12) : (euV (2 * n + 1) == 0) = true := by simp [(eul_end n h0 h1).2]
theorem rg_next {h₀ : Heap} {L : Addr} {J : (Str → Option Value) → List (Addr × Obj) → Prop} {I : Addr} {oI : Obj} {s₁ s₂ : Shared} {Q : Flow → Shared → Prop} (h : RgEnd h₀ L J I oI s₁ s₂) : RgPost h₀ L J I oI s₁ Q .next s₂ := h
theorem l_eul (n : Int) (t : Tok) : Cl 20 148 [.int n t] (0 ≤ n ∧ n ≤ 12) (fun _ => .bool true) := by
  unfold Cl CbRet; k_fill; intros; rename_i hret
  k_with_none
  (k_with "call ref" => k_call_by "use" (c_eul _ _))
  (k_with "pyIter ref" => k_of "k" => (
    k_here
    (rename Fr _ _ _ _ => lF'); (rename News _ _ _ _ => lN'); (rename IsRange _ _ _ _ _ _ _ _ => rgX); (rename _ = Data.cell (some (Value.ref _)) => hC9)
    (k_dflt refine' my_rangeCell (ns₀ := [1]) [] (fun pre ns => ns = binRow pre.length ∧ (ns.length : Int) = (pre.length : Int) + 1) rfl rgX (small_one (by omega) (by omega) (by omega) (by omega)) (rangeSize_nat _ _) lF' (news_turn lN') hC9 ?hfR ⟨rfl, rfl⟩ ?turnR ?doneR)
    (case hfR => repeat constructor)
    (case' turnR => (clear lF' lN'; intro D oC vs ns nn kPre kN kT kU kH kTk I oI kEq kLt nDI nCI nRI nDC hCell kFacts kInv kFr kNews; obtain ⟨iR, iLen⟩ := kInv; have nIC := nCI.symm; have nID := nDI.symm; (try k_fold)))
    (case' doneR => (clear lF' lN'; intro D oC vs ns nn kPre kU kH kTk kEq nDC hCell kFacts kInv kFr kNews; obtain ⟨iR, iLen⟩ := kInv; (try k_fold)))))
  (k_with "pyIter ref" => k_of "k" => (k_state (fun pre total => total = eulSum n pre.length) "total"))
  (k_with "state" => first
    | ((simp only [List.length_nil]); k_dflt exact rfl)
    | ((simp only [List.length_append, List.length_cons, List.length_nil, Nat.zero_add])
       exact eul_turn n _ _ _ _ _ (by omega) (by assumption) (by assumption) (by assumption) (by assumption)))
  (k_with "eval ListComp" => ((with_reducible refine wp_same ?_); kcf_look; k_here; k_dflt (refine LCg.ListComp_U (F₀ := by k_asm) (by with_unfolding_all rfl) (by decide) (by rfl) (by decide) (by rfl) ?_)))
  (k_with "subscriptTail Name BinOp ref int" => (k_call_by "item" kFacts))
  (k_with "subscriptTail Name Name ref int" => (k_call_by "item" kFacts))
  (k_with "binaryOp Mult int int" => (k_here; refine mul_int ?_ (eul_ok n _ _ _ _ (by omega) (by omega) (by assumption) (by assumption) (by omega) (by omega))))
  (k_with "RgPost" => (
    k_here
    (rename Fr _ _ _ _ => pF); (rename News _ _ _ _ => pN); (rename IntsAre _ _ => pI); (rename _ = Data.cell (some (Value.ref _)) => pC); (rename _ < _ ∧ _ => pL)
    (k_dflt (refine' rg_next (cell_end (P := fun pre ns => ns = binRow pre.length ∧ (ns.length : Int) = (pre.length : Int) + 1) pF pN ?hI ?hD ?hC ?hr ?nD nCI nRI pC pI ?same ?hp)))
    (case hI => k_dflt k_mem)
    (case hD => k_dflt k_mem)
    (case hC => k_dflt k_mem)
    (case hr => (intro p hp; repeat (first | exact hp | refine List.Mem.tail _ ?_)))
    (case nD => k_dflt exact Nat.ne_of_gt pL.2.2.2.2.1)
    (case same => (intro z hz hs; (try dsimp only); rw [if_neg hz]; k_dflt rfl))
    (case hp => k_dflt exact bin_turn _ _ _ iR kEq)))
  (k_with "tree" => first
    | exact eul_c n (by omega) (by omega)
    | exact eul_a n _ _ (by omega) (by omega) (by assumption) (rangeKs_length _ _) (by assumption)
    | exact eul_b n _ _ (by omega) (by omega) (by assumption) (rangeKs_length _ _) (by assumption))
  w_top off
  w_strict (refine wpAny_call ?_; (k_call_by "enterC" n); (repeat' (first | (k_unfold; (try dsimp only)) | (k_end; wrow_close) | walk1 | (dsimp only; walk1) | (leave1; walk_say "STEP leave1"; try dsimp only) | fail "no step")); all_goals (first | (cb_end hret)))

end Mine
namespace Mine
local macro_rules | `(tactic| k_call_by "use" $g:term) => `(tactic| (k_here; k_dflt (refine' Cl.use $g ?k1 ?k2 ?k3 ?k4 ?k5 ?kK ?kp ?kd ?ku ?kR; (case k1 => k_asm); (case k2 => k_asm); (case k3 => k_asm); (case k4 => k_asm); (case k5 => k_asm); (case kK => first | exact rfl | assumption); (case kp => first | trivial | omega | ((try dsimp only); first | assumption | omega | l_fact)); (case kd => k_room); (case ku => k_units)); intro t9 h9 tk9 F9 N9; (try dsimp only); (try k_extra "fact use"); (try k_fold)))
local macro_rules | `(tactic| k_room) => `(tactic| ((simp only [depth_under_make, depth_under_kw, depth_in1, depth_deeper, depth_caller, recursionLimit] at *); omega))
local macro_rules | `(tactic| k_units) => `(tactic| ((have hcL9 := cLine_is); (simp only [units_in1, units_deeper, Around.mark_units, units_caller, cLine] at *); omega))
local macro_rules | `(tactic| walk_at "InvEndN") => `(tactic| first | k_extra "InvEndN" | k_dflt kst_close)
local macro_rules | `(tactic| walk_at "CompEnd") => `(tactic| k_dflt (refine LCg.CompEnd.intro (by assumption) (by assumption) _ (fun _ hp => hp) (by assumption) (by first | exact True.intro | exact Or.inl (Or.inl (by assumption)) | exact Or.inl (by assumption) | exact Or.inr ⟨_, .head _, rfl, _, rfl⟩ | exact Or.inr ⟨_, by k_mem, rfl, _, rfl⟩) ?_))
local macro_rules | `(tactic| k_call_by "enterC" $_g:term) => `(tactic| (refine' code_defC ?k1 ?k2 ?k3 ?k4 ?k5 ?kA ?kF ?kK ?k6 ?k7 ?k8 ?k9 ?kB ?kD ?_ ?c2 ?c3 ?c4; (case kA => exact rfl); (case kF => exact rfl); (case kK => assumption); (case k1 => k_asm); (case k2 => k_asm); (case k3 => k_asm); (case k4 => k_asm); (case k5 => k_asm); (case k6 => k_is); (case k7 => k_is); (case k8 => k_room); (case k9 => exact BindsTo.of_eq rfl); (case kB => exact rfl); (case kD => decide +kernel); (case c2 => exact rfl); (case c3 => exact rfl); (case c4 => exact rfl); k_whole; intro g' L' h' tk' cells' FG' F' N' Y' B' X' T' l1; have hOc9 := ownOff_cells l1; have kMark9 := kstMark; (try k_lt l1); k_cells Y'; (try simp only [List.cons_append, List.nil_append] at N'); (try dsimp only); (try k_lift B'); (try k_fold)))
local macro_rules | `(tactic| k_call_by "om" $_g:term) => `(tactic| ((repeat (rename (_ ≠ _ ∧ _ ≠ _ ∧ _ ≠ _) ∧ _ => o9; clear o9)); (repeat (rename _ ≠ _ ∧ _ ≠ _ ∧ _ ≠ _ => o9; clear o9)); (repeat (rename @Ne Nat _ _ => o9; clear o9)); omega))
local macro_rules | `(tactic| k_call_by "item" $h:term) => `(tactic| (k_here; (with_reducible rename News _ _ _ _ => myN9); k_dflt (refine' item_list_ints (News.isList (by with_reducible exact myN9) ?hm) $h ?h0 ?h1 ?h2 (fun tI9 => ?hQ)); (case hm => k_dflt k_mem); (case h0 => k_call_by "om" 0); (case h1 => k_call_by "om" 0); (case h2 => k_call_by "om" 0); (try k_fold)))
local macro_rules | `(tactic| k_call_by "enterD" $_g:term) => `(tactic| (refine' code_def ?k1 ?k2 ?k3 ?k4 ?k5 ?kA ?kF ?kK ?k6 ?k7 ?k8 ?k9 ?kB ?_ ?c2 ?c3 ?c4 ?c5; (case kA => exact rfl); (case kF => exact rfl); (case kK => assumption); (case k1 => k_asm); (case k2 => k_asm); (case k3 => k_asm); (case k4 => k_asm); (case k5 => k_asm); (case k6 => k_is); (case k7 => k_is); (case k8 => k_room); (case k9 => first | exact binds_K (by k_in) rfl (by k_is) rfl rfl rfl | exact BindsTo.of_eq rfl); (case c5 => decide); (case kB => exact locs rfl); (case c2 => exact rfl); (case c3 => exact rfl); (case c4 => exact rfl); k_whole; intro g' L' h' FG' F' N' B' X' T'; (try dsimp only); (try k_lift B'); (try k_fold)))
local macro_rules | `(tactic| k_call_by "itemN" $h:term) => `(tactic| (k_here; (with_reducible rename News _ _ _ _ => myN9); k_dflt (refine' item_list_ints_neg (News.isList (by with_reducible exact myN9) ?hm) $h ?h0 ?h1 ?h2 (fun tI9 => ?hQ)); (case hm => k_dflt k_mem); (case h0 => k_call_by "om" 0); (case h1 => k_call_by "om" 0); (case h2 => k_call_by "om" 0); (try k_fold)))

def othN (n : Int) : Nat → Int
  | 0 => 1
  | i + 1 => if (n - ((i : Int) + 1)).fmod 2 = 0 then othN n i * ((i : Int) + 1) else othN n i
theorem oth_bd0 : ∀ n : Nat, n < 61 → ∀ i : Nat, i < 61 → 0 ≤ othN n i ∧ othN n i < 10 ^ 90 := by decide +kernel
theorem oth_bd (n : Int) (i : Nat) (h0 : 0 ≤ n) (h1 : n ≤ 60) (hi : i < 61) : 0 ≤ othN n i ∧ othN n i < 10 ^ 90 := by
  have := oth_bd0 n.toNat (by omega) i hi
  rwa [show ((n.toNat : Nat) : Int) = n by omega] at this
theorem oth_end0 : ∀ n : Nat, n < 61 → fac2N n = othN n n := by decide +kernel
abbrev prodW (n : Int) (i : Nat) (one other : Int) : Prop := one = facN i ∧ other = othN n i ∧ 0 ≤ one ∧ one < 10 ^ 90 ∧ 0 ≤ other ∧ other < 10 ^ 90
theorem prod_w (n : Int) (i : Nat) (one other : Int) (h0 : 0 ≤ n) (h1 : n ≤ 60) (hi : i < 61) (e1 : one = facN i) (e2 : other = othN n i) : prodW n i one other := by
  subst e1 e2
  exact ⟨rfl, rfl, (fac_bd i hi).1, (fac_bd i hi).2, (oth_bd n i h0 h1 hi).1, (oth_bd n i h0 h1 hi).2⟩
theorem prod_even (n k one other : Int) (i : Nat) (h0 : 0 ≤ n) (h1 : n ≤ 60) (e : k = 1 + (i : Int)) (hi : i < (n + 1 - 1).toNat) (e1 : one = facN i) (e2 : other = othN n i) (hb : (n - k).fmod 2 = 0) : prodW n (i + 1) (one * k) (other * k) := by
  have ek : k = (i : Int) + 1 := by omega
  refine prod_w n (i + 1) _ _ h0 h1 (by omega) ?_ ?_
  · rw [e1, facN, ek]; congr 1
  · rw [othN, ← ek, if_pos hb, e2]
theorem prod_odd (n k one other : Int) (i : Nat) (h0 : 0 ≤ n) (h1 : n ≤ 60) (e : k = 1 + (i : Int)) (hi : i < (n + 1 - 1).toNat) (e1 : one = facN i) (e2 : other = othN n i) (hb : ¬ (n - k).fmod 2 = 0) : prodW n (i + 1) (one * k) other := by
  have ek : k = (i : Int) + 1 := by omega
  refine prod_w n (i + 1) _ _ h0 h1 (by omega) ?_ ?_
  · rw [e1, facN, ek]; congr 1
  · rw [othN, ← ek, if_neg hb, e2]
theorem prod_one (n one : Int) (i : Nat) (h0 : 0 ≤ n) (hi : i = (n + 1 - 1).toNat) (e : one = facN i) : (facV n == one) = true := by
  rw [e, hi, Int.add_sub_cancel]; simp [facV]
theorem prod_two (n other : Int) (i : Nat) (h0 : 0 ≤ n) (h1 : n ≤ 60) (hi : i = (n + 1 - 1).toNat) (e : other = othN n i) : (fac2V n == other) = true := by
  rw [e, hi, Int.add_sub_cancel]
  have := oth_end0 n.toNat (by omega)
  rw [show ((n.toNat : Nat) : Int) = n by omega] at this
  simp [fac2V, this]
theorem l_prod (n : Int) (t : Tok) : Cl 20 155 [.int n t] (0 ≤ n ∧ n ≤ 60) (fun _ => .bool true) := by
  unfold Cl CbRet; k_fill; intros; rename_i hret
  k_with_none
  (k_with "call ref" => first | k_call_by "use" (c_ifac _ _) | k_call_by "use" (c_ifac2 _ _))
  (k_with "pyIter ref" => k_state_given ["n"] (fun n pre one other => one = facN pre.length ∧ other = othN n pre.length ∧ 0 ≤ one ∧ one < 10 ^ 90 ∧ 0 ≤ other ∧ other < 10 ^ 90) "one" "other")
  (k_with "state" => first
    | exact ⟨rfl, rfl, by decide, by decide, by decide, by decide⟩
    | ((simp only [List.length_append, List.length_cons, List.length_nil, Nat.zero_add]); first
      | exact prod_even _ _ _ _ _ (by omega) (by omega) (by assumption) (by assumption) (by assumption) (by assumption) (by assumption)
      | exact prod_odd _ _ _ _ _ (by omega) (by omega) (by assumption) (by assumption) (by assumption) (by assumption) (by assumption)))
  (k_with "tree" => first | exact prod_one _ _ _ (by omega) (rangeKs_length _ _) (by assumption) | exact prod_two _ _ _ (by omega) (by omega) (rangeKs_length _ _) (by assumption))
  w_top off
  w_strict (refine wpAny_call ?_; cell_enter; k_steps; all_goals (first | cb_end hret))

end Mine
namespace Mine
local macro_rules | `(tactic| k_call_by "use" $g:term) => `(tactic| (k_here; k_dflt (refine' Cl.use $g ?k1 ?k2 ?k3 ?k4 ?k5 ?kK ?kp ?kd ?ku ?kR; (case k1 => k_asm); (case k2 => k_asm); (case k3 => k_asm); (case k4 => k_asm); (case k5 => k_asm); (case kK => first | exact rfl | assumption); (case kp => first | trivial | omega | ((try dsimp only); first | assumption | omega | l_fact)); (case kd => k_room); (case ku => k_units)); intro t9 h9 tk9 F9 N9; (try dsimp only); (try k_extra "fact use"); (try k_fold)))
local macro_rules | `(tactic| k_room) => `(tactic| ((simp only [depth_under_make, depth_under_kw, depth_in1, depth_deeper, depth_caller, recursionLimit] at *); omega))
local macro_rules | `(tactic| k_units) => `(tactic| ((have hcL9 := cLine_is); (simp only [units_in1, units_deeper, Around.mark_units, units_caller, cLine] at *); omega))
local macro_rules | `(tactic| walk_at "InvEndN") => `(tactic| first | k_extra "InvEndN" | k_dflt kst_close)
local macro_rules | `(tactic| walk_at "CompEnd") => `(tactic| k_dflt (refine LCg.CompEnd.intro (by assumption) (by assumption) _ (fun _ hp => hp) (by assumption) (by first | exact True.intro | exact Or.inl (Or.inl (by assumption)) | exact Or.inl (by assumption) | exact Or.inr ⟨_, .head _, rfl, _, rfl⟩ | exact Or.inr ⟨_, by k_mem, rfl, _, rfl⟩) ?_))
local macro_rules | `(tactic| k_call_by "enterC" $_g:term) => `(tactic| (refine' code_defC ?k1 ?k2 ?k3 ?k4 ?k5 ?kA ?kF ?kK ?k6 ?k7 ?k8 ?k9 ?kB ?kD ?_ ?c2 ?c3 ?c4; (case kA => exact rfl); (case kF => exact rfl); (case kK => assumption); (case k1 => k_asm); (case k2 => k_asm); (case k3 => k_asm); (case k4 => k_asm); (case k5 => k_asm); (case k6 => k_is); (case k7 => k_is); (case k8 => k_room); (case k9 => exact BindsTo.of_eq rfl); (case kB => exact rfl); (case kD => decide +kernel); (case c2 => exact rfl); (case c3 => exact rfl); (case c4 => exact rfl); k_whole; intro g' L' h' tk' cells' FG' F' N' Y' B' X' T' l1; have hOc9 := ownOff_cells l1; have kMark9 := kstMark; (try k_lt l1); k_cells Y'; (try simp only [List.cons_append, List.nil_append] at N'); (try dsimp only); (try k_lift B'); (try k_fold)))
local macro_rules | `(tactic| k_call_by "om" $_g:term) => `(tactic| ((repeat (rename (_ ≠ _ ∧ _ ≠ _ ∧ _ ≠ _) ∧ _ => o9; clear o9)); (repeat (rename _ ≠ _ ∧ _ ≠ _ ∧ _ ≠ _ => o9; clear o9)); (repeat (rename @Ne Nat _ _ => o9; clear o9)); omega))
local macro_rules | `(tactic| k_call_by "item" $h:term) => `(tactic| (k_here; (with_reducible rename News _ _ _ _ => myN9); k_dflt (refine' item_list_ints (News.isList (by with_reducible exact myN9) ?hm) $h ?h0 ?h1 ?h2 (fun tI9 => ?hQ)); (case hm => k_dflt k_mem); (case h0 => k_call_by "om" 0); (case h1 => k_call_by "om" 0); (case h2 => k_call_by "om" 0); (try k_fold)))
local macro_rules | `(tactic| k_call_by "enterD" $_g:term) => `(tactic| (refine' code_def ?k1 ?k2 ?k3 ?k4 ?k5 ?kA ?kF ?kK ?k6 ?k7 ?k8 ?k9 ?kB ?_ ?c2 ?c3 ?c4 ?c5; (case kA => exact rfl); (case kF => exact rfl); (case kK => assumption); (case k1 => k_asm); (case k2 => k_asm); (case k3 => k_asm); (case k4 => k_asm); (case k5 => k_asm); (case k6 => k_is); (case k7 => k_is); (case k8 => k_room); (case k9 => first | exact binds_K (by k_in) rfl (by k_is) rfl rfl rfl | exact BindsTo.of_eq rfl); (case c5 => decide); (case kB => exact locs rfl); (case c2 => exact rfl); (case c3 => exact rfl); (case c4 => exact rfl); k_whole; intro g' L' h' FG' F' N' B' X' T'; (try dsimp only); (try k_lift B'); (try k_fold)))
local macro_rules | `(tactic| k_call_by "itemN" $h:term) => `(tactic| (k_here; (with_reducible rename News _ _ _ _ => myN9); k_dflt (refine' item_list_ints_neg (News.isList (by with_reducible exact myN9) ?hm) $h ?h0 ?h1 ?h2 (fun tI9 => ?hQ)); (case hm => k_dflt k_mem); (case h0 => k_call_by "om" 0); (case h1 => k_call_by "om" 0); (case h2 => k_call_by "om" 0); (try k_fold)))

def fibRow (i : Nat) : List Int := (List.range (i + 2)).map fibN
theorem fibRow_succ (i : Nat) : fibRow (i + 1) = fibRow i ++ [fibN (i + 2)] := by
  unfold fibRow
  rw [show i + 1 + 2 = (i + 2) + 1 by omega, List.range_succ, List.map_append]; rfl
theorem fibRow_get (i j : Nat) (h : j < i + 2) : (fibRow i).getD j 0 = fibN j := by
  unfold fibRow
  simp [List.getD_eq_getElem?_getD, h]
theorem fibRow_len (i : Nat) : (fibRow i).length = i + 2 := by simp [fibRow]
theorem fibN_rec (i : Nat) : fibN (i + 2) = fibN (i + 1) + fibN i := by
  show (fibT i).1 + (fibT i).2 = (fibT i).2 + (fibT i).1
  exact Int.add_comm _ _
theorem fibRow_start : ([0, 1] : List Int) = fibRow ([] : List Int).length ∧ ((([0, 1] : List Int).length : Nat) : Int) = ((([] : List Int).length : Nat) : Int) + 2 := ⟨by decide, rfl⟩
theorem fibRow_turn (L : List Int) (i : Nat) (a b : Int) (h : L = fibRow i) (hl : (L.length : Int) = (i : Int) + 2) (ha : a.toNat = i + 1) (hb : b.toNat = i) :
    L ++ [L.getD a.toNat 0 + L.getD b.toNat 0] = fibRow (i + 1) ∧ ((L.length + 1 : Nat) : Int) = ((i + 1 : Nat) : Int) + 2 := by
  refine ⟨?_, by omega⟩
  rw [ha, hb, fibRow_succ, h, fibRow_get i (i + 1) (by omega), fibRow_get i i (by omega), fibN_rec]
theorem fib_law : ∀ n : Nat, n < 61 → (fibZ ((n : Int) + 1) - fibZ n == fibZ ((n : Int) - 1)) = true ∧ (fibZ n == fibN n) = true ∧ (if (n : Int).fmod 2 = 1 then (fibZ (-(n : Int)) == fibN n) = true else (fibZ (-(n : Int)) == -fibN n) = true) := by decide +kernel
theorem fib_lawZ (n : Int) (h0 : 0 ≤ n) (h1 : n ≤ 60) : (fibZ (n + 1) - fibZ n == fibZ (n - 1)) = true ∧ (fibZ n == fibN n.toNat) = true ∧ (if n.fmod 2 = 1 then (fibZ (-n) == fibN n.toNat) = true else (fibZ (-n) == -fibN n.toNat) = true) := by
  have := fib_law n.toNat (by omega)
  rwa [show ((n.toNat : Nat) : Int) = n by omega] at this
theorem fib_get (n : Int) (L : List Int) (d : Nat) (h0 : 0 ≤ n) (h : L = fibRow d) (hd : d = (n - 0).toNat) : L.getD n.toNat 0 = fibN n.toNat := by
  rw [h, fibRow_get _ _ (by omega)]
theorem fib_b (n : Int) (L : List Int) (h0 : 0 ≤ n) (h1 : n ≤ 60) (h : L = fibRow (n - 0).toNat) (hp : n.fmod 2 = 1) : (fibZ (-n) == L.getD n.toNat 0) = true := by
  rw [fib_get n L _ h0 h rfl]; have := (fib_lawZ n h0 h1).2.2; rwa [if_pos hp] at this
theorem fib_c (n : Int) (L : List Int) (h0 : 0 ≤ n) (h1 : n ≤ 60) (h : L = fibRow (n - 0).toNat) (hp : ¬ n.fmod 2 = 1) : (fibZ (-n) == -L.getD n.toNat 0) = true := by
  rw [fib_get n L _ h0 h rfl]; have := (fib_lawZ n h0 h1).2.2; rwa [if_neg hp] at this
theorem fib_d (n : Int) (L : List Int) (h0 : 0 ≤ n) (h1 : n ≤ 60) (h : L = fibRow (n - 0).toNat) : (fibZ n == L.getD n.toNat 0) = true := by
  rw [fib_get n L _ h0 h rfl]; exact (fib_lawZ n h0 h1).2.1
theorem l_sum (n : Int) (t : Tok) : Cl 20 162 [.int n t] (0 ≤ n ∧ n ≤ 60) (fun _ => .bool true) := by
  unfold Cl CbRet; k_fill; intros; rename_i hret
  k_with_none
  (k_with "call ref" => k_call_by "use" (c_ifib _ _))
  (k_with "fact use" => (try simp only [rangeKs_length] at *))
  (k_with "pyIter ref" => ((rename News _ _ _ _ => lN9); have hI9 := ints_two lN9; k_state (fun pre row => row = fibRow pre.length ∧ (row.length : Int) = pre.length + 2) "row"))
  (k_with "state" => first | exact fibRow_start | ((simp only [List.length_append, List.length_cons, List.length_nil, Nat.zero_add]; ((refine fibRow_turn _ _ _ _ (by assumption) (by assumption) ?_ ?_) <;> omega))))
  (k_with "tree" => first | exact (fib_lawZ n (by omega) (by omega)).1 | exact fib_b _ _ (by omega) (by omega) (by assumption) (by assumption) | exact fib_c _ _ (by omega) (by omega) (by assumption) (by assumption) | exact fib_d _ _ (by omega) (by omega) (by assumption))
  w_top off
  w_strict (refine wpAny_call ?_; cell_enter; k_steps; all_goals (first | cb_end hret))

end Mine
namespace Mine
local macro_rules | `(tactic| k_call_by "use" $g:term) => `(tactic| (k_here; k_dflt (refine' Cl.use $g ?k1 ?k2 ?k3 ?k4 ?k5 ?kK ?kp ?kd ?ku ?kR; (case k1 => k_asm); (case k2 => k_asm); (case k3 => k_asm); (case k4 => k_asm); (case k5 => k_asm); (case kK => first | exact rfl | assumption); (case kp => first | trivial | omega | ((try dsimp only); first | assumption | omega | l_fact)); (case kd => k_room); (case ku => k_units)); intro t9 h9 tk9 F9 N9; (try dsimp only); (try k_extra "fact use"); (try k_fold)))
local macro_rules | `(tactic| k_room) => `(tactic| ((simp only [depth_under_make, depth_under_kw, depth_in1, depth_deeper, depth_caller, recursionLimit] at *); omega))
local macro_rules | `(tactic| k_units) => `(tactic| ((have hcL9 := cLine_is); (simp only [units_in1, units_deeper, Around.mark_units, units_caller, cLine] at *); omega))
local macro_rules | `(tactic| walk_at "InvEndN") => `(tactic| first | k_extra "InvEndN" | k_dflt kst_close)
local macro_rules | `(tactic| walk_at "CompEnd") => `(tactic| k_dflt (refine LCg.CompEnd.intro (by assumption) (by assumption) _ (fun _ hp => hp) (by assumption) (by first | exact True.intro | exact Or.inl (Or.inl (by assumption)) | exact Or.inl (by assumption) | exact Or.inr ⟨_, .head _, rfl, _, rfl⟩ | exact Or.inr ⟨_, by k_mem, rfl, _, rfl⟩) ?_))
local macro_rules | `(tactic| k_call_by "enterC" $_g:term) => `(tactic| (refine' code_defC ?k1 ?k2 ?k3 ?k4 ?k5 ?kA ?kF ?kK ?k6 ?k7 ?k8 ?k9 ?kB ?kD ?_ ?c2 ?c3 ?c4; (case kA => exact rfl); (case kF => exact rfl); (case kK => assumption); (case k1 => k_asm); (case k2 => k_asm); (case k3 => k_asm); (case k4 => k_asm); (case k5 => k_asm); (case k6 => k_is); (case k7 => k_is); (case k8 => k_room); (case k9 => exact BindsTo.of_eq rfl); (case kB => exact rfl); (case kD => decide +kernel); (case c2 => exact rfl); (case c3 => exact rfl); (case c4 => exact rfl); k_whole; intro g' L' h' tk' cells' FG' F' N' Y' B' X' T' l1; have hOc9 := ownOff_cells l1; have kMark9 := kstMark; (try k_lt l1); k_cells Y'; (try simp only [List.cons_append, List.nil_append] at N'); (try dsimp only); (try k_lift B'); (try k_fold)))
local macro_rules | `(tactic| k_call_by "om" $_g:term) => `(tactic| ((repeat (rename (_ ≠ _ ∧ _ ≠ _ ∧ _ ≠ _) ∧ _ => o9; clear o9)); (repeat (rename _ ≠ _ ∧ _ ≠ _ ∧ _ ≠ _ => o9; clear o9)); (repeat (rename @Ne Nat _ _ => o9; clear o9)); omega))
local macro_rules | `(tactic| k_call_by "item" $h:term) => `(tactic| (k_here; (with_reducible rename News _ _ _ _ => myN9); k_dflt (refine' item_list_ints (News.isList (by with_reducible exact myN9) ?hm) $h ?h0 ?h1 ?h2 (fun tI9 => ?hQ)); (case hm => k_dflt k_mem); (case h0 => k_call_by "om" 0); (case h1 => k_call_by "om" 0); (case h2 => k_call_by "om" 0); (try k_fold)))
local macro_rules | `(tactic| k_call_by "enterD" $_g:term) => `(tactic| (refine' code_def ?k1 ?k2 ?k3 ?k4 ?k5 ?kA ?kF ?kK ?k6 ?k7 ?k8 ?k9 ?kB ?_ ?c2 ?c3 ?c4 ?c5; (case kA => exact rfl); (case kF => exact rfl); (case kK => assumption); (case k1 => k_asm); (case k2 => k_asm); (case k3 => k_asm); (case k4 => k_asm); (case k5 => k_asm); (case k6 => k_is); (case k7 => k_is); (case k8 => k_room); (case k9 => first | exact binds_K (by k_in) rfl (by k_is) rfl rfl rfl | exact BindsTo.of_eq rfl); (case c5 => decide); (case kB => exact locs rfl); (case c2 => exact rfl); (case c3 => exact rfl); (case c4 => exact rfl); k_whole; intro g' L' h' FG' F' N' B' X' T'; (try dsimp only); (try k_lift B'); (try k_fold)))
local macro_rules | `(tactic| k_call_by "itemN" $h:term) => `(tactic| (k_here; (with_reducible rename News _ _ _ _ => myN9); k_dflt (refine' item_list_ints_neg (News.isList (by with_reducible exact myN9) ?hm) $h ?h0 ?h1 ?h2 (fun tI9 => ?hQ)); (case hm => k_dflt k_mem); (case h0 => k_call_by "om" 0); (case h1 => k_call_by "om" 0); (case h2 => k_call_by "om" 0); (try k_fold)))

def fallN : Nat → Int | 0 => 1 | i + 1 => fallN i * (10 ^ Int.toNat 60 - (i : Int))
theorem bits_of_lt {x : Int} {n : Nat} (h : x.natAbs < 2 ^ n) : Builtin.Int.intBits x ≤ n := by
  unfold Builtin.Int.intBits
  split
  · exact Nat.zero_le _
  · rename_i h0
    have h1 : x.natAbs ≠ 0 := by intro e; exact h0 (by simpa using e)
    have := (Nat.log2_lt h1).mpr h
    omega
theorem fall_bits : ∀ i : Nat, i < 16 → (fallN i).natAbs < 2 ^ 4000 := by decide +kernel
theorem fall_gap : ∀ k : Nat, k < 16 → ((10 : Int) ^ Int.toNat 60 - k).natAbs < 2 ^ 4000 := by decide +kernel
theorem fall_ok (p k : Int) (i : Nat) (h : p = fallN i) (hi : i < 16) (h0 : 0 ≤ k) (h1 : k < 16) : IntMulOk p (10 ^ Int.toNat 60 - k) := by
  have hk := fall_gap k.toNat (by omega)
  rw [show ((k.toNat : Nat) : Int) = k by omega] at hk
  have e : (4000 : Nat) ≤ 2 ^ 20 := by decide
  exact IntMulOk.of_bits (h ▸ Nat.le_trans (bits_of_lt (fall_bits i hi)) e) (Nat.le_trans (bits_of_lt hk) e)
theorem pow60 (k : Int) (h0 : 0 ≤ k) (h1 : k ≤ 20) : (Builtin.Int.intBits ((10 : Int) ^ Int.toNat 60) : Int) * k ≤ 2 ^ 27 := by
  have : Builtin.Int.intBits ((10 : Int) ^ Int.toNat 60) = 200 := by decide +kernel
  rw [this]; omega
theorem st1_small0 : ∀ n : Nat, n < 13 → ∀ k : Nat, k < 14 → -2 ^ 40 < st1V n k ∧ st1V n k < 2 ^ 40 := by decide +kernel
theorem st1_small (n k : Int) (h0 : 0 ≤ n) (h1 : n ≤ 12) (h2 : 0 ≤ k) (h3 : k ≤ 13) : -2 ^ 40 < st1V n k ∧ st1V n k < 2 ^ 40 := by
  have := st1_small0 n.toNat (by omega) k.toNat (by omega)
  rwa [show ((n.toNat : Nat) : Int) = n by omega, show ((k.toNat : Nat) : Int) = k by omega] at this
theorem st2_small0 : ∀ n : Nat, n < 13 → ∀ k : Nat, k < 14 → -2 ^ 40 < st2V n k ∧ st2V n k < 2 ^ 40 := by decide +kernel
theorem st2_small (n k : Int) (h0 : 0 ≤ n) (h1 : n ≤ 12) (h2 : 0 ≤ k) (h3 : k ≤ 13) : -2 ^ 40 < st2V n k ∧ st2V n k < 2 ^ 40 := by
  have := st2_small0 n.toNat (by omega) k.toNat (by omega)
  rwa [show ((n.toNat : Nat) : Int) = n by omega, show ((k.toNat : Nat) : Int) = k by omega] at this
def pwN (n : Int) : Nat → Int | 0 => 0 | i + 1 => pwN n i + st2V n i * fallN i
theorem st1_ok (n k x : Int) (h0 : 0 ≤ n) (h1 : n ≤ 12) (h2 : 0 ≤ k) (h3 : k ≤ 13) : IntMulOk (st1V n k) x := by
  have := st1_small n k h0 h1 h2 h3
  exact IntMulOk.of_left (intBits_le_64 (by omega) (by omega))
theorem st2_ok (n k x : Int) (h0 : 0 ≤ n) (h1 : n ≤ 12) (h2 : 0 ≤ k) (h3 : k ≤ 13) : IntMulOk (st2V n k) x := by
  have := st2_small n k h0 h1 h2 h3
  exact IntMulOk.of_left (intBits_le_64 (by omega) (by omega))
theorem fall_turn (p k : Int) (i : Nat) (h : p = fallN i) (hk : k = 0 + (i : Int)) : p * (10 ^ Int.toNat 60 - k) = fallN (i + 1) := by
  rw [fallN, h, show k = (i : Int) by omega]
theorem pw_turn (n q p k : Int) (i : Nat) (h : q = pwN n i) (h' : p = fallN i) (hk : k = 0 + (i : Int)) : q + st2V n k * p = pwN n (i + 1) ∧ p * (10 ^ Int.toNat 60 - k) = fallN (i + 1) := by
  refine ⟨?_, fall_turn p k i h' hk⟩
  rw [pwN, h, h', show k = (i : Int) by omega]
theorem stir_a0 : ∀ n : Nat, n < 13 → fallN n = (List.map (fun k' => st1V n k' * ((10 : Int) ^ Int.toNat 60) ^ k'.toNat) (rangeKs 0 ((n : Int) + 2 - 0).toNat)).sum := by decide +kernel
theorem stir_b0 : ∀ n : Nat, n < 13 → pwN n (n + 2) = ((10 : Int) ^ Int.toNat 60) ^ n := by decide +kernel
theorem stir_a (n p : Int) (d : Nat) (h0 : 0 ≤ n) (h1 : n ≤ 12) (hd : d = (n - 0).toNat) (hp : p = fallN d) (hne : p ≠ (List.map (fun k' => st1V n k' * ((10 : Int) ^ Int.toNat 60) ^ k'.toNat) (rangeKs 0 (n + 2 - 0).toNat)).sum) : False := by
  have := stir_a0 n.toNat (by omega)
  rw [show ((n.toNat : Nat) : Int) = n by omega] at this
  exact hne (by rw [hp, hd, Int.sub_zero, this, Int.sub_zero])
theorem stir_b (n q : Int) (d : Nat) (h0 : 0 ≤ n) (h1 : n ≤ 12) (hd : d = (n + 2 - 0).toNat) (hq : q = pwN n d) : (q == ((10 : Int) ^ Int.toNat 60) ^ n.toNat) = true := by
  have := stir_b0 n.toNat (by omega)
  rw [show ((n.toNat : Nat) : Int) = n by omega] at this
  rw [hq, hd, show (n + 2 - 0).toNat = n.toNat + 2 by omega, this]; simp
theorem l_stir (n : Int) (t : Tok) : Cl 20 136 [.int n t] (0 ≤ n ∧ n ≤ 12) (fun _ => .bool true) := by
  unfold Cl CbRet; k_fill; intros; rename_i hret
  k_with_none
  (k_with "call ref" => first | k_call_by "use" (c_st1 _ _ _ _) | k_call_by "use" (c_st2 _ _ _ _))
  (k_with "pyIter ref" => k_of "k" => (k_state (fun pre product => product = fallN pre.length) "product"))
  (k_with "pyIter ref" => k_of "k" => (k_state (fun pre powers product => powers = pwN n pre.length ∧ product = fallN pre.length) "powers" "product"))
  (k_with "state" => first
    | ((simp only [List.length_nil]); first | (k_dflt exact rfl) | (k_dflt exact ⟨rfl, rfl⟩))
    | ((simp only [List.length_append, List.length_cons, List.length_nil, Nat.zero_add]); first
      | exact fall_turn _ _ _ (by assumption) (by assumption)
      | exact pw_turn _ _ _ _ _ (by assumption) (by assumption) (by assumption)))
  (k_with "binaryOp Pow int int" => (k_here; refine pow_int (by omega) (pow60 _ (by omega) (by omega)) ?_))
  (k_with "binaryOp Mult int int" => (k_here; first
    | refine mul_int ?_ (st1_ok _ _ _ (by omega) (by omega) (by omega) (by omega))
    | refine mul_int ?_ (st2_ok _ _ _ (by omega) (by omega) (by omega) (by omega))
    | refine mul_int ?_ (fall_ok _ _ _ (by assumption) (by omega) (by omega) (by omega))))
  (k_with "tree" => first
    | exact (stir_a n _ _ (by omega) (by omega) (rangeKs_length _ _) (by assumption) (by assumption)).elim
    | exact stir_b _ _ _ (by omega) (by omega) (rangeKs_length _ _) (by assumption))
  w_top off
  w_strict (refine wpAny_call ?_; (k_call_by "enterC" n); k_steps; all_goals (first | cb_end hret))

end Mine
namespace Mine
local macro_rules | `(tactic| k_call_by "use" $g:term) => `(tactic| (k_here; k_dflt (refine' Cl.use $g ?k1 ?k2 ?k3 ?k4 ?k5 ?kK ?kp ?kd ?ku ?kR; (case k1 => k_asm); (case k2 => k_asm); (case k3 => k_asm); (case k4 => k_asm); (case k5 => k_asm); (case kK => first | exact rfl | assumption); (case kp => first | trivial | omega | ((try dsimp only); first | assumption | omega | l_fact)); (case kd => k_room); (case ku => k_units)); intro t9 h9 tk9 F9 N9; (try dsimp only); (try k_extra "fact use"); (try k_fold)))
local macro_rules | `(tactic| k_room) => `(tactic| ((simp only [depth_under_make, depth_under_kw, depth_in1, depth_deeper, depth_caller, recursionLimit] at *); omega))
local macro_rules | `(tactic| k_units) => `(tactic| ((have hcL9 := cLine_is); (simp only [units_in1, units_deeper, Around.mark_units, units_caller, cLine] at *); omega))
local macro_rules | `(tactic| walk_at "InvEndN") => `(tactic| first | k_extra "InvEndN" | k_dflt kst_close)
local macro_rules | `(tactic| walk_at "CompEnd") => `(tactic| k_dflt (refine LCg.CompEnd.intro (by assumption) (by assumption) _ (fun _ hp => hp) (by assumption) (by first | exact True.intro | exact Or.inl (Or.inl (by assumption)) | exact Or.inl (by assumption) | exact Or.inr ⟨_, .head _, rfl, _, rfl⟩ | exact Or.inr ⟨_, by k_mem, rfl, _, rfl⟩) ?_))
local macro_rules | `(tactic| k_call_by "enterC" $_g:term) => `(tactic| (refine' code_defC ?k1 ?k2 ?k3 ?k4 ?k5 ?kA ?kF ?kK ?k6 ?k7 ?k8 ?k9 ?kB ?kD ?_ ?c2 ?c3 ?c4; (case kA => exact rfl); (case kF => exact rfl); (case kK => assumption); (case k1 => k_asm); (case k2 => k_asm); (case k3 => k_asm); (case k4 => k_asm); (case k5 => k_asm); (case k6 => k_is); (case k7 => k_is); (case k8 => k_room); (case k9 => exact BindsTo.of_eq rfl); (case kB => exact rfl); (case kD => decide +kernel); (case c2 => exact rfl); (case c3 => exact rfl); (case c4 => exact rfl); k_whole; intro g' L' h' tk' cells' FG' F' N' Y' B' X' T' l1; have hOc9 := ownOff_cells l1; have kMark9 := kstMark; (try k_lt l1); k_cells Y'; (try simp only [List.cons_append, List.nil_append] at N'); (try dsimp only); (try k_lift B'); (try k_fold)))
local macro_rules | `(tactic| k_call_by "om" $_g:term) => `(tactic| ((repeat (rename (_ ≠ _ ∧ _ ≠ _ ∧ _ ≠ _) ∧ _ => o9; clear o9)); (repeat (rename _ ≠ _ ∧ _ ≠ _ ∧ _ ≠ _ => o9; clear o9)); (repeat (rename @Ne Nat _ _ => o9; clear o9)); omega))
local macro_rules | `(tactic| k_call_by "item" $h:term) => `(tactic| (k_here; (with_reducible rename News _ _ _ _ => myN9); k_dflt (refine' item_list_ints (News.isList (by with_reducible exact myN9) ?hm) $h ?h0 ?h1 ?h2 (fun tI9 => ?hQ)); (case hm => k_dflt k_mem); (case h0 => k_call_by "om" 0); (case h1 => k_call_by "om" 0); (case h2 => k_call_by "om" 0); (try k_fold)))
local macro_rules | `(tactic| k_call_by "enterD" $_g:term) => `(tactic| (refine' code_def ?k1 ?k2 ?k3 ?k4 ?k5 ?kA ?kF ?kK ?k6 ?k7 ?k8 ?k9 ?kB ?_ ?c2 ?c3 ?c4 ?c5; (case kA => exact rfl); (case kF => exact rfl); (case kK => assumption); (case k1 => k_asm); (case k2 => k_asm); (case k3 => k_asm); (case k4 => k_asm); (case k5 => k_asm); (case k6 => k_is); (case k7 => k_is); (case k8 => k_room); (case k9 => first | exact binds_K (by k_in) rfl (by k_is) rfl rfl rfl | exact BindsTo.of_eq rfl); (case c5 => decide); (case kB => exact locs rfl); (case c2 => exact rfl); (case c3 => exact rfl); (case c4 => exact rfl); k_whole; intro g' L' h' FG' F' N' B' X' T'; (try dsimp only); (try k_lift B'); (try k_fold)))
local macro_rules | `(tactic| k_call_by "itemN" $h:term) => `(tactic| (k_here; (with_reducible rename News _ _ _ _ => myN9); k_dflt (refine' item_list_ints_neg (News.isList (by with_reducible exact myN9) ?hm) $h ?h0 ?h1 ?h2 (fun tI9 => ?hQ)); (case hm => k_dflt k_mem); (case h0 => k_call_by "om" 0); (case h1 => k_call_by "om" 0); (case h2 => k_call_by "om" 0); (try k_fold)))

/-- the end of an element of a comprehension: the ledger as it was, the list so far as the word says -/
def MyEl (news : List (Addr × Obj)) (J : List Value → Prop) (ys : List Value) (news' : List (Addr × Obj)) : Prop := news' = news ∧ J ys
def CompMark : Prop := True
section
variable {prog : Program} {w : World} {A : Around} {h₀ : Heap} {L : Addr} {m : Str → Option Value} {env : Env} {ct elt : Expr} {x : Str} {scope : Scope} {cl : List (Str × Addr)} {s : Shared} {S : List (Addr × Obj) → Prop} {P : Nat → Value → Prop} {Fin : List Value → List (Addr × Obj) → Prop} {news : List (Addr × Obj)}
/-- a comprehension by a word over the list so far -/
theorem my_comp {n : Nat} (J : Nat → List Value → Prop) (h0 : J 0 [])
    (turn : ∀ i v I oI C oC D m₂ ys h tk (E' : Value → Shared → Prop), i < n → P i v → J i ys → LCg.NsObj oC m₂ → m₂ x = some v → Fr h₀ L h m → News h₀ L h ((I, oI) :: (C, oC) :: (D, LCg.lst ys) :: news) → LCg.Off3 I C D news → ((@Ne Nat I C) ∧ (@Ne Nat I D) ∧ (@Ne Nat C D)) → CompMark →
      wpAny (model prog w) A (eval elt (compEnvC scope cl C env)) (LCg.CompEnd h₀ L m { s with heap := h, toks := tk } I oI C oC D (LCg.lst ys) S (fun y news' => MyEl news (J (i + 1)) (ys ++ [y]) news')) E' { s with heap := h, toks := tk })
    (fin : ∀ ys, J n ys → Fin ys news) : LCg.CompRest prog w A h₀ L m env elt x scope cl s S P Fin n 0 [] news := by
  have key : ∀ (j i : Nat) (ys : List Value), i + j = n → J i ys → LCg.CompRest prog w A h₀ L m env elt x scope cl s S P Fin j i ys news := by
    intro j
    induction j with
    | zero =>
      intro i ys hi hy
      have e : i = n := by omega
      subst e
      exact LCg.CompRest.zero (fin ys hy)
    | succ j ih =>
      intro i ys hi hy
      refine LCg.CompRest.succ ?_
      intro v I oI C oC D m₂ h tk E' hv hC hx F N off ne
      refine wpAny_mono (turn i v I oI C oC D m₂ ys h tk E' (by omega) hv hy hC hx F N off ne True.intro) (fun y s₂ hq => ?_) fun _ _ e => e
      obtain ⟨h', tk', nw, e, F', N', off', hS, hn, hJ⟩ := hq
      rw [hn] at N' off' hS
      refine ⟨h', tk', news, e, F', N', off', hS, ?_⟩
      exact ih (i + 1) _ (by omega) hJ
  exact key n 0 [] (by omega) h0
/-- the same of a comprehension with one test -/
theorem my_compT {n : Nat} (J : Nat → List Value → Prop) (h0 : J 0 [])
    (turn : ∀ i v I oI C oC D m₂ ys h tk (E' : Value → Shared → Prop), i < n → P i v → J i ys → LCg.NsObj oC m₂ → m₂ x = some v → Fr h₀ L h m → News h₀ L h ((I, oI) :: (C, oC) :: (D, LCg.lst ys) :: news) → LCg.Off3 I C D news → ((@Ne Nat I C) ∧ (@Ne Nat I D) ∧ (@Ne Nat C D)) → CompMark →
      wpAny (model prog w) A (isTrue ct (compEnvC scope cl C env) (eval ct (compEnvC scope cl C env))) (fun ok s' => if ok = true then
        wpAny (model prog w) A (eval elt (compEnvC scope cl C env)) (LCg.CompEnd h₀ L m { s with heap := h, toks := tk } I oI C oC D (LCg.lst ys) S (fun y news' => MyEl news (J (i + 1)) (ys ++ [y]) news')) E' s'
        else LCg.CompEnd h₀ L m { s with heap := h, toks := tk } I oI C oC D (LCg.lst ys) S (fun _ news' => MyEl news (J (i + 1)) ys news') Value.none s') E' { s with heap := h, toks := tk })
    (fin : ∀ ys, J n ys → Fin ys news) : LCt.CompRestT prog w A h₀ L m env ct elt x scope cl s S P Fin n 0 [] news := by
  have key : ∀ (j i : Nat) (ys : List Value), i + j = n → J i ys → LCt.CompRestT prog w A h₀ L m env ct elt x scope cl s S P Fin j i ys news := by
    intro j
    induction j with
    | zero =>
      intro i ys hi hy
      have e : i = n := by omega
      subst e
      exact LCt.CompRestT.zero (fin ys hy)
    | succ j ih =>
      intro i ys hi hy
      refine LCt.CompRestT.succ ?_
      intro v I oI C oC D m₂ h tk E' hv hC hx F N off ne
      refine wpAny_mono (turn i v I oI C oC D m₂ ys h tk E' (by omega) hv hy hC hx F N off ne True.intro) (fun ok s' hq => ?_) fun _ _ e => e
      have fin' : ∀ {zs : List Value} {y : Value} {s₂ : Shared}, (∃ h' tk' nw, s₂ = { s with heap := h', toks := tk' } ∧ Fr h₀ L h' m ∧ News h₀ L h' ((I, oI) :: (C, oC) :: (D, LCg.lst ys) :: nw) ∧ LCg.Off3 I C D nw ∧ S nw ∧ MyEl news (J (i + 1)) zs nw) →
          LCg.CompEnd h₀ L m { s with heap := h, toks := tk } I oI C oC D (LCg.lst ys) S (fun _ news' => LCt.CompRestT prog w A h₀ L m env ct elt x scope cl s S P Fin j (i + 1) zs news') y s₂ := by
        rintro zs y s₂ ⟨h', tk', nw, e, F', N', off', hS, hn, hJ⟩
        rw [hn] at N' off' hS
        exact ⟨h', tk', news, e, F', N', off', hS, ih (i + 1) _ (by omega) hJ⟩
      cases ok with
      | true =>
        simp only [if_true] at hq ⊢
        refine wpAny_mono hq (fun y s₂ hq => ?_) fun _ _ e => e
        exact fin' (y := y) hq
      | false =>
        simp only [Bool.false_eq_true, if_false] at hq ⊢
        exact fin' (y := Value.none) hq
  exact key n 0 [] (by omega) h0
end
theorem bools_snoc {vs : List Value} {bs : List Bool} (h : LSm.BoolsAre vs bs) (b : Bool) : LSm.BoolsAre (vs ++ [.bool b]) (bs ++ [b]) := by
  induction h with
  | nil => exact .cons b .nil
  | cons c _ ih => exact .cons c ih
theorem bools_rep {vs : List Value} {i : Nat} (h : LSm.BoolsAre vs (List.replicate i true)) : LSm.BoolsAre (vs ++ [.bool true]) (List.replicate (i + 1) true) := by
  rw [List.replicate_succ']; exact bools_snoc h true
theorem all_rep (i : Nat) : (List.replicate i true).all id = true := by induction i with | zero => rfl | succ i ih => rw [List.replicate_succ, List.all_cons, ih]; rfl
/-- a contract of a def that hands back a new list of ints -/
def ClL (G : Addr → List (Addr × Obj) → Prop) (D : Nat) (f : Addr) (vs : List Value) (pre : Prop) (R : List Int → Prop) : Prop :=
  ∀ (w : World) (p : Program) (loose : List Str) (mean : ExcName → Option Value) (mg mb : Str → Option Value) (news : List (Addr × Obj)) (dp un : Nat) (gd : Option (List Code)) (cn : Str) (cs : Scope) (a : Addr) (ccd : Value) (cl : List (Str × Addr)) (outer : List Env) (A₀ : Around) (base h₀ : Heap) (L : Addr) (m : Str → Option Value) (s : Shared) (Q E : Value → Shared → Prop),
    Below A₀ base outer h₀ → Fr h₀ L s.heap m → (hd.heap_39 w.params).In h₀ → News h₀ L s.heap news → Top p loose mean mg mb h₀ → cs.kind = .function → pre → dp + D < recursionLimit → un + 8 * D < cLine →
      (∀ (D' : Addr) (ws : List Value) (ns : List Int) (nn : Nat) (h' : Heap) (tk' : Nat), Fr h₀ L h' m → News h₀ L h' ((D', listOf ws.toArray nn) :: news) → G D' news → IntsAre ws ns → R ns → Q (.ref D') { s with heap := h', toks := tk' }) →
      wpAny (model PySem.Challenge.rw_ah5004_01.row.prog w) (ktrTop dp un gd cn cs L a ccd cl outer) (call (.ref f) vs) Q E s
theorem ClL.use {G : Addr → List (Addr × Obj) → Prop} {D : Nat} {f : Addr} {vs : List Value} {pre : Prop} {R : List Int → Prop} (h : ClL G D f vs pre R) {w : World} {p : Program} {loose : List Str} {mean : ExcName → Option Value} {mg mb : Str → Option Value} {news : List (Addr × Obj)} {dp un : Nat} {gd : Option (List Code)} {cn : Str} {cs : Scope} {a : Addr} {ccd : Value} {cl : List (Str × Addr)} {outer : List Env} {A₀ : Around} {base h₀ : Heap} {L : Addr} {m : Str → Option Value} {s : Shared} {Q E : Value → Shared → Prop}
    (k1 : Below A₀ base outer h₀) (k2 : Fr h₀ L s.heap m) (k3 : (hd.heap_39 w.params).In h₀) (k4 : News h₀ L s.heap news) (k5 : Top p loose mean mg mb h₀) (k6 : cs.kind = .function) (k7 : pre) (k8 : dp + D < recursionLimit) (k9 : un + 8 * D < cLine)
    (k10 : ∀ (D' : Addr) (ws : List Value) (ns : List Int) (nn : Nat) (h' : Heap) (tk' : Nat), Fr h₀ L h' m → News h₀ L h' ((D', listOf ws.toArray nn) :: news) → G D' news → IntsAre ws ns → R ns → Q (.ref D') { s with heap := h', toks := tk' }) :
      wpAny (model PySem.Challenge.rw_ah5004_01.row.prog w) (ktrTop dp un gd cn cs L a ccd cl outer) (call (.ref f) vs) Q E s :=
  h w p loose mean mg mb news dp un gd cn cs a ccd cl outer A₀ base h₀ L m s Q E k1 k2 k3 k4 k5 k6 k7 k8 k9 k10

end Mine
namespace Mine
local macro_rules | `(tactic| k_call_by "use" $g:term) => `(tactic| (k_here; k_dflt (refine' Cl.use $g ?k1 ?k2 ?k3 ?k4 ?k5 ?kK ?kp ?kd ?ku ?kR; (case k1 => k_asm); (case k2 => k_asm); (case k3 => k_asm); (case k4 => k_asm); (case k5 => k_asm); (case kK => first | exact rfl | assumption); (case kp => first | trivial | omega | ((try dsimp only); first | assumption | omega | l_fact)); (case kd => k_room); (case ku => k_units)); intro t9 h9 tk9 F9 N9; (try dsimp only); (try k_extra "fact use"); (try k_fold)))
local macro_rules | `(tactic| k_room) => `(tactic| ((simp only [depth_under_make, depth_under_kw, depth_in1, depth_deeper, depth_caller, recursionLimit] at *); omega))
local macro_rules | `(tactic| k_units) => `(tactic| ((have hcL9 := cLine_is); (simp only [units_in1, units_deeper, Around.mark_units, units_caller, cLine] at *); omega))
local macro_rules | `(tactic| walk_at "InvEndN") => `(tactic| first | k_extra "InvEndN" | k_dflt kst_close)
local macro_rules | `(tactic| walk_at "CompEnd") => `(tactic| k_dflt (refine LCg.CompEnd.intro (by assumption) (by assumption) _ (fun _ hp => hp) (by assumption) (by first | exact True.intro | exact Or.inl (Or.inl (by assumption)) | exact Or.inl (by assumption) | exact Or.inr ⟨_, .head _, rfl, _, rfl⟩ | exact Or.inr ⟨_, by k_mem, rfl, _, rfl⟩) ?_))
local macro_rules | `(tactic| k_call_by "enterC" $_g:term) => `(tactic| (refine' code_defC ?k1 ?k2 ?k3 ?k4 ?k5 ?kA ?kF ?kK ?k6 ?k7 ?k8 ?k9 ?kB ?kD ?_ ?c2 ?c3 ?c4; (case kA => exact rfl); (case kF => exact rfl); (case kK => assumption); (case k1 => k_asm); (case k2 => k_asm); (case k3 => k_asm); (case k4 => k_asm); (case k5 => k_asm); (case k6 => k_is); (case k7 => k_is); (case k8 => k_room); (case k9 => exact BindsTo.of_eq rfl); (case kB => exact rfl); (case kD => decide +kernel); (case c2 => exact rfl); (case c3 => exact rfl); (case c4 => exact rfl); k_whole; intro g' L' h' tk' cells' FG' F' N' Y' B' X' T' l1; have hOc9 := ownOff_cells l1; have kMark9 := kstMark; (try k_lt l1); k_cells Y'; (try simp only [List.cons_append, List.nil_append] at N'); (try dsimp only); (try k_lift B'); (try k_fold)))
local macro_rules | `(tactic| k_call_by "om" $_g:term) => `(tactic| ((repeat (rename (_ ≠ _ ∧ _ ≠ _ ∧ _ ≠ _) ∧ _ => o9; clear o9)); (repeat (rename _ ≠ _ ∧ _ ≠ _ ∧ _ ≠ _ => o9; clear o9)); (repeat (rename @Ne Nat _ _ => o9; clear o9)); omega))
local macro_rules | `(tactic| k_call_by "item" $h:term) => `(tactic| (k_here; (with_reducible rename News _ _ _ _ => myN9); k_dflt (refine' item_list_ints (News.isList (by with_reducible exact myN9) ?hm) $h ?h0 ?h1 ?h2 (fun tI9 => ?hQ)); (case hm => k_dflt k_mem); (case h0 => k_call_by "om" 0); (case h1 => k_call_by "om" 0); (case h2 => k_call_by "om" 0); (try k_fold)))
local macro_rules | `(tactic| k_call_by "enterD" $_g:term) => `(tactic| (refine' code_def ?k1 ?k2 ?k3 ?k4 ?k5 ?kA ?kF ?kK ?k6 ?k7 ?k8 ?k9 ?kB ?_ ?c2 ?c3 ?c4 ?c5; (case kA => exact rfl); (case kF => exact rfl); (case kK => assumption); (case k1 => k_asm); (case k2 => k_asm); (case k3 => k_asm); (case k4 => k_asm); (case k5 => k_asm); (case k6 => k_is); (case k7 => k_is); (case k8 => k_room); (case k9 => first | exact binds_K (by k_in) rfl (by k_is) rfl rfl rfl | exact BindsTo.of_eq rfl); (case c5 => decide); (case kB => exact locs rfl); (case c2 => exact rfl); (case c3 => exact rfl); (case c4 => exact rfl); k_whole; intro g' L' h' FG' F' N' B' X' T'; (try dsimp only); (try k_lift B'); (try k_fold)))
local macro_rules | `(tactic| k_call_by "itemN" $h:term) => `(tactic| (k_here; (with_reducible rename News _ _ _ _ => myN9); k_dflt (refine' item_list_ints_neg (News.isList (by with_reducible exact myN9) ?hm) $h ?h0 ?h1 ?h2 (fun tI9 => ?hQ)); (case hm => k_dflt k_mem); (case h0 => k_call_by "om" 0); (case h1 => k_call_by "om" 0); (case h2 => k_call_by "om" 0); (try k_fold)))

local macro_rules | `(tactic| k_call_by "useL" $g:term) => `(tactic| (k_here; k_dflt (refine' ClL.use $g ?k1 ?k2 ?k3 ?k4 ?k5 ?kK ?kp ?kd ?ku ?kR; (case k1 => k_asm); (case k2 => k_asm); (case k3 => k_asm); (case k4 => k_asm); (case k5 => k_asm); (case kK => first | exact rfl | assumption); (case kp => first | trivial | omega | ((try dsimp only); first | assumption | omega | l_fact)); (case kd => k_room); (case ku => k_units)); intro D9 ws9 ns9 nn9 h9 tk9 F9 N9 l9 hI9 hR9; (try simp only [AllLt, LCg.Off1, and_true] at l9); (try dsimp only); (try k_extra "fact useL"); (try k_fold)))

def gsIt (t b : Int) : Nat → Int | 0 => t | i + 1 => (gsIt t b i).fdiv b + 2
def gsL (t b : Int) (i : Nat) : List Int := (List.range (i + 1)).map (gsIt t b)
theorem gsL_succ (t b : Int) (i : Nat) : gsL t b (i + 1) = gsL t b i ++ [gsIt t b (i + 1)] := by
  unfold gsL; rw [List.range_succ, List.map_append]; rfl
theorem gsL_len (t b : Int) (i : Nat) : (gsL t b i).length = i + 1 := by simp [gsL]
theorem gsL_get (t b : Int) (i j : Nat) (h : j ≤ i) : (gsL t b i).getD j 0 = gsIt t b j := by
  unfold gsL
  simp [List.getD_eq_getElem?_getD, show j < i + 1 by omega]
abbrev gsP (start target b : Int) (ns : List Int) (i : Nat) : Prop := ns = gsL target b i ∧ (ns.length : Int) = (i : Int) + 1 ∧ (∀ j < i, start * b < gsIt target b j) ∧ (i : Int) + gsIt target b i ≤ target ∧ 2 ≤ gsIt target b i
theorem gs_start (start target b : Int) (h : 2 ≤ target) : gsP start target b [target] 0 := ⟨rfl, rfl, fun j hj => by omega, by show (0 : Int) + target ≤ target; omega, h⟩
theorem gs_low (start b : Int) (h0 : 4 ≤ start) (h1 : 2 ≤ b) : 8 ≤ start * b := by
  have := Int.mul_le_mul h0 h1 (by decide) (by omega)
  simpa using this
theorem gs_turn (start target b : Int) (ns : List Int) (i : Nat) (h0 : 4 ≤ start) (h1 : 2 ≤ b ∧ b ≤ 4) (h : gsP start target b ns i) (ht : start * b < ns.getD (-1 + (ns.length : Int)).toNat 0) :
    gsP start target b (ns ++ [(ns.getD (-1 + (ns.length : Int)).toNat 0).fdiv b + 2]) (i + 1) ∧ (gsIt target b (i + 1)).toNat < (gsIt target b i).toNat := by
  obtain ⟨h2, h3, h4, h5, h6⟩ := h
  have e : ns.getD (-1 + (ns.length : Int)).toNat 0 = gsIt target b i := by rw [show (-1 + (ns.length : Int)).toNat = i by omega, h2, gsL_get _ _ _ _ (Nat.le_refl i)]
  rw [e] at ht ⊢
  have h8 := gs_low start b h0 h1.1
  have hd : (gsIt target b i).fdiv b = gsIt target b i / b := Int.fdiv_eq_ediv_of_nonneg _ (by omega)
  have e1 : gsIt target b (i + 1) = gsIt target b i / b + 2 := by rw [gsIt, hd]
  have hle : gsIt target b i / b ≤ gsIt target b i / 2 := by
    rcases (show b = 2 ∨ b = 3 ∨ b = 4 by omega) with rfl | rfl | rfl <;> omega
  have hge : 0 ≤ gsIt target b i / b := Int.ediv_nonneg (by omega) (by omega)
  refine ⟨⟨?_, ?_, fun j hj => ?_, ?_, ?_⟩, ?_⟩
  · rw [gsL_succ, h2, gsIt]
  · rw [List.length_append, List.length_singleton]; omega
  · rcases (show j < i ∨ j = i by omega) with h | rfl
    · exact h4 j h
    · exact ht
  · rw [e1]; omega
  · rw [e1]; omega
  · rw [e1]; omega
abbrev gsR (start target b : Int) (ns : List Int) : Prop := ∃ i : Nat, ns = (gsL target b i).reverse ∧ (ns.length : Int) = (i : Int) + 1 ∧ i ≤ 6000 ∧ (∀ j < i, start * b < gsIt target b j) ∧ gsIt target b i ≤ start * b
theorem gs_end (start target b : Int) (ns : List Int) (i : Nat) (h0 : target ≤ 5900) (h : gsP start target b ns i) (ht : ¬ start * b < ns.getD (-1 + (ns.length : Int)).toNat 0) : gsR start target b ns.reverse := by
  obtain ⟨h2, h3, h4, h5, h6⟩ := h
  have e : ns.getD (-1 + (ns.length : Int)).toNat 0 = gsIt target b i := by rw [show (-1 + (ns.length : Int)).toNat = i by omega, h2, gsL_get _ _ _ _ (Nat.le_refl i)]
  rw [e] at ht
  exact ⟨i, by rw [h2], by rw [List.length_reverse]; exact h3, by omega, h4, by omega⟩
/-- the end of a turn of a while that binds one name to a new list of ints -/
theorem ksw_one {h₀ h' : Heap} {L : Addr} {s : Shared} {y : Str} {m₀ m' : Str → Option Value} {tk : Nat} {D' : Addr} {ws' : List Value} {ns' : List Int} {nn' i' : Nat} {rest all : List (Addr × Obj)} {P : List Int → Nat → Prop} {μ : Nat → Nat} {c : Addr × List Value × List Int × Nat × Nat}
    (F : Fr h₀ L h' m') (N : News h₀ L h' ((D', listOf ws'.toArray nn') :: all)) (hi : IntsAre ws' ns') (hL : m' y = some (.ref D')) (hrest : ∀ p ∈ rest, p ∈ all) (hr : ∀ z, z ≠ y → m' z = m₀ z) (hp : P ns' i' ∧ μ i' < μ c.2.2.2.2) :
    KswEnd h₀ L s (fun c : Addr × List Value × List Int × Nat × Nat => (c.1, listOf c.2.1.toArray c.2.2.2.1) :: rest) (fun c => [(y, .ref c.1)]) (fun c => IntsAre c.2.1 c.2.2.1) [] m₀ (fun c => P c.2.2.1 c.2.2.2.2) (fun c => μ c.2.2.2.2) c { s with heap := h', toks := tk } :=
  ksw_end (D', ws', ns', nn', i') F N (List.forall_mem_cons.mpr ⟨.head _, fun p hp => .tail _ (hrest p hp)⟩) hi (fun p hp => by rcases List.mem_singleton.mp hp with rfl; exact hL) (fun z hz _ => hr z (hz _ (.head _))) hp.1 hp.2
theorem c_gs (start target b : Int) (t u v : Tok) : ClL AllLt 4 22 [.int start t, .int target u, .int b v] (4 ≤ start ∧ start ≤ 64 ∧ start ≤ target ∧ target ≤ start + 4999 ∧ 2 ≤ b ∧ b ≤ 4) (gsR start target b) := by
  unfold ClL; k_fill; intros; rename_i hret
  k_with_none
  (k_with "exec While Compare cons nil" => (
    k_here
    (rename Fr _ _ _ _ => lF'); (rename News _ _ _ _ => lN')
    (k_dflt refine' ksw_while (σ := Addr × List Value × List Int × Nat × Nat) (fun c => (c.1, listOf c.2.1.toArray c.2.2.2.1) :: _) (fun c => [(Str.ofString "L", .ref c.1)]) (fun c => IntsAre c.2.1 c.2.2.1) [] (fun c => gsP start target b c.2.2.1 c.2.2.2.2) (fun c => (gsIt target b c.2.2.2.2).toNat) (_, _, [target], _, 0) lF' lN' ?kf ?kk ?kp ?turn)
    (case kf => repeat constructor)
    (case kk => k_dflt kst_all)
    (case kp => exact gs_start _ _ _ (by omega))
    (case' turn => (clear lF' lN'; intro c kU kH kTk kFacts kInv kFr kNews; obtain ⟨D, vs, ns, nn, i⟩ := c; obtain ⟨i1, i2, i3, i4, i5⟩ := kInv; (try dsimp only at *); (try k_fold)))))
  (k_with "KswEnd" => (
    k_here
    (rename Fr _ _ _ _ => pF); (rename News _ _ _ _ => pN); (rename IntsAre _ _ => pI)
    (k_dflt refine' ksw_one (P := gsP start target b) (μ := fun i => (gsIt target b i).toNat) (i' := i + 1) pF pN pI rfl (fun p hp => .tail _ (.tail _ hp)) ?hr (gs_turn start target b ns i (by omega) (by omega) ⟨i1, i2, i3, i4, i5⟩ (by assumption)))
    (case hr => (intro z hz; (try dsimp only); rw [if_neg hz]; k_dflt (simp [kstB, hz])))))
  w_top off
  w_strict (refine wpAny_call ?_; (k_call_by "enterD" 0); (repeat' (first | (k_unfold; (try dsimp only)) | (k_end; wrow_close) | walk1 | (dsimp only; walk1) | (leave1; walk_say "STEP leave1"; try dsimp only) | fail "no step")); all_goals (first
    | ((rename Fr _ _ _ _ => pF); (rename News _ _ _ _ => pN); (rename IntsAre _ _ => pI); (rename _ < _ ∧ AllLt _ _ => pL); k_dflt exact hret _ _ _ 0 _ _ pF (cb_drop pN (List.forall_mem_cons.mpr ⟨.head _, fun p hp => .tail _ (.tail _ hp)⟩)) pL.2 pI (gs_end start target b _ i (by omega) ⟨i1, i2, i3, i4, i5⟩ (by assumption)))))

end Mine
namespace Mine
local macro_rules | `(tactic| k_call_by "use" $g:term) => `(tactic| (k_here; k_dflt (refine' Cl.use $g ?k1 ?k2 ?k3 ?k4 ?k5 ?kK ?kp ?kd ?ku ?kR; (case k1 => k_asm); (case k2 => k_asm); (case k3 => k_asm); (case k4 => k_asm); (case k5 => k_asm); (case kK => first | exact rfl | assumption); (case kp => first | trivial | omega | ((try dsimp only); first | assumption | omega | l_fact)); (case kd => k_room); (case ku => k_units)); intro t9 h9 tk9 F9 N9; (try dsimp only); (try k_extra "fact use"); (try k_fold)))
local macro_rules | `(tactic| k_room) => `(tactic| ((simp only [depth_under_make, depth_under_kw, depth_in1, depth_deeper, depth_caller, recursionLimit] at *); omega))
local macro_rules | `(tactic| k_units) => `(tactic| ((have hcL9 := cLine_is); (simp only [units_in1, units_deeper, Around.mark_units, units_caller, cLine] at *); omega))
local macro_rules | `(tactic| walk_at "InvEndN") => `(tactic| first | k_extra "InvEndN" | k_dflt kst_close)
local macro_rules | `(tactic| walk_at "CompEnd") => `(tactic| k_dflt (refine LCg.CompEnd.intro (by assumption) (by assumption) _ (fun _ hp => hp) (by assumption) (by first | exact True.intro | exact Or.inl (Or.inl (by assumption)) | exact Or.inl (by assumption) | exact Or.inr ⟨_, .head _, rfl, _, rfl⟩ | exact Or.inr ⟨_, by k_mem, rfl, _, rfl⟩) ?_))
local macro_rules | `(tactic| k_call_by "enterC" $_g:term) => `(tactic| (refine' code_defC ?k1 ?k2 ?k3 ?k4 ?k5 ?kA ?kF ?kK ?k6 ?k7 ?k8 ?k9 ?kB ?kD ?_ ?c2 ?c3 ?c4; (case kA => exact rfl); (case kF => exact rfl); (case kK => assumption); (case k1 => k_asm); (case k2 => k_asm); (case k3 => k_asm); (case k4 => k_asm); (case k5 => k_asm); (case k6 => k_is); (case k7 => k_is); (case k8 => k_room); (case k9 => exact BindsTo.of_eq rfl); (case kB => exact rfl); (case kD => decide +kernel); (case c2 => exact rfl); (case c3 => exact rfl); (case c4 => exact rfl); k_whole; intro g' L' h' tk' cells' FG' F' N' Y' B' X' T' l1; have hOc9 := ownOff_cells l1; have kMark9 := kstMark; (try k_lt l1); k_cells Y'; (try simp only [List.cons_append, List.nil_append] at N'); (try dsimp only); (try k_lift B'); (try k_fold)))
local macro_rules | `(tactic| k_call_by "om" $_g:term) => `(tactic| ((repeat (rename (_ ≠ _ ∧ _ ≠ _ ∧ _ ≠ _) ∧ _ => o9; clear o9)); (repeat (rename _ ≠ _ ∧ _ ≠ _ ∧ _ ≠ _ => o9; clear o9)); (repeat (rename @Ne Nat _ _ => o9; clear o9)); omega))
local macro_rules | `(tactic| k_call_by "item" $h:term) => `(tactic| (k_here; (with_reducible rename News _ _ _ _ => myN9); k_dflt (refine' item_list_ints (News.isList (by with_reducible exact myN9) ?hm) $h ?h0 ?h1 ?h2 (fun tI9 => ?hQ)); (case hm => k_dflt k_mem); (case h0 => k_call_by "om" 0); (case h1 => k_call_by "om" 0); (case h2 => k_call_by "om" 0); (try k_fold)))
local macro_rules | `(tactic| k_call_by "enterD" $_g:term) => `(tactic| (refine' code_def ?k1 ?k2 ?k3 ?k4 ?k5 ?kA ?kF ?kK ?k6 ?k7 ?k8 ?k9 ?kB ?_ ?c2 ?c3 ?c4 ?c5; (case kA => exact rfl); (case kF => exact rfl); (case kK => assumption); (case k1 => k_asm); (case k2 => k_asm); (case k3 => k_asm); (case k4 => k_asm); (case k5 => k_asm); (case k6 => k_is); (case k7 => k_is); (case k8 => k_room); (case k9 => first | exact binds_K (by k_in) rfl (by k_is) rfl rfl rfl | exact BindsTo.of_eq rfl); (case c5 => decide); (case kB => exact locs rfl); (case c2 => exact rfl); (case c3 => exact rfl); (case c4 => exact rfl); k_whole; intro g' L' h' FG' F' N' B' X' T'; (try dsimp only); (try k_lift B'); (try k_fold)))
local macro_rules | `(tactic| k_call_by "itemN" $h:term) => `(tactic| (k_here; (with_reducible rename News _ _ _ _ => myN9); k_dflt (refine' item_list_ints_neg (News.isList (by with_reducible exact myN9) ?hm) $h ?h0 ?h1 ?h2 (fun tI9 => ?hQ)); (case hm => k_dflt k_mem); (case h0 => k_call_by "om" 0); (case h1 => k_call_by "om" 0); (case h2 => k_call_by "om" 0); (try k_fold)))

local macro_rules | `(tactic| k_call_by "useL" $g:term) => `(tactic| (k_here; k_dflt (refine' ClL.use $g ?k1 ?k2 ?k3 ?k4 ?k5 ?kK ?kp ?kd ?ku ?kR; (case k1 => k_asm); (case k2 => k_asm); (case k3 => k_asm); (case k4 => k_asm); (case k5 => k_asm); (case kK => first | exact rfl | assumption); (case kp => first | trivial | omega | ((try dsimp only); first | assumption | omega | l_fact)); (case kd => k_room); (case ku => k_units)); intro D9 ws9 ns9 nn9 h9 tk9 F9 N9 l9 hI9 hR9; (try simp only [AllLt, LCg.Off1, and_true] at l9); (try dsimp only); (try k_extra "fact useL"); (try k_fold)))

theorem fm3 (x : Int) : 0 ≤ x.fmod 3 ∧ x.fmod 3 ≤ 2 := by
  have e := Int.fmod_eq_emod_of_nonneg x (show (0 : Int) ≤ 3 by decide)
  omega
theorem gs_rev (t b : Int) (i j : Nat) (h : j ≤ i) : (gsL t b i).reverse.getD j 0 = gsIt t b (i - j) := by
  have h1 : j < (gsL t b i).reverse.length := by rw [List.length_reverse, gsL_len]; omega
  rw [List.getD_eq_getElem?_getD, List.getElem?_reverse (by rw [gsL_len]; omega), gsL_len, ← List.getD_eq_getElem?_getD, show i + 1 - 1 - j = i - j by omega]
  exact gsL_get t b i (i - j) (by omega)
theorem gs_el {start target b : Int} {ns : List Int} {i0 ci : Nat} (e0 : ns = (gsL target b i0).reverse) (len0 : (ns.length : Int) = (i0 : Int) + 1) (g0 : ∀ j < i0, start * b < gsIt target b j) (clt : ci < ((ns.length : Int) - 1 - 0).toNat) :
    ns.getD (0 + (ci : Int)).toNat 0 = (ns.getD (0 + (ci : Int) + 1).toNat 0).fdiv b + 2 ∧ start * b < ns.getD (0 + (ci : Int) + 1).toNat 0 := by
  rw [show (0 + (ci : Int)).toNat = ci by omega, show (0 + (ci : Int) + 1).toNat = ci + 1 by omega, e0, gs_rev _ _ _ _ (by omega), gs_rev _ _ _ _ (by omega), show i0 - ci = (i0 - (ci + 1)) + 1 by omega]
  exact ⟨rfl, g0 _ (by omega)⟩
theorem gs_last {target b : Int} {ns : List Int} {i0 : Nat} (e0 : ns = (gsL target b i0).reverse) (len0 : (ns.length : Int) = (i0 : Int) + 1) : ns.getD (-1 + (ns.length : Int)).toNat 0 = target := by
  rw [show (-1 + (ns.length : Int)).toNat = i0 by omega, e0, gs_rev _ _ _ _ (Nat.le_refl _), Nat.sub_self]; rfl
theorem gs_first {target b : Int} {ns : List Int} {i0 : Nat} (e0 : ns = (gsL target b i0).reverse) : ns.getD (Int.toNat 0) 0 = gsIt target b i0 := by
  rw [show Int.toNat 0 = 0 from rfl, e0, gs_rev _ _ _ _ (Nat.zero_le _), Nat.sub_zero]
theorem gs_fst_le {target b c : Int} {ns : List Int} {i0 : Nat} (e0 : ns = (gsL target b i0).reverse) (s0 : gsIt target b i0 ≤ c) : ns.getD (Int.toNat 0) 0 ≤ c := by
  rw [gs_first e0]; exact s0
theorem intBits_pow (k : Nat) : Builtin.Int.intBits ((2 : Int) ^ k) = k + 1 := by
  have h : ((2 : Int) ^ k) ≠ 0 := Int.ne_of_gt (Int.pow_pos (by decide))
  unfold Builtin.Int.intBits
  rw [if_neg (by simpa using h)]
  have : ((2 : Int) ^ k).natAbs = 2 ^ k := by rw [Int.natAbs_pow]; rfl
  rw [this, Nat.log2_two_pow]
theorem trail_two (k : Nat) (a : Int) : trailV (2 ^ k * (2 * a + 1)) = (k : Int) := by
  have hp : ((2 : Int) ^ k) ≠ 0 := Int.ne_of_gt (Int.pow_pos (by decide))
  have hx : (2 : Int) ^ k * (2 * a + 1) ≠ 0 := Int.mul_ne_zero hp (by omega)
  unfold trailV
  rw [if_neg hx, kbt_low, intBits_pow]; omega
theorem trail_ok (sg r n : Int) (hs : sg = 1 ∨ sg = -1) (hn : 0 ≤ n) : trailV (sg * (2 * r + 1) * 2 ^ n.toNat) = n := by
  rcases hs with rfl | rfl
  · rw [Int.one_mul, Int.mul_comm, trail_two]; omega
  · rw [show (-1 : Int) * (2 * r + 1) * 2 ^ n.toNat = 2 ^ n.toNat * (2 * (-r - 1) + 1) by
      rw [Int.mul_comm]; congr 1; omega]
    rw [trail_two]; omega
theorem shi_a (x n : Int) (h0 : 0 ≤ n) : rshV x n = x.fdiv (2 ^ n.toNat) := if_pos h0
theorem shi_b (x n : Int) (h0 : 0 ≤ n) : rshV x (-n) = x * 2 ^ n.toNat := by
  unfold rshV
  split
  · have e : n = 0 := by omega
    subst e
    show x.fdiv 1 = x * 1
    rw [Int.fdiv_one, Int.mul_one]
  · rw [Int.neg_neg]
theorem shi_c (x n : Int) (h0 : 0 ≤ n) : lshV x n = x * 2 ^ n.toNat := if_pos h0
theorem shi_d (x n : Int) (h0 : 0 ≤ n) : lshV x (-n) = x.fdiv (2 ^ n.toNat) := by
  unfold lshV
  split
  · have e : n = 0 := by omega
    subst e
    show x * 1 = x.fdiv 1
    rw [Int.fdiv_one, Int.mul_one]
  · rw [Int.neg_neg]
theorem man_bd (rich : Int) : ∃ r : Int, 2 * Int.fmod rich (2 ^ Int.toNat 60) + 1 = 2 * r + 1 ∧ 0 ≤ r ∧ r < 2 ^ 60 := by
  have e : Int.fmod rich (2 ^ Int.toNat 60) = rich % 2 ^ 60 := Int.fmod_eq_emod_of_nonneg rich (by decide)
  exact ⟨_, rfl, by rw [e]; omega, by rw [e]; omega⟩
theorem sman_bd (sg r : Int) (hs : sg = 1 ∨ sg = -1) (h0 : 0 ≤ r) (h1 : r < 2 ^ 60) : -2 ^ 62 < sg * (2 * r + 1) ∧ sg * (2 * r + 1) < 2 ^ 62 := by
  rcases hs with rfl | rfl <;> omega
theorem l_shi (rich n sg : Int) (t u v : Tok) : Cl 20 172 [.int rich t, .int n u, .int sg v] (0 ≤ rich ∧ 0 ≤ n ∧ n ≤ 60 ∧ (sg = 1 ∨ sg = -1)) (fun _ => .bool true) := by
  unfold Cl CbRet; k_fill; intros; rename_i hret
  have hpre : 0 ≤ n ∧ (sg = 1 ∨ sg = -1) := by omega
  k_with_none
  (k_with "storeName int" => (obtain ⟨r, er, r0, r1⟩ := man_bd rich; rw [er]; have hb := sman_bd sg r hpre.2 r0 r1; clear er; (try k_fold)))
  (k_with "call ref cons nil" => first | k_call_by "use" (c_trailing _ _) | k_call_by "use" (c_rshift _ _ _ _) | k_call_by "use" (c_lshift _ _ _ _) | k_call_by "useL" (c_gs _ _ _ _ _ _))
  (k_with "fact useL" => ((rename gsR _ _ _ _ => hR); (rename IntsAre _ _ => hIs); obtain ⟨i0, e0, len0, le0, g0, s0⟩ := hR; have hfm3 := fm3 (rich.fdiv 5000)))
  (k_with "CompSrc BoolOp cons ref" => (
    k_here
    (rename IsRange _ _ _ _ _ _ _ _ => rg9)
    (k_dflt refine' LCg.CompSrc.range (by rfl) (by k_asm) (by k_asm) rg9 (small_one (by omega) (by omega) (by omega) (by omega)) (rangeSize_nat _ _) (by (rw [PySem.sizeLine_eq]; omega)) ?hcs)
    (intro g')
    (k_dflt refine' my_comp (fun i ys => LSm.BoolsAre ys (List.replicate i true)) .nil ?turnC ?finC)
    (case' turnC => (intro ci cv I' oI' C' oC' D' m' ys' h' tk' E' clt cvE cJ hC' hx' F' N' off' ne' hM; obtain ⟨ct, cvE⟩ := cvE; subst cvE; have cEl := gs_el e0 len0 g0 clt; (try simp only [LCg.Off3, and_true] at off'); (try k_fold)))
    (case' finC => (intro ys cJ))))
  (k_with "subscriptTail Name Name ref int" => k_call_by "item" hIs)
  (k_with "subscriptTail Name BinOp ref int" => k_call_by "item" hIs)
  (k_with "subscriptTail Name UnaryOp ref int" => k_call_by "itemN" hIs)
  (k_with "subscriptTail Name Constant ref int" => k_call_by "item" hIs)
  (k_with "binaryOp FloorDiv int int" => (k_here; refine floordiv_b (by k_call_by "om" 0) (by k_call_by "om" 0) (by k_call_by "om" 0) ?_))
  (k_with "call builtin:all cons nil" => (k_dflt (refine LSm.all_bools (by k_asm) (by k_asm) (by rfl) (by lsm_list) cJ ?_); intro h' tk' F' N'; simp only [all_rep]; (try k_fold)))
  (k_with "MyEl cons cons" => first
    | (k_dflt exact ⟨rfl, by rw [decide_eq_true cEl.2]; exact bools_rep cJ⟩)
    | exact absurd cEl.1 (by assumption))
  (k_with "LeaveK bool" => first
    | contradiction
    | exact absurd (trail_ok _ _ _ hpre.2 hpre.1) (by assumption)
    | exact absurd (shi_a _ _ hpre.1) (by assumption)
    | exact absurd (shi_b _ _ hpre.1) (by assumption)
    | exact absurd (shi_c _ _ hpre.1) (by assumption)
    | exact absurd (shi_d _ _ hpre.1) (by assumption)
    | exact absurd (gs_last e0 len0) (by assumption)
    | exact absurd (gs_fst_le e0 s0) (by assumption))
  w_top off
  w_strict (refine wpAny_call ?_; (k_call_by "enterC" n); (repeat' (first | (k_unfold; (try dsimp only)) | (k_end; wrow_close) | ((with_reducible refine wp_st (by dsimp only; exact StEq.same _) ?_); walk1) | walk1 | (dsimp only; walk1) | (leave1; walk_say "STEP leave1"; try dsimp only) | fail "no step")); all_goals (first | (cb_end hret)))

end Mine
namespace Mine
local macro_rules | `(tactic| k_call_by "use" $g:term) => `(tactic| (k_here; k_dflt (refine' Cl.use $g ?k1 ?k2 ?k3 ?k4 ?k5 ?kK ?kp ?kd ?ku ?kR; (case k1 => k_asm); (case k2 => k_asm); (case k3 => k_asm); (case k4 => k_asm); (case k5 => k_asm); (case kK => first | exact rfl | assumption); (case kp => first | trivial | omega | ((try dsimp only); first | assumption | omega | l_fact)); (case kd => k_room); (case ku => k_units)); intro t9 h9 tk9 F9 N9; (try dsimp only); (try k_extra "fact use"); (try k_fold)))
local macro_rules | `(tactic| k_room) => `(tactic| ((simp only [depth_under_make, depth_under_kw, depth_in1, depth_deeper, depth_caller, recursionLimit] at *); omega))
local macro_rules | `(tactic| k_units) => `(tactic| ((have hcL9 := cLine_is); (simp only [units_in1, units_deeper, Around.mark_units, units_caller, cLine] at *); omega))
local macro_rules | `(tactic| walk_at "InvEndN") => `(tactic| first | k_extra "InvEndN" | k_dflt kst_close)
local macro_rules | `(tactic| walk_at "CompEnd") => `(tactic| k_dflt (refine LCg.CompEnd.intro (by assumption) (by assumption) _ (fun _ hp => hp) (by assumption) (by first | exact True.intro | exact Or.inl (Or.inl (by assumption)) | exact Or.inl (by assumption) | exact Or.inr ⟨_, .head _, rfl, _, rfl⟩ | exact Or.inr ⟨_, by k_mem, rfl, _, rfl⟩) ?_))
local macro_rules | `(tactic| k_call_by "enterC" $_g:term) => `(tactic| (refine' code_defC ?k1 ?k2 ?k3 ?k4 ?k5 ?kA ?kF ?kK ?k6 ?k7 ?k8 ?k9 ?kB ?kD ?_ ?c2 ?c3 ?c4; (case kA => exact rfl); (case kF => exact rfl); (case kK => assumption); (case k1 => k_asm); (case k2 => k_asm); (case k3 => k_asm); (case k4 => k_asm); (case k5 => k_asm); (case k6 => k_is); (case k7 => k_is); (case k8 => k_room); (case k9 => exact BindsTo.of_eq rfl); (case kB => exact rfl); (case kD => decide +kernel); (case c2 => exact rfl); (case c3 => exact rfl); (case c4 => exact rfl); k_whole; intro g' L' h' tk' cells' FG' F' N' Y' B' X' T' l1; have hOc9 := ownOff_cells l1; have kMark9 := kstMark; (try k_lt l1); k_cells Y'; (try simp only [List.cons_append, List.nil_append] at N'); (try dsimp only); (try k_lift B'); (try k_fold)))
local macro_rules | `(tactic| k_call_by "om" $_g:term) => `(tactic| ((repeat (rename (_ ≠ _ ∧ _ ≠ _ ∧ _ ≠ _) ∧ _ => o9; clear o9)); (repeat (rename _ ≠ _ ∧ _ ≠ _ ∧ _ ≠ _ => o9; clear o9)); (repeat (rename @Ne Nat _ _ => o9; clear o9)); omega))
local macro_rules | `(tactic| k_call_by "item" $h:term) => `(tactic| (k_here; (with_reducible rename News _ _ _ _ => myN9); k_dflt (refine' item_list_ints (News.isList (by with_reducible exact myN9) ?hm) $h ?h0 ?h1 ?h2 (fun tI9 => ?hQ)); (case hm => k_dflt k_mem); (case h0 => k_call_by "om" 0); (case h1 => k_call_by "om" 0); (case h2 => k_call_by "om" 0); (try k_fold)))
local macro_rules | `(tactic| k_call_by "enterD" $_g:term) => `(tactic| (refine' code_def ?k1 ?k2 ?k3 ?k4 ?k5 ?kA ?kF ?kK ?k6 ?k7 ?k8 ?k9 ?kB ?_ ?c2 ?c3 ?c4 ?c5; (case kA => exact rfl); (case kF => exact rfl); (case kK => assumption); (case k1 => k_asm); (case k2 => k_asm); (case k3 => k_asm); (case k4 => k_asm); (case k5 => k_asm); (case k6 => k_is); (case k7 => k_is); (case k8 => k_room); (case k9 => first | exact binds_K (by k_in) rfl (by k_is) rfl rfl rfl | exact BindsTo.of_eq rfl); (case c5 => decide); (case kB => exact locs rfl); (case c2 => exact rfl); (case c3 => exact rfl); (case c4 => exact rfl); k_whole; intro g' L' h' FG' F' N' B' X' T'; (try dsimp only); (try k_lift B'); (try k_fold)))
local macro_rules | `(tactic| k_call_by "itemN" $h:term) => `(tactic| (k_here; (with_reducible rename News _ _ _ _ => myN9); k_dflt (refine' item_list_ints_neg (News.isList (by with_reducible exact myN9) ?hm) $h ?h0 ?h1 ?h2 (fun tI9 => ?hQ)); (case hm => k_dflt k_mem); (case h0 => k_call_by "om" 0); (case h1 => k_call_by "om" 0); (case h2 => k_call_by "om" 0); (try k_fold)))

local macro_rules | `(tactic| k_call_by "useL" $g:term) => `(tactic| (k_here; k_dflt (refine' ClL.use $g ?k1 ?k2 ?k3 ?k4 ?k5 ?kK ?kp ?kd ?ku ?kR; (case k1 => k_asm); (case k2 => k_asm); (case k3 => k_asm); (case k4 => k_asm); (case k5 => k_asm); (case kK => first | exact rfl | assumption); (case kp => first | trivial | omega | ((try dsimp only); first | assumption | omega | l_fact)); (case kd => k_room); (case ku => k_units)); intro D9 ws9 ns9 nn9 h9 tk9 F9 N9 l9 hI9 hR9; (try simp only [AllLt, LCg.Off1, and_true] at l9); (try dsimp only); (try k_extra "fact useL"); (try k_fold)))

/-- the store of a list into a slice of another one, without a step -/
theorem my_setSlice {prog : Program} {w : World} {A : Around} {E : Value → Shared → Prop} {s : Shared} {l sl r : Addr} {items new : Array Value} {n nr : Nat} {vl vu : Value} {lo hi : Option Int} {Q : Unit → Shared → Prop} (ho : s.heap.get? l = some (listOf items n))
    (hs : s.heap.IsSliceOf sl vl vu .none) (pl : IsPart vl lo) (pu : IsPart vu hi) (hr : s.heap.get? r = some (listOf new nr)) (hne : r ≠ l) (hsz : items.size + new.size ≤ sizeLine)
    (hq : (items.extract 0 (sliceBounds lo hi none items.size).1.toNat ++ new ++ items.extract (max (sliceBounds lo hi none items.size).1 (sliceBounds lo hi none items.size).2.1).toNat items.size).size ≤ sizeLine + 1)
    (h : Q () { s with heap := s.heap.update l (Obj.mapSeq fun xs => xs.extract 0 (sliceBounds lo hi none items.size).1.toNat ++ new ++ xs.extract (max (sliceBounds lo hi none items.size).1 (sliceBounds lo hi none items.size).2.1).toNat xs.size) }) :
    wpAny (model prog w) A (setItem (.ref l) (.ref sl) (.ref r)) Q E s := by
  have hl : s.heap.IsList l items := PySem.IsL.isList (n := n) ho
  have hrl : s.heap.IsList r new := PySem.IsL.isList (n := nr) hr
  obtain ⟨os, hos, hcs, hds⟩ := id hs
  have hTs : s.TypeIs (.ref sl) "slice" := ⟨os, hos, hcs⟩
  unfold setItem
  try with_reducible refine wpAny_holding ?_
  first | refine wpAny_bind (wpAny_pure ?_) | skip
  refine wpAny_bind (wpAny_sequenceKey hl.typeIs (by decide) ?_)
  refine wpAny_bind (wpAny_callSpecial?_slot (name := Str.ofString "__setitem__") hl.typeIs slot_list_setitem
    (wpAny_call_entry slot_list_setitem hl.typeIs entry_list_setitem ?_ (args_list_setitem _ _ _)))
  show wpAny _ _ (Builtin.List.listSubscript? (.ref sl) >>= _) _ _ s
  refine wpAny_bind ?_
  unfold Builtin.List.listSubscript?
  refine wpAny_bind (wpAny_specialOf hTs slice_no_index ?_)
  simp only [Option.isNone_none, if_true]
  refine wpAny_pure ?_
  show wpAny _ _ (typeOf (.ref sl) >>= _) _ _ s
  refine wpAny_bind (wpAny_typeOf hTs ?_)
  rw [if_neg (by decide)]
  rw [listSliceParts_eq]
  have hstep : ¬ ((rawPart none == rawInt 0) = true) := Bool.false_ne_true
  refine wpAny_bind (wpAny_bind (wpAny_field hos hds (x := .none) rfl (wpAny_bind (wpAny_listPart .none ?_))))
  rw [if_neg hstep]
  refine wpAny_bind (wpAny_field hos hds (x := vl) rfl (wpAny_bind (wpAny_listPart pl ?_)))
  refine wpAny_bind (wpAny_field hos hds (x := vu) rfl (wpAny_bind (wpAny_listPart pu (wpAny_pure ?_))))
  have hsame : Builtin.List.listSameRef (.ref l) (.ref r) = false := by
    show (l == r) = false
    simpa using fun e => hne e.symm
  show wpAny _ _ (if Builtin.List.listSameRef (.ref l) (.ref r) = true then _ else _) _ _ s
  rw [hsame]
  simp only [Bool.false_eq_true, if_false]
  refine wpAny_bind ?_
  unfold Builtin.List.listAllItems
  refine wpAny_bind (wpAny_typeOf hrl.typeIs ?_)
  rw [if_pos (by decide)]
  refine listItems_at hr rfl ?_
  refine wpAny_bind (listItems_at ho rfl ?_)
  refine wpAny_bind (wpAny_of_eq (sliceIndices_raw lo hi none items.size (by simp)) ?_)
  rw [if_pos (by show ((1 : Int) == 1) = true; decide)]
  refine wpAny_bind (wpAny_rule ?_)
  rw [if_neg (by unfold Builtin.List.listTooLong; simpa using hsz)]
  refine wpAny_bind (listUpdate_at ho rfl ?_ (Nat.le_trans (Nat.le_add_right _ _) hsz) hq)
  refine wpAny_bind (wpAny_letGo ?_)
  exact wpAny_pure ⟨.none, rfl, wpAny_pure h⟩
theorem allLt_mem {d : Addr} : ∀ {l : List (Addr × Obj)}, AllLt d l → ∀ p ∈ l, p.1 < d
  | [], _, _, h => nomatch h
  | _ :: _, x, p, h => by
    rcases List.mem_cons.mp h with rfl | h
    · exact x.1
    · exact allLt_mem x.2 p h
theorem ints_drop : ∀ {vs : List Value} {ns : List Int}, IntsAre vs ns → ∀ k : Nat, IntsAre (vs.drop k) (ns.drop k)
  | _, _, h, 0 => h
  | _, _, .nil, _ + 1 => .nil
  | _, _, .cons _ _ h, k + 1 => ints_drop h k
section
variable {prog : Program} {w : World} {A : Around} {E : Value → Shared → Prop} {s : Shared} {h₀ : Heap} {L D r : Addr} {m : Str → Option Value} {rest : List (Addr × Obj)} {vs ws : List Value} {ns ms : List Int} {n nr : Nat} {t : Tok}
/-- l[:2] = a list of the ledger -/
theorem my_setUpto {k : Nat} {Q : Unit → Shared → Prop} (F : Fr h₀ L s.heap m) (N : News h₀ L s.heap ((r, listOf ws.toArray nr) :: (D, listOf vs.toArray n) :: rest)) (hne : (D : Nat) < r) (b : AllLt D rest) (hi : IntsAre vs ns) (hj : IntsAre ws ms) (hsz : vs.length + ws.length ≤ 100000)
    (h : ∀ h' n', Fr h₀ L h' m → News h₀ L h' ((D, listOf (ws ++ vs.drop k).toArray n') :: rest) → IntsAre (ws ++ vs.drop k) (ms ++ ns.drop k) → Q () { s with heap := h' }) :
    wpAny (model prog w) A (setItem (.ref D) (.ref s.heap.objs.size) (.ref r)) Q E { s with heap := s.heap.push { cls := .type "slice", data := .fields #[.none, .int (k : Int) t, .none] } } := by
  have z := N (D, listOf vs.toArray n) (.tail _ (.head _))
  have zr := N (r, listOf ws.toArray nr) (.head _)
  have up : ∀ b o, s.heap.get? b = some o → (s.heap.push { cls := .type "slice", data := .fields #[.none, .int (k : Int) t, .none] }).get? b = some o := fun b o e => Heap.get?_push_of_some _ e
  have e : (sliceBounds none (some (k : Int)) none vs.toArray.size) = (((0 : Nat) : Int), (((min k vs.length : Nat) : Int)), 1) := by
    simp only [sliceBounds, Option.getD_none, List.size_toArray]
    have h2 : ¬ ((k : Int) < 0) := by omega
    simp only [h2, if_false, show (1 : Int) > 0 by decide, if_true]
    congr 1
    congr 1; omega
  have hf : ∀ xs : Array Value, xs = vs.toArray → xs.extract 0 (sliceBounds none (some (k : Int)) none vs.toArray.size).1.toNat ++ ws.toArray ++ xs.extract (max (sliceBounds none (some (k : Int)) none vs.toArray.size).1 (sliceBounds none (some (k : Int)) none vs.toArray.size).2.1).toNat xs.size = (ws ++ vs.drop k).toArray := by
    rintro xs rfl
    rw [e]
    have hm : (max (((0 : Nat) : Int)) (((min k vs.length : Nat) : Int))).toNat = min k vs.length := by omega
    simp only [hm]
    apply Array.toList_inj.mp
    simp only [Array.toList_append, Array.toList_extract, List.size_toArray]
    simp only [Int.toNat_natCast, List.extract_eq_take_drop, List.drop_zero, Nat.sub_zero, List.take_zero, List.nil_append]
    congr 1
    rw [List.take_of_length_le (by rw [List.length_drop]; exact Nat.le_refl _)]
    rcases Nat.le_total k vs.length with q | q
    · rw [Nat.min_eq_left q]
    · rw [Nat.min_eq_right q, List.drop_of_length_le q, List.drop_length]
  refine my_setSlice (n := n) (nr := nr) (items := vs.toArray) (new := ws.toArray) (vl := .none) (vu := .int (k : Int) t) (lo := none) (hi := some (k : Int)) (up _ _ z.1) (Heap.IsSliceOf.new ..) .none (.int _ _) (up _ _ zr.1) (Nat.ne_of_gt hne) ?_ ?_ ?_
  · rw [List.size_toArray, List.size_toArray, PySem.sizeLine_eq]; omega
  · rw [hf _ rfl, List.size_toArray, List.length_append, List.length_drop, PySem.sizeLine_eq]; omega
  · have F' : Fr h₀ L (s.heap.push { cls := .type "slice", data := .fields #[.none, .int (k : Int) t, .none] }) m := F.push _
    have N' := N.grown up
    refine h _ _ (F'.change (Heap.SameBut.update ..) z.2.1 z.2.2) (fun p hp => ki_turn (pre := [(r, listOf ws.toArray nr)]) _ N' (fun p hp => by rw [List.mem_singleton.mp hp]; exact Nat.ne_of_gt hne) (fun p hp => Nat.ne_of_lt (allLt_mem b p hp)) (hf _ rfl) rfl p (.tail _ hp)) (hj.append (ints_drop hi k))
end

end Mine
namespace Mine
local macro_rules | `(tactic| k_call_by "use" $g:term) => `(tactic| (k_here; k_dflt (refine' Cl.use $g ?k1 ?k2 ?k3 ?k4 ?k5 ?kK ?kp ?kd ?ku ?kR; (case k1 => k_asm); (case k2 => k_asm); (case k3 => k_asm); (case k4 => k_asm); (case k5 => k_asm); (case kK => first | exact rfl | assumption); (case kp => first | trivial | omega | ((try dsimp only); first | assumption | omega | l_fact)); (case kd => k_room); (case ku => k_units)); intro t9 h9 tk9 F9 N9; (try dsimp only); (try k_extra "fact use"); (try k_fold)))
local macro_rules | `(tactic| k_room) => `(tactic| ((simp only [depth_under_make, depth_under_kw, depth_in1, depth_deeper, depth_caller, recursionLimit] at *); omega))
local macro_rules | `(tactic| k_units) => `(tactic| ((have hcL9 := cLine_is); (simp only [units_in1, units_deeper, Around.mark_units, units_caller, cLine] at *); omega))
local macro_rules | `(tactic| walk_at "InvEndN") => `(tactic| first | k_extra "InvEndN" | k_dflt kst_close)
local macro_rules | `(tactic| walk_at "CompEnd") => `(tactic| k_dflt (refine LCg.CompEnd.intro (by assumption) (by assumption) _ (fun _ hp => hp) (by assumption) (by first | exact True.intro | exact Or.inl (Or.inl (by assumption)) | exact Or.inl (by assumption) | exact Or.inr ⟨_, .head _, rfl, _, rfl⟩ | exact Or.inr ⟨_, by k_mem, rfl, _, rfl⟩) ?_))
local macro_rules | `(tactic| k_call_by "enterC" $_g:term) => `(tactic| (refine' code_defC ?k1 ?k2 ?k3 ?k4 ?k5 ?kA ?kF ?kK ?k6 ?k7 ?k8 ?k9 ?kB ?kD ?_ ?c2 ?c3 ?c4; (case kA => exact rfl); (case kF => exact rfl); (case kK => assumption); (case k1 => k_asm); (case k2 => k_asm); (case k3 => k_asm); (case k4 => k_asm); (case k5 => k_asm); (case k6 => k_is); (case k7 => k_is); (case k8 => k_room); (case k9 => exact BindsTo.of_eq rfl); (case kB => exact rfl); (case kD => decide +kernel); (case c2 => exact rfl); (case c3 => exact rfl); (case c4 => exact rfl); k_whole; intro g' L' h' tk' cells' FG' F' N' Y' B' X' T' l1; have hOc9 := ownOff_cells l1; have kMark9 := kstMark; (try k_lt l1); k_cells Y'; (try simp only [List.cons_append, List.nil_append] at N'); (try dsimp only); (try k_lift B'); (try k_fold)))
local macro_rules | `(tactic| k_call_by "om" $_g:term) => `(tactic| ((repeat (rename (_ ≠ _ ∧ _ ≠ _ ∧ _ ≠ _) ∧ _ => o9; clear o9)); (repeat (rename _ ≠ _ ∧ _ ≠ _ ∧ _ ≠ _ => o9; clear o9)); (repeat (rename @Ne Nat _ _ => o9; clear o9)); omega))
local macro_rules | `(tactic| k_call_by "item" $h:term) => `(tactic| (k_here; (with_reducible rename News _ _ _ _ => myN9); k_dflt (refine' item_list_ints (News.isList (by with_reducible exact myN9) ?hm) $h ?h0 ?h1 ?h2 (fun tI9 => ?hQ)); (case hm => k_dflt k_mem); (case h0 => k_call_by "om" 0); (case h1 => k_call_by "om" 0); (case h2 => k_call_by "om" 0); (try k_fold)))
local macro_rules | `(tactic| k_call_by "enterD" $_g:term) => `(tactic| (refine' code_def ?k1 ?k2 ?k3 ?k4 ?k5 ?kA ?kF ?kK ?k6 ?k7 ?k8 ?k9 ?kB ?_ ?c2 ?c3 ?c4 ?c5; (case kA => exact rfl); (case kF => exact rfl); (case kK => assumption); (case k1 => k_asm); (case k2 => k_asm); (case k3 => k_asm); (case k4 => k_asm); (case k5 => k_asm); (case k6 => k_is); (case k7 => k_is); (case k8 => k_room); (case k9 => first | exact binds_K (by k_in) rfl (by k_is) rfl rfl rfl | exact BindsTo.of_eq rfl); (case c5 => decide); (case kB => exact locs rfl); (case c2 => exact rfl); (case c3 => exact rfl); (case c4 => exact rfl); k_whole; intro g' L' h' FG' F' N' B' X' T'; (try dsimp only); (try k_lift B'); (try k_fold)))
local macro_rules | `(tactic| k_call_by "itemN" $h:term) => `(tactic| (k_here; (with_reducible rename News _ _ _ _ => myN9); k_dflt (refine' item_list_ints_neg (News.isList (by with_reducible exact myN9) ?hm) $h ?h0 ?h1 ?h2 (fun tI9 => ?hQ)); (case hm => k_dflt k_mem); (case h0 => k_call_by "om" 0); (case h1 => k_call_by "om" 0); (case h2 => k_call_by "om" 0); (try k_fold)))

local macro_rules | `(tactic| k_call_by "useL" $g:term) => `(tactic| (k_here; k_dflt (refine' ClL.use $g ?k1 ?k2 ?k3 ?k4 ?k5 ?kK ?kp ?kd ?ku ?kR; (case k1 => k_asm); (case k2 => k_asm); (case k3 => k_asm); (case k4 => k_asm); (case k5 => k_asm); (case kK => first | exact rfl | assumption); (case kp => first | trivial | omega | ((try dsimp only); first | assumption | omega | l_fact)); (case kd => k_room); (case ku => k_units)); intro D9 ws9 ns9 nn9 h9 tk9 F9 N9 l9 hI9 hR9; (try simp only [AllLt, LCg.Off1, and_true] at l9); (try dsimp only); (try k_extra "fact useL"); (try k_fold)))

/-- an entry of the sieve behind k outer turns -/
def ent : Nat → Nat → Int
  | 0, j => if j < 2 then 0 else j
  | k + 1, j => if ent k (k + 2) ≠ 0 ∧ (k + 2) * (k + 2) ≤ j ∧ j % (k + 2) = 0 then 0 else ent k j
/-- an entry behind c inner turns of the outer turn k -/
def entIn (k c j : Nat) : Int := if (k + 2) * (k + 2) ≤ j ∧ j < (k + 2) * (k + 2) + c * (k + 2) ∧ j % (k + 2) = 0 then 0 else ent k j
abbrev spP (M : Nat) (k : Nat) (ns : List Int) : Prop := (ns.length : Int) = (M : Int) ∧ ∀ j < M, ns.getD j 0 = ent k j
abbrev spQ (M : Nat) (k c : Nat) (ns : List Int) : Prop := (ns.length : Int) = (M : Int) ∧ ∀ j < M, ns.getD j 0 = entIn k c j
def spM (n : Int) : Nat := max (n + 1).toNat 2
def spCnt (i N : Int) : Nat := (Builtin.Range.rangeSize (i ^ Int.toNat 2) N i).toNat
theorem sp_cnt0 : ∀ i : Nat, i < 11 → ∀ N : Nat, N < 121 → 2 ≤ i → (Builtin.Range.small ((i : Int) ^ Int.toNat 2) N i = true ∧ Builtin.Range.rangeSize ((i : Int) ^ Int.toNat 2) N i = (spCnt i N : Int) ∧ N ≤ i * i + spCnt i N * i ∧ (spCnt i N = 0 ∨ i * i + (spCnt i N - 1) * i < N)) := by decide +kernel
theorem sp_cnt (i N : Int) (h0 : 2 ≤ i) (h1 : i ≤ 10) (h2 : 0 ≤ N) (h3 : N ≤ 120) :
    Builtin.Range.small (i ^ Int.toNat 2) N i = true ∧ Builtin.Range.rangeSize (i ^ Int.toNat 2) N i = (spCnt i N : Int) ∧ N.toNat ≤ i.toNat * i.toNat + spCnt i N * i.toNat ∧ (spCnt i N = 0 ∨ i.toNat * i.toNat + (spCnt i N - 1) * i.toNat < N.toNat) := by
  have := sp_cnt0 i.toNat (by omega) N.toNat (by omega) (by omega)
  rwa [show ((i.toNat : Nat) : Int) = i by omega, show ((N.toNat : Nat) : Int) = N by omega] at this
theorem isq_sq0 : ∀ x : Nat, x < 121 → isqN x * isqN x ≤ x ∧ x < (isqN x + 1) * (isqN x + 1) := by decide +kernel
theorem getD_eq (ns : List Int) (j : Nat) : ns.getD j 0 = (ns[j]?).getD 0 := List.getD_eq_getElem?_getD ..
theorem sp_start (n : Int) (h0 : 0 ≤ n) : spP (spM n) 0 ([0, 0] ++ (rangeKs 0 (n + 1 - 0).toNat).drop 2) := by
  have hl : ([0, 0] ++ (rangeKs 0 (n + 1 - 0).toNat).drop 2).length = spM n := by
    rw [List.length_append, List.length_drop, rangeKs_length]
    simp only [List.length_cons, List.length_nil, spM]; omega
  refine ⟨by rw [hl], fun j hj => ?_⟩
  rw [ent]
  unfold spM at hj
  rcases (show j = 0 ∨ j = 1 ∨ 2 ≤ j by omega) with rfl | rfl | h
  · rfl
  · rfl
  · rw [if_neg (by omega), getD_eq]
    obtain ⟨d, rfl⟩ : ∃ d, j = d + 2 := ⟨j - 2, by omega⟩
    show (((rangeKs 0 (n + 1 - 0).toNat).drop 2)[d]?).getD 0 = _
    rw [List.getElem?_drop]
    unfold rangeKs
    rw [List.getElem?_map, List.getElem?_range (by omega)]
    show (0 : Int) + ((2 + d : Nat) : Int) = _
    omega
theorem sp_in0 {M k : Nat} {ns : List Int} (h : spP M k ns) : spQ M k 0 ns := by
  refine ⟨h.1, fun j hj => ?_⟩
  rw [h.2 j hj, entIn, if_neg (by omega)]
theorem sp_turn {M k c : Nat} {ns : List Int} {jN i : Int} (h : spQ M k c ns) (hi : i = (k : Int) + 2) (e : jN = i ^ Int.toNat 2 + (c : Int) * i) : spQ M k (c + 1) (ns.set jN.toNat 0) := by
  refine ⟨by rw [List.length_set]; exact h.1, fun j hj => ?_⟩
  have e2 : jN = (((k + 2) * (k + 2) + c * (k + 2) : Nat) : Int) := by
    rw [e, hi, show Int.toNat 2 = 2 from rfl, Int.pow_succ, Int.pow_succ, Int.pow_zero, Int.one_mul]
    push_cast; rfl
  have e3 : jN.toNat = (k + 2) * (k + 2) + c * (k + 2) := by omega
  have hs : (c + 1) * (k + 2) = c * (k + 2) + (k + 2) := Nat.succ_mul c (k + 2)
  have hlen := h.1
  rw [e3, getD_eq, List.getElem?_set]
  by_cases q : (k + 2) * (k + 2) + c * (k + 2) = j
  · rw [if_pos q, if_pos (by omega), entIn, if_pos]
    · rfl
    · refine ⟨by omega, by omega, ?_⟩
      rw [← q, ← Nat.add_mul]; exact Nat.mul_mod_left _ _
  · rw [if_neg q, ← getD_eq, h.2 j hj, entIn, entIn]
    by_cases p : (k + 2) * (k + 2) ≤ j ∧ j < (k + 2) * (k + 2) + c * (k + 2) ∧ j % (k + 2) = 0
    · rw [if_pos p, if_pos ⟨p.1, by omega, p.2.2⟩]
    · rw [if_neg p, if_neg]
      rintro ⟨p1, p2, p3⟩
      refine p ⟨p1, ?_, p3⟩
      have z : ((k + 2) * (k + 2) + c * (k + 2)) % (k + 2) = 0 := by rw [← Nat.add_mul]; exact Nat.mul_mod_left _ _
      refine Nat.lt_of_not_le fun le => ?_
      have d : j - ((k + 2) * (k + 2) + c * (k + 2)) < k + 2 := by omega
      have dm : (j - ((k + 2) * (k + 2) + c * (k + 2))) % (k + 2) = 0 := by
        rw [← Nat.dvd_iff_mod_eq_zero] at p3 z ⊢
        exact Nat.dvd_sub p3 z
      rw [Nat.mod_eq_of_lt d] at dm
      omega
theorem sp_yes {M k d : Nat} {ns ns1 : List Int} (h : spP M k ns) (hk : k + 2 < M) (ht : ns.getD (k + 2) 0 ≠ 0) (h1 : spQ M k d ns1) (hd : M ≤ (k + 2) * (k + 2) + d * (k + 2)) : spP M (k + 1) ns1 := by
  refine ⟨h1.1, fun j hj => ?_⟩
  rw [h.2 _ hk] at ht
  rw [h1.2 j hj, entIn, ent]
  by_cases p : (k + 2) * (k + 2) ≤ j ∧ j % (k + 2) = 0
  · rw [if_pos ⟨p.1, by omega, p.2⟩, if_pos ⟨ht, p.1, p.2⟩]
  · rw [if_neg (fun q => p ⟨q.1, q.2.2⟩), if_neg (fun q => p ⟨q.2.1, q.2.2⟩)]
theorem sp_no {M k : Nat} {ns : List Int} (h : spP M k ns) (hk : k + 2 < M) (ht : ns.getD (k + 2) 0 = 0) : spP M (k + 1) ns := by
  refine ⟨h.1, fun j hj => ?_⟩
  rw [h.2 _ hk] at ht
  rw [h.2 j hj, ent, if_neg (fun q => q.1 ht)]
/-- what the law itself takes as prime -/
def prB (k : Int) : Bool := ((rangeKs 2 9).filter fun j => decide (j * j ≤ k)).all fun j => decide (0 < k.fmod j)
def prN (j : Nat) : Bool := decide (2 ≤ j) && prB j
theorem ent_last : ∀ j : Nat, j < 121 → ent 9 j = if prN j = true then (j : Int) else 0 := by decide +kernel
theorem ent_stay (j : Nat) : ∀ d k : Nat, j < (k + 2) * (k + 2) → ent (k + d) j = ent k j
  | 0, _, _ => rfl
  | d + 1, k, h => by
    have h2 : (k + 2) * (k + 2) ≤ (k + d + 2) * (k + d + 2) := Nat.mul_le_mul (by omega) (by omega)
    rw [← Nat.add_assoc, ent, if_neg (by omega)]
    exact ent_stay j d k h
theorem sp_end (n : Int) (h0 : 0 ≤ n) (h1 : n ≤ 119) (k : Nat) (ns : List Int) (hk : k = (isqV (n + 1) + 1 - 2).toNat) (h : spP (spM n) k ns) : ns = (List.range (spM n)).map fun j => if prN j = true then (j : Int) else 0 := by
  have hl : ns.length = spM n := by have := h.1; omega
  refine List.ext_getElem? fun j => ?_
  rw [List.getElem?_map]
  by_cases hj : j < spM n
  · have e := h.2 j hj
    rw [getD_eq, List.getElem?_eq_getElem (by omega)] at e
    rw [List.getElem?_range hj, List.getElem?_eq_getElem (by omega)]
    have hb : spM n ≤ 120 := by unfold spM; omega
    have q := isq_sq0 (n + 1).toNat (by omega)
    have hk' : k = isqN (n + 1).toNat - 1 := by rw [hk]; unfold isqV; omega
    have hlt : j < (k + 2) * (k + 2) := by
      unfold spM at hj
      have h9 : isqN (n + 1).toNat + 1 ≤ k + 2 := by omega
      have := Nat.mul_le_mul h9 h9
      have : 4 ≤ (k + 2) * (k + 2) := Nat.mul_le_mul (show 2 ≤ k + 2 by omega) (show 2 ≤ k + 2 by omega)
      omega
    have hk9 : k ≤ 9 := by
      refine Nat.le_of_not_lt fun hh => ?_
      have : 11 * 11 ≤ isqN (n + 1).toNat * isqN (n + 1).toNat := Nat.mul_le_mul (by omega) (by omega)
      omega
    have st := ent_stay j (9 - k) k hlt
    rw [show k + (9 - k) = 9 by omega, ent_last j (by omega)] at st
    rw [← st] at e
    show some _ = some _
    exact congrArg some e
  · rw [List.getElem?_eq_none (by omega), List.getElem?_eq_none (by rw [List.length_range]; omega)]; rfl
def prList (n : Int) : List Int := ((List.range (spM n)).filter prN).map fun j => ((j : Nat) : Int)
theorem filter_pr : ∀ l : List Nat, (l.map fun j => if prN j = true then (j : Int) else 0).filter (fun x => decide (x ≠ 0)) = (l.filter prN).map fun j => ((j : Nat) : Int)
  | [] => rfl
  | j :: l => by
    rw [List.map_cons, List.filter_cons, List.filter_cons, filter_pr l]
    by_cases h : prN j = true
    · have h2 : 2 ≤ j := by
        unfold prN at h
        rw [Bool.and_eq_true] at h
        exact of_decide_eq_true h.1
      rw [if_pos h, if_pos h, if_pos (by simp; omega), List.map_cons]
    · rw [if_neg h, if_neg h, if_neg (by simp)]
theorem sp_res (n : Int) (h0 : 0 ≤ n) (h1 : n ≤ 119) (k : Nat) (ns : List Int) (hk : k = (isqV (n + 1) + 1 - 2).toNat) (h : spP (spM n) k ns) : ns.filter (fun x => decide (x ≠ 0)) = prList n := by
  rw [sp_end n h0 h1 k ns hk h, filter_pr]; rfl

end Mine
namespace Mine
local macro_rules | `(tactic| k_call_by "use" $g:term) => `(tactic| (k_here; k_dflt (refine' Cl.use $g ?k1 ?k2 ?k3 ?k4 ?k5 ?kK ?kp ?kd ?ku ?kR; (case k1 => k_asm); (case k2 => k_asm); (case k3 => k_asm); (case k4 => k_asm); (case k5 => k_asm); (case kK => first | exact rfl | assumption); (case kp => first | trivial | omega | ((try dsimp only); first | assumption | omega | l_fact)); (case kd => k_room); (case ku => k_units)); intro t9 h9 tk9 F9 N9; (try dsimp only); (try k_extra "fact use"); (try k_fold)))
local macro_rules | `(tactic| k_room) => `(tactic| ((simp only [depth_under_make, depth_under_kw, depth_in1, depth_deeper, depth_caller, recursionLimit] at *); omega))
local macro_rules | `(tactic| k_units) => `(tactic| ((have hcL9 := cLine_is); (simp only [units_in1, units_deeper, Around.mark_units, units_caller, cLine] at *); omega))
local macro_rules | `(tactic| walk_at "InvEndN") => `(tactic| first | k_extra "InvEndN" | k_dflt kst_close)
local macro_rules | `(tactic| walk_at "CompEnd") => `(tactic| k_dflt (refine LCg.CompEnd.intro (by assumption) (by assumption) _ (fun _ hp => hp) (by assumption) (by first | exact True.intro | exact Or.inl (Or.inl (by assumption)) | exact Or.inl (by assumption) | exact Or.inr ⟨_, .head _, rfl, _, rfl⟩ | exact Or.inr ⟨_, by k_mem, rfl, _, rfl⟩) ?_))
local macro_rules | `(tactic| k_call_by "enterC" $_g:term) => `(tactic| (refine' code_defC ?k1 ?k2 ?k3 ?k4 ?k5 ?kA ?kF ?kK ?k6 ?k7 ?k8 ?k9 ?kB ?kD ?_ ?c2 ?c3 ?c4; (case kA => exact rfl); (case kF => exact rfl); (case kK => assumption); (case k1 => k_asm); (case k2 => k_asm); (case k3 => k_asm); (case k4 => k_asm); (case k5 => k_asm); (case k6 => k_is); (case k7 => k_is); (case k8 => k_room); (case k9 => exact BindsTo.of_eq rfl); (case kB => exact rfl); (case kD => decide +kernel); (case c2 => exact rfl); (case c3 => exact rfl); (case c4 => exact rfl); k_whole; intro g' L' h' tk' cells' FG' F' N' Y' B' X' T' l1; have hOc9 := ownOff_cells l1; have kMark9 := kstMark; (try k_lt l1); k_cells Y'; (try simp only [List.cons_append, List.nil_append] at N'); (try dsimp only); (try k_lift B'); (try k_fold)))
local macro_rules | `(tactic| k_call_by "om" $_g:term) => `(tactic| ((repeat (rename (_ ≠ _ ∧ _ ≠ _ ∧ _ ≠ _) ∧ _ => o9; clear o9)); (repeat (rename _ ≠ _ ∧ _ ≠ _ ∧ _ ≠ _ => o9; clear o9)); (repeat (rename @Ne Nat _ _ => o9; clear o9)); omega))
local macro_rules | `(tactic| k_call_by "item" $h:term) => `(tactic| (k_here; (with_reducible rename News _ _ _ _ => myN9); k_dflt (refine' item_list_ints (News.isList (by with_reducible exact myN9) ?hm) $h ?h0 ?h1 ?h2 (fun tI9 => ?hQ)); (case hm => k_dflt k_mem); (case h0 => k_call_by "om" 0); (case h1 => k_call_by "om" 0); (case h2 => k_call_by "om" 0); (try k_fold)))
local macro_rules | `(tactic| k_call_by "enterD" $_g:term) => `(tactic| (refine' code_def ?k1 ?k2 ?k3 ?k4 ?k5 ?kA ?kF ?kK ?k6 ?k7 ?k8 ?k9 ?kB ?_ ?c2 ?c3 ?c4 ?c5; (case kA => exact rfl); (case kF => exact rfl); (case kK => assumption); (case k1 => k_asm); (case k2 => k_asm); (case k3 => k_asm); (case k4 => k_asm); (case k5 => k_asm); (case k6 => k_is); (case k7 => k_is); (case k8 => k_room); (case k9 => first | exact binds_K (by k_in) rfl (by k_is) rfl rfl rfl | exact BindsTo.of_eq rfl); (case c5 => decide); (case kB => exact locs rfl); (case c2 => exact rfl); (case c3 => exact rfl); (case c4 => exact rfl); k_whole; intro g' L' h' FG' F' N' B' X' T'; (try dsimp only); (try k_lift B'); (try k_fold)))
local macro_rules | `(tactic| k_call_by "itemN" $h:term) => `(tactic| (k_here; (with_reducible rename News _ _ _ _ => myN9); k_dflt (refine' item_list_ints_neg (News.isList (by with_reducible exact myN9) ?hm) $h ?h0 ?h1 ?h2 (fun tI9 => ?hQ)); (case hm => k_dflt k_mem); (case h0 => k_call_by "om" 0); (case h1 => k_call_by "om" 0); (case h2 => k_call_by "om" 0); (try k_fold)))

local macro_rules | `(tactic| k_call_by "useL" $g:term) => `(tactic| (k_here; k_dflt (refine' ClL.use $g ?k1 ?k2 ?k3 ?k4 ?k5 ?kK ?kp ?kd ?ku ?kR; (case k1 => k_asm); (case k2 => k_asm); (case k3 => k_asm); (case k4 => k_asm); (case k5 => k_asm); (case kK => first | exact rfl | assumption); (case kp => first | trivial | omega | ((try dsimp only); first | assumption | omega | l_fact)); (case kd => k_room); (case ku => k_units)); intro D9 ws9 ns9 nn9 h9 tk9 F9 N9 l9 hI9 hR9; (try simp only [AllLt, LCg.Off1, and_true] at l9); (try dsimp only); (try k_extra "fact useL"); (try k_fold)))

theorem ownOff_lt {D : Addr} {l : List (Addr × Obj)} (h : AllLt D l) : OwnOff l [D] := fun p hp b hb => by
  rw [List.mem_singleton.mp hb]; exact Nat.ne_of_lt (allLt_mem h p hp)
theorem sp_iN (n : Int) (h0 : 0 ≤ n) (h1 : n ≤ 119) (i : Int) (h2 : 2 ≤ i) (h3 : i ≤ isqV (n + 1)) : i ≤ 10 ∧ i < n + 1 := by
  have q := isq_sq0 (n + 1).toNat (by omega)
  have e : isqV (n + 1) = (isqN (n + 1).toNat : Int) := rfl
  have hb : isqN (n + 1).toNat ≤ 10 := by
    refine Nat.le_of_not_lt fun hh => ?_
    have : 11 * 11 ≤ isqN (n + 1).toNat * isqN (n + 1).toNat := Nat.mul_le_mul (by omega) (by omega)
    omega
  have : 2 * isqN (n + 1).toNat ≤ isqN (n + 1).toNat * isqN (n + 1).toNat := Nat.mul_le_mul_right _ (by omega)
  omega
theorem sp_jN (i N jN : Int) (c : Nat) (h0 : 2 ≤ i) (h1 : i ≤ 10) (h2 : 0 ≤ N) (h3 : N ≤ 120) (e : jN = i ^ Int.toNat 2 + (c : Int) * i) (hc : c < spCnt i N) : 0 ≤ jN ∧ jN < N := by
  have q := (sp_cnt i N h0 h1 h2 h3).2.2.2
  have e1 : jN = ((i.toNat * i.toNat + c * i.toNat : Nat) : Int) := by
    obtain ⟨k, rfl⟩ : ∃ k : Nat, i = (k : Int) := ⟨i.toNat, by omega⟩
    rw [e, show Int.toNat 2 = 2 from rfl, Int.pow_succ, Int.pow_succ, Int.pow_zero, Int.one_mul, Int.toNat_natCast]
    push_cast; rfl
  have : c * i.toNat ≤ (spCnt i N - 1) * i.toNat := Nat.mul_le_mul_right _ (by omega)
  omega
theorem spM_eq (n : Int) (h0 : 0 ≤ n) (h1 : n ≤ 119) : n + 1 ≤ (spM n : Int) ∧ (spM n : Int) ≤ 120 := by unfold spM; omega
theorem sp_yesI {n i : Int} {k d : Nat} {ns ns1 : List Int} (h0 : 0 ≤ n) (h : spP (spM n) k ns) (e : i = 2 + (k : Int) * 1) (hi : i ≤ 10 ∧ i < n + 1) (h9 : n ≤ 119) (ht : ns.getD i.toNat 0 ≠ 0) (h1 : spQ (spM n) k d ns1) (hd : d = spCnt i (n + 1)) (hq : (n + 1 < 2 ∨ 2 ≤ n + 1)) : spP (spM n) (k + 1) ns1 := by
  have q := (sp_cnt i (n + 1) (by omega) hi.1 (by omega) (by omega)).2.2.1
  rw [show i.toNat = k + 2 by omega] at q ht
  have hm : spM n = (n + 1).toNat := by unfold spM; omega
  exact sp_yes h (by omega) ht h1 (by rw [hm, hd]; exact q)
theorem sp_noI {n i : Int} {k : Nat} {ns : List Int} (h : spP (spM n) k ns) (e : i = 2 + (k : Int) * 1) (hi : i < n + 1) (ht : ns.getD i.toNat 0 = 0) : spP (spM n) (k + 1) ns := by
  rw [show i.toNat = k + 2 by omega] at ht
  exact sp_no h (by unfold spM; omega) ht
theorem filt_yes {vs : List Value} {ns : List Int} {i : Nat} {k : Int} {t : Tok} (h : IntsAre vs ((ns.take i).filter fun x => decide (x ≠ 0))) (hk : ns[i]? = some k) (h0 : k ≠ 0) : IntsAre (vs ++ [.int k t]) ((ns.take (i + 1)).filter fun x => decide (x ≠ 0)) := by
  rw [List.take_add_one, hk, List.filter_append]
  refine h.append ?_
  rw [Option.toList_some, List.filter_cons, if_pos (by simpa using h0)]
  exact .cons k t .nil
theorem filt_no {vs : List Value} {ns : List Int} {i : Nat} {k : Int} (h : IntsAre vs ((ns.take i).filter fun x => decide (x ≠ 0))) (hk : ns[i]? = some k) (h0 : k = 0) : IntsAre vs ((ns.take (i + 1)).filter fun x => decide (x ≠ 0)) := by
  rw [List.take_add_one, hk, List.filter_append, Option.toList_some, List.filter_cons, if_neg (by simpa using h0), List.filter_nil, List.append_nil]
  exact h
theorem c_lp (n : Int) (t : Tok) : ClL LCg.Off1 20 90 [.int n t] (0 ≤ n ∧ n ≤ 119) (fun zs => zs = prList n) := by
  unfold ClL; k_fill; intros; rename_i hret
  have hM := spM_eq n (by omega) (by omega)
  k_with_none
  (k_with "call ref cons nil" => k_call_by "use" (c_isqrt _ _))
  (k_with "fact use" => have hf9 := isq_bd (n + 1) (by omega) (by omega))
  (k_with "setItem ref ref ref" => (
    k_here
    (rename Fr _ _ _ _ => lF'); (rename News _ _ _ _ => lN'); (rename IntsAre _ _ => lI); (rename _ < _ ∧ AllLt _ _ => lL); (rename ∀ p ∈ _, _ => lL2)
    (k_dflt refine' my_setUpto (k := 2) (ms := [0, 0]) lF' lN' lL.1 (allLt_of lL2) lI (by repeat constructor) ?hsz ?hq)
    (case hsz => (have hl9 := lI.length; rw [rangeKs_length] at hl9; simp only [List.length_cons, List.length_nil]; omega))
    (case' hq => (clear lF' lN'; intro h' n' lF lN hSv; have hSv0 := sp_start n (by omega); (try k_fold)))))
  (k_with "pyIter ref" => k_of "i" => (
    k_here
    (rename Fr _ _ _ _ => lF'); (rename News _ _ _ _ => lN'); (rename IsRange _ _ _ _ _ _ _ _ => rgX)
    (k_dflt refine' my_rangeL [Str.ofString "j"] (fun pre ns => spP (spM n) pre.length ns) rfl rgX (small_one (by omega) (by omega) (by omega) (by omega)) (rangeSize_nat _ _) lF' lN' hSv hSv0 ?turnI ?doneI)
    (case' turnI => (clear lF' lN'; intro vs ns nn iPre iN iT iU iH iTk iOwn iEq iLt iOff iFacts iInv iFr iNews; have kMark := kstMark; have hi := sp_iN n (by omega) (by omega) iN (by omega) (by omega); have iLen := iInv.1; (try simp only [List.cons_append, List.nil_append] at iNews); (try simp only [List.map_cons, List.map_nil] at iOff); (try k_fold)))
    (case' doneI => (clear lF' lN'; intro vs ns nn iPre iU iH iTk iEq iFacts iInv iFr iNews; have kMark := kstMark; have iLen := iInv.1; (try k_fold)))))
  (k_with "pyIter ref" => k_of "j" => (
    k_here
    (rename Fr _ _ _ _ => lF'); (rename News _ _ _ _ => lN'); (rename IsRange _ _ _ _ _ _ _ _ => rgX)
    (k_dflt refine' my_rangeL [] (fun pre M => spQ (spM n) iPre.length pre.length M) rfl rgX (sp_cnt iN (n + 1) (by omega) hi.1 (by omega) (by omega)).1 (sp_cnt iN (n + 1) (by omega) hi.1 (by omega) (by omega)).2.1 lF' lN' iFacts (sp_in0 iInv) ?turnJ ?doneJ)
    (case' turnJ => (clear lF' lN'; intro vs1 ns1 nn1 jPre jN jT jU jH jTk jOwn jEq jLt jOff jFacts jInv jFr jNews; have hj := sp_jN iN (n + 1) jN jPre.length (by omega) hi.1 (by omega) (by omega) jEq jLt; have jLen := jInv.1; (try simp only [List.cons_append, List.nil_append] at jNews); (try simp only [List.map_cons, List.map_nil] at jOff); (try k_fold)))
    (case' doneJ => (clear lF' lN'; intro vs1 ns1 nn1 jPre jU jH jTk jEq jFacts jInv jFr jNews; have jLen := jInv.1; (try k_fold)))))
  (k_with "subscriptTail Name Name ref int" => (k_call_by "item" iFacts))
  (k_with "state" => first
    | (simp only [List.length_append, List.length_cons, List.length_nil, Nat.zero_add]; first
      | exact sp_turn jInv (by omega) jEq
      | exact sp_yesI (by omega) iInv iEq hi (by omega) (by assumption) jInv jEq (by omega)
      | exact sp_noI iInv iEq hi.2 (by first | assumption | omega)))
  (k_with "eval ListComp Name cons" => ((with_reducible refine wp_same ?_); k_here; k_dflt (refine LCt.ListComp_T (F₀ := by k_asm) (by with_unfolding_all rfl) (by decide) (by rfl) (by decide) (by rfl) ?_)))
  (k_with "CompSrcT Name Name nil ref" => (
    k_here
    (k_dflt refine' LCt.CompSrcT.ledger (by rfl) (by k_asm) (by k_asm) (by k_mem) ?hsz ?hcs)
    (case hsz => (rw [List.size_toArray, iFacts.length, PySem.sizeLine_eq]; omega))
    (intro g')
    (k_dflt refine' my_compT (fun i ys => IntsAre ys ((ns.take i).filter fun x => decide (x ≠ 0))) .nil ?turnC ?finC)
    (case' turnC => (intro ci cv I' oI' C' oC' D' m' ys' h' tk' E' clt cvE cJ hC' hx' F' N' off' ne' hM; obtain ⟨ck, ct, cvE, cK⟩ := IntsAre.at iFacts ci cv (by simpa using cvE); subst cvE; (try simp only [LCg.Off3, and_true] at off'); (try k_fold)))
    (case' finC => (intro ys cJ; rw [List.size_toArray, List.take_of_length_le (by rw [iFacts.length]; exact Nat.le_refl _), sp_res n (by omega) (by omega) _ _ iEq iInv] at cJ))))
  (k_with "MyEl cons" => first
    | (k_dflt exact ⟨rfl, filt_yes cJ cK (by assumption)⟩)
    | (k_dflt exact ⟨rfl, filt_no cJ cK (by first | assumption | omega)⟩))
  w_top off
  w_strict (refine wpAny_call ?_; cell_enter; (repeat' (first | (k_unfold; (try dsimp only)) | (k_end; wrow_close) | ((with_reducible refine wp_st (by dsimp only; exact StEq.same _) ?_); walk1) | walk1 | (dsimp only; walk1) | (leave1; walk_say "STEP leave1"; try dsimp only) | fail "no step")); all_goals (first
    | ((rename Fr _ _ _ _ => pF); (rename News _ _ _ _ => pN); (rename IntsAre _ _ => pI); (rename _ ≠ _ ∧ _ => pL); k_dflt exact hret _ _ _ _ _ _ pF (cb_drop pN (List.forall_mem_cons.mpr ⟨.head _, fun p hp => .tail _ (.tail _ hp)⟩)) pL.2 pI rfl)))

end Mine
namespace Mine
local macro_rules | `(tactic| k_call_by "use" $g:term) => `(tactic| (k_here; k_dflt (refine' Cl.use $g ?k1 ?k2 ?k3 ?k4 ?k5 ?kK ?kp ?kd ?ku ?kR; (case k1 => k_asm); (case k2 => k_asm); (case k3 => k_asm); (case k4 => k_asm); (case k5 => k_asm); (case kK => first | exact rfl | assumption); (case kp => first | trivial | omega | ((try dsimp only); first | assumption | omega | l_fact)); (case kd => k_room); (case ku => k_units)); intro t9 h9 tk9 F9 N9; (try dsimp only); (try k_extra "fact use"); (try k_fold)))
local macro_rules | `(tactic| k_room) => `(tactic| ((simp only [depth_under_make, depth_under_kw, depth_in1, depth_deeper, depth_caller, recursionLimit] at *); omega))
local macro_rules | `(tactic| k_units) => `(tactic| ((have hcL9 := cLine_is); (simp only [units_in1, units_deeper, Around.mark_units, units_caller, cLine] at *); omega))
local macro_rules | `(tactic| walk_at "InvEndN") => `(tactic| first | k_extra "InvEndN" | k_dflt kst_close)
local macro_rules | `(tactic| walk_at "CompEnd") => `(tactic| k_dflt (refine LCg.CompEnd.intro (by assumption) (by assumption) _ (fun _ hp => hp) (by assumption) (by first | exact True.intro | exact Or.inl (Or.inl (by assumption)) | exact Or.inl (by assumption) | exact Or.inr ⟨_, .head _, rfl, _, rfl⟩ | exact Or.inr ⟨_, by k_mem, rfl, _, rfl⟩) ?_))
local macro_rules | `(tactic| k_call_by "enterC" $_g:term) => `(tactic| (refine' code_defC ?k1 ?k2 ?k3 ?k4 ?k5 ?kA ?kF ?kK ?k6 ?k7 ?k8 ?k9 ?kB ?kD ?_ ?c2 ?c3 ?c4; (case kA => exact rfl); (case kF => exact rfl); (case kK => assumption); (case k1 => k_asm); (case k2 => k_asm); (case k3 => k_asm); (case k4 => k_asm); (case k5 => k_asm); (case k6 => k_is); (case k7 => k_is); (case k8 => k_room); (case k9 => exact BindsTo.of_eq rfl); (case kB => exact rfl); (case kD => decide +kernel); (case c2 => exact rfl); (case c3 => exact rfl); (case c4 => exact rfl); k_whole; intro g' L' h' tk' cells' FG' F' N' Y' B' X' T' l1; have hOc9 := ownOff_cells l1; have kMark9 := kstMark; (try k_lt l1); k_cells Y'; (try simp only [List.cons_append, List.nil_append] at N'); (try dsimp only); (try k_lift B'); (try k_fold)))
local macro_rules | `(tactic| k_call_by "om" $_g:term) => `(tactic| ((repeat (rename (_ ≠ _ ∧ _ ≠ _ ∧ _ ≠ _) ∧ _ => o9; clear o9)); (repeat (rename _ ≠ _ ∧ _ ≠ _ ∧ _ ≠ _ => o9; clear o9)); (repeat (rename @Ne Nat _ _ => o9; clear o9)); omega))
local macro_rules | `(tactic| k_call_by "item" $h:term) => `(tactic| (k_here; (with_reducible rename News _ _ _ _ => myN9); k_dflt (refine' item_list_ints (News.isList (by with_reducible exact myN9) ?hm) $h ?h0 ?h1 ?h2 (fun tI9 => ?hQ)); (case hm => k_dflt k_mem); (case h0 => k_call_by "om" 0); (case h1 => k_call_by "om" 0); (case h2 => k_call_by "om" 0); (try k_fold)))
local macro_rules | `(tactic| k_call_by "enterD" $_g:term) => `(tactic| (refine' code_def ?k1 ?k2 ?k3 ?k4 ?k5 ?kA ?kF ?kK ?k6 ?k7 ?k8 ?k9 ?kB ?_ ?c2 ?c3 ?c4 ?c5; (case kA => exact rfl); (case kF => exact rfl); (case kK => assumption); (case k1 => k_asm); (case k2 => k_asm); (case k3 => k_asm); (case k4 => k_asm); (case k5 => k_asm); (case k6 => k_is); (case k7 => k_is); (case k8 => k_room); (case k9 => first | exact binds_K (by k_in) rfl (by k_is) rfl rfl rfl | exact BindsTo.of_eq rfl); (case c5 => decide); (case kB => exact locs rfl); (case c2 => exact rfl); (case c3 => exact rfl); (case c4 => exact rfl); k_whole; intro g' L' h' FG' F' N' B' X' T'; (try dsimp only); (try k_lift B'); (try k_fold)))
local macro_rules | `(tactic| k_call_by "itemN" $h:term) => `(tactic| (k_here; (with_reducible rename News _ _ _ _ => myN9); k_dflt (refine' item_list_ints_neg (News.isList (by with_reducible exact myN9) ?hm) $h ?h0 ?h1 ?h2 (fun tI9 => ?hQ)); (case hm => k_dflt k_mem); (case h0 => k_call_by "om" 0); (case h1 => k_call_by "om" 0); (case h2 => k_call_by "om" 0); (try k_fold)))

local macro_rules | `(tactic| k_call_by "useL" $g:term) => `(tactic| (k_here; k_dflt (refine' ClL.use $g ?k1 ?k2 ?k3 ?k4 ?k5 ?kK ?kp ?kd ?ku ?kR; (case k1 => k_asm); (case k2 => k_asm); (case k3 => k_asm); (case k4 => k_asm); (case k5 => k_asm); (case kK => first | exact rfl | assumption); (case kp => first | trivial | omega | ((try dsimp only); first | assumption | omega | l_fact)); (case kd => k_room); (case ku => k_units)); intro D9 ws9 ns9 nn9 h9 tk9 F9 N9 l9 hI9 hR9; (try simp only [AllLt, LCg.Off1, and_true] at l9); (try dsimp only); (try k_extra "fact useL"); (try k_fold)))

theorem kind_pow3 : builtinKind "pow" = none := by decide +kernel
theorem plain_pow3 : plainId "pow" = true := by decide +kernel
theorem entry_pow3 : entryFor table "pow" = some Builtin.«pow» := entryFor_of_fast (by kernel_rfl)
theorem args_pow3 (a b c : Value) : argsOk "pow" ⟨[a, b, c], []⟩ := by unfold argsOk; kernel_rfl
theorem args_int_pow3 (a b c : Value) : argsOk "int.__pow__" ⟨[a, b, c], []⟩ := by unfold argsOk; kernel_rfl
section
variable {prog : Program} {w : World} {A : Around} {E : Value → Shared → Prop} {s : Shared} {a d n : Int} {t u v : Tok} {Q : Value → Shared → Prop}
theorem call_int_pow3 (hd : 0 ≤ d) (hn : 2 ≤ n) (h : Q (.int (Builtin.powMod (a % (n.natAbs : Int)).toNat d.natAbs n.natAbs : Nat) s.toks) { s with toks := s.toks + 1 }) :
    wpAny (model prog w) A (call (.builtin "int.__pow__") [.int a t, .int d u, .int n v]) (fun r s' => r ≠ .notImplemented ∧ Q r s') E s := by
  refine wpAny_call_entry slot_int_pow (typeIs_int s a t) entry_int_pow ?_ (args_int_pow3 _ _ _)
  have h1 : ¬ n = 0 := by omega
  have h2 : ¬ n.natAbs = 1 := by omega
  show wpAny _ _ (if (n == 0) = true then _ else _) _ _ s
  rw [if_neg (by simpa using h1)]
  show wpAny _ _ (if (n.natAbs == 1) = true then _ else _) _ _ s
  rw [if_neg (by simpa using h2)]
  show wpAny _ _ (if d < 0 then _ else _) _ _ s
  rw [if_neg (by omega)]
  generalize hr : (Builtin.powMod (a % (n.natAbs : Int)).toNat d.natAbs n.natAbs) = r at h
  show wpAny _ _ (PySem.retInt (if (decide (n < 0) && (((Builtin.powMod (a % (n.natAbs : Int)).toNat d.natAbs n.natAbs : Nat) : Int) != 0)) = true then ((Builtin.powMod (a % (n.natAbs : Int)).toNat d.natAbs n.natAbs : Nat) : Int) - (n.natAbs : Int) else ((Builtin.powMod (a % (n.natAbs : Int)).toNat d.natAbs n.natAbs : Nat) : Int))) _ _ s
  rw [hr, decide_eq_false (show ¬ n < 0 by omega), Bool.false_and, if_neg Bool.false_ne_true]
  exact wpAny_ret_mkInt ⟨by simp, h⟩
theorem call_pow3 (hd : 0 ≤ d) (hn : 2 ≤ n) (h : Q (.int (Builtin.powMod (a % (n.natAbs : Int)).toNat d.natAbs n.natAbs : Nat) s.toks) { s with toks := s.toks + 1 }) :
    wpAny (model prog w) A (call (.builtin "pow") [.int a t, .int d u, .int n v]) Q E s := by
  refine Calls.call_function_entry kind_pow3 plain_pow3 entry_pow3 (args_pow3 _ _ _) ?_
  unfold Builtin.«pow»
  refine wpAny_bind (m := Builtin.Builtins.bindParams "pow" _ _ _) (wpAny_of_eq (a := [some (.int a t), some (.int d u), some (.int n v)]) (by with_unfolding_all rfl) ?_)
  dsimp only [Option.getD_some]
  refine wpAny_bind (wpAny_rule ?_)
  refine wpAny_bind (wpAny_typeOf (typeIs_int s a t) ?_)
  dsimp only
  refine wpAny_bind (wpAny_of_eq (slot_int_pow.lookup) ?_)
  dsimp only
  refine wpAny_bind (wpAny_callSpecial?_slot (name := Str.ofString "__pow__") (typeIs_int s a t) slot_int_pow (wpAny_mono (call_int_pow3 hd hn h) (fun r s' hr => ?_) fun _ _ e => e))
  dsimp only
  rw [if_pos (by simpa using hr.1)]
  exact wpAny_pure ⟨_, rfl, hr.2⟩
end

end Mine
namespace Mine
local macro_rules | `(tactic| k_call_by "use" $g:term) => `(tactic| (k_here; k_dflt (refine' Cl.use $g ?k1 ?k2 ?k3 ?k4 ?k5 ?kK ?kp ?kd ?ku ?kR; (case k1 => k_asm); (case k2 => k_asm); (case k3 => k_asm); (case k4 => k_asm); (case k5 => k_asm); (case kK => first | exact rfl | assumption); (case kp => first | trivial | omega | ((try dsimp only); first | assumption | omega | l_fact)); (case kd => k_room); (case ku => k_units)); intro t9 h9 tk9 F9 N9; (try dsimp only); (try k_extra "fact use"); (try k_fold)))
local macro_rules | `(tactic| k_room) => `(tactic| ((simp only [depth_under_make, depth_under_kw, depth_in1, depth_deeper, depth_caller, recursionLimit] at *); omega))
local macro_rules | `(tactic| k_units) => `(tactic| ((have hcL9 := cLine_is); (simp only [units_in1, units_deeper, Around.mark_units, units_caller, cLine] at *); omega))
local macro_rules | `(tactic| walk_at "InvEndN") => `(tactic| first | k_extra "InvEndN" | k_dflt kst_close)
local macro_rules | `(tactic| walk_at "CompEnd") => `(tactic| k_dflt (refine LCg.CompEnd.intro (by assumption) (by assumption) _ (fun _ hp => hp) (by assumption) (by first | exact True.intro | exact Or.inl (Or.inl (by assumption)) | exact Or.inl (by assumption) | exact Or.inr ⟨_, .head _, rfl, _, rfl⟩ | exact Or.inr ⟨_, by k_mem, rfl, _, rfl⟩) ?_))
local macro_rules | `(tactic| k_call_by "enterC" $_g:term) => `(tactic| (refine' code_defC ?k1 ?k2 ?k3 ?k4 ?k5 ?kA ?kF ?kK ?k6 ?k7 ?k8 ?k9 ?kB ?kD ?_ ?c2 ?c3 ?c4; (case kA => exact rfl); (case kF => exact rfl); (case kK => assumption); (case k1 => k_asm); (case k2 => k_asm); (case k3 => k_asm); (case k4 => k_asm); (case k5 => k_asm); (case k6 => k_is); (case k7 => k_is); (case k8 => k_room); (case k9 => exact BindsTo.of_eq rfl); (case kB => exact rfl); (case kD => decide +kernel); (case c2 => exact rfl); (case c3 => exact rfl); (case c4 => exact rfl); k_whole; intro g' L' h' tk' cells' FG' F' N' Y' B' X' T' l1; have hOc9 := ownOff_cells l1; have kMark9 := kstMark; (try k_lt l1); k_cells Y'; (try simp only [List.cons_append, List.nil_append] at N'); (try dsimp only); (try k_lift B'); (try k_fold)))
local macro_rules | `(tactic| k_call_by "om" $_g:term) => `(tactic| ((repeat (rename (_ ≠ _ ∧ _ ≠ _ ∧ _ ≠ _) ∧ _ => o9; clear o9)); (repeat (rename _ ≠ _ ∧ _ ≠ _ ∧ _ ≠ _ => o9; clear o9)); (repeat (rename @Ne Nat _ _ => o9; clear o9)); omega))
local macro_rules | `(tactic| k_call_by "item" $h:term) => `(tactic| (k_here; (with_reducible rename News _ _ _ _ => myN9); k_dflt (refine' item_list_ints (News.isList (by with_reducible exact myN9) ?hm) $h ?h0 ?h1 ?h2 (fun tI9 => ?hQ)); (case hm => k_dflt k_mem); (case h0 => k_call_by "om" 0); (case h1 => k_call_by "om" 0); (case h2 => k_call_by "om" 0); (try k_fold)))
local macro_rules | `(tactic| k_call_by "enterD" $_g:term) => `(tactic| (refine' code_def ?k1 ?k2 ?k3 ?k4 ?k5 ?kA ?kF ?kK ?k6 ?k7 ?k8 ?k9 ?kB ?_ ?c2 ?c3 ?c4 ?c5; (case kA => exact rfl); (case kF => exact rfl); (case kK => assumption); (case k1 => k_asm); (case k2 => k_asm); (case k3 => k_asm); (case k4 => k_asm); (case k5 => k_asm); (case k6 => k_is); (case k7 => k_is); (case k8 => k_room); (case k9 => first | exact binds_K (by k_in) rfl (by k_is) rfl rfl rfl | exact BindsTo.of_eq rfl); (case c5 => decide); (case kB => exact locs rfl); (case c2 => exact rfl); (case c3 => exact rfl); (case c4 => exact rfl); k_whole; intro g' L' h' FG' F' N' B' X' T'; (try dsimp only); (try k_lift B'); (try k_fold)))
local macro_rules | `(tactic| k_call_by "itemN" $h:term) => `(tactic| (k_here; (with_reducible rename News _ _ _ _ => myN9); k_dflt (refine' item_list_ints_neg (News.isList (by with_reducible exact myN9) ?hm) $h ?h0 ?h1 ?h2 (fun tI9 => ?hQ)); (case hm => k_dflt k_mem); (case h0 => k_call_by "om" 0); (case h1 => k_call_by "om" 0); (case h2 => k_call_by "om" 0); (try k_fold)))

local macro_rules | `(tactic| k_call_by "useL" $g:term) => `(tactic| (k_here; k_dflt (refine' ClL.use $g ?k1 ?k2 ?k3 ?k4 ?k5 ?kK ?kp ?kd ?ku ?kR; (case k1 => k_asm); (case k2 => k_asm); (case k3 => k_asm); (case k4 => k_asm); (case k5 => k_asm); (case kK => first | exact rfl | assumption); (case kp => first | trivial | omega | ((try dsimp only); first | assumption | omega | l_fact)); (case kd => k_room); (case ku => k_units)); intro D9 ws9 ns9 nn9 h9 tk9 F9 N9 l9 hI9 hR9; (try simp only [AllLt, LCg.Off1, and_true] at l9); (try dsimp only); (try k_extra "fact useL"); (try k_fold)))

def sprs : List Int := [3, 5, 7, 11, 13, 17, 19, 23, 29, 31, 37, 41, 43, 47]
theorem small_tup0 : PySem.Challenge.rw_ah5004_01.row.prog = PySem.Challenge.rw_ah5004_01.row.prog → ∀ {P : Params} {h : Heap} (X : (hd.heap_39 P).In h), ∃ (items : Array Value), IsTup h 91 items ∧ IntsAre items.toList sprs := by
  k_fill
  intro _ P h X
  refine ⟨_, ⟨_, X _ _ (by k_is), rfl, _, rfl⟩, ?_⟩
  repeat constructor
theorem small_tup {P : Params} {h : Heap} (X : (hd.heap_39 P).In h) : ∃ (items : Array Value), IsTup h 91 items ∧ IntsAre items.toList sprs := small_tup0 rfl X
def isPV (n : Int) : Bool := decide (2 ≤ n) && prB n
theorem isp_small0 : ∀ k : Nat, k < 53 → (if ((k : Int) - 3) % 2 = 0 then ((k : Int) - 3 == 2) = isPV ((k : Int) - 3) else (sprs.any fun x => x == ((k : Int) - 3)) = isPV ((k : Int) - 3)) := by decide +kernel
theorem isp_even (n : Int) (h0 : -3 ≤ n) (h1 : n < 50) (h : n % 2 = 0) : (n == 2) = isPV n := by
  have := isp_small0 (n + 3).toNat (by omega)
  rwa [show (((n + 3).toNat : Nat) : Int) - 3 = n by omega, if_pos h] at this
theorem isp_odd (n : Int) (h0 : -3 ≤ n) (h1 : n < 50) (h : n % 2 ≠ 0) : (sprs.any fun x => x == n) = isPV n := by
  have := isp_small0 (n + 3).toNat (by omega)
  rwa [show (((n + 3).toNat : Nat) : Int) - 3 = n by omega, if_neg h] at this
theorem c_isps (n : Int) (t : Tok) : Cl 20 98 [.int n t] (-3 ≤ n ∧ n < 50) (fun _ => .bool (isPV n)) := by
  unfold Cl CbRet; k_fill; intros; rename_i hret
  k_with_none
  (k_with "compareOp In int ref" => (k_here; (rename Fr _ _ _ _ => pF); (rename Frag.In _ _ => pX); obtain ⟨its, hT, hI⟩ := small_tup (pX.keeps pF.keep); k_dflt (refine in_tuple_ints hT hI ?_); (try k_fold)))
  (k_with "LeaveK bool" => first
    | exact (ts_no tW ha (by assumption) ⟨by assumption, by assumption, by assumption, by assumption⟩ (rangeKs_length _ _)).elim)
  (k_with "call builtin:pow cons nil" => (k_here; k_dflt (refine call_pow3x (tsX n _ 0) rfl tD (by omega) ?_); (try k_fold)))
  (k_with "pyIter ref" => k_of "r" => (k_state_given ["a"] (fun a pre x => tsP n a pre.length x) "x"))
  (k_with "tree" => ((simp only [bitAnd_m1] at *); first
    | exact tTrue
    | exact isp_even n (by omega) (by omega) (by omega)
    | exact isp_odd n (by omega) (by omega) (by omega)))
  w_top off
  w_strict (refine wpAny_call ?_; (k_call_by "enterC" n); (repeat' (first | (k_unfold; (try dsimp only)) | (k_end; wrow_close) | ((with_reducible refine wp_st (by dsimp only; exact StEq.same _) ?_); walk1) | walk1 | (dsimp only; walk1) | (leave1; walk_say "STEP leave1"; try dsimp only) | fail "no step")); all_goals (first | (cb_end hret)))
section
variable {prog : Program} {w : World} {A : Around} {E : Value → Shared → Prop} {s : Shared} {env : Env} {h₀ : Heap} {x : Str} {body : List Stmt} {Q : Flow → Shared → Prop}
/-- a for over a tuple of ints of the text's own, by a word over what it has taken -/
theorem my_tuple {ax : Addr} {items : Array Value} {ns : List Int} {m₀ : Str → Option Value} {news : List (Addr × Obj)} (P : List Int → Prop)
    (hh : A.handled = none) (ht : IsTup h₀ ax items) (hi : IntsAre items.toList ns) (F : Fr h₀ env.locals s.heap m₀) (N : News h₀ env.locals s.heap news) (hp : P [])
    (turn : ∀ (pre : List Int) (k : Int) t (u : Str → Option Value) h tk own, ns[pre.length]? = some k → pre = ns.take pre.length → OwnOff own (news.map (·.1)) → P pre →
      Fr h₀ env.locals h (fun y => if y = x then some (.int k t) else m₀ y) → News h₀ env.locals h (news ++ own) →
      wpAny (model prog w) A (execs body env) (InvPostN h₀ env.locals (KstS (fun _ : Unit => news) (fun _ => []) (fun _ => True) x [] m₀ (fun pre _ => P pre) (pre ++ [k])) own (news.map (·.1)) { s with heap := h, toks := tk } Q) E { s with heap := h, toks := tk })
    (done : ∀ (u : Str → Option Value) h tk, P ns → Fr h₀ env.locals h (fun y => if y = x then u y else m₀ y) → News h₀ env.locals h news → Q .next { s with heap := h, toks := tk }) :
    wpAny (model prog w) A (pyIter (.ref ax)) (fun it s₂ => LoopAtV prog w A h₀ env x body Q E it s₂) E s := by
  obtain ⟨o, hg, hc, n, hd⟩ := ht
  have hax : s.heap.get? ax = some o := F.keep _ _ hg
  have hl : s.heap.IsTuple ax items := ⟨o, hax, hc, n, hd⟩
  have hlt : ax < s.heap.objs.size := Heap.lt_size hax
  have hne : ax ≠ s.heap.objs.size := Nat.ne_of_lt hlt
  have hsz : items.size = ns.length := by rw [← Array.length_toList]; exact hi.length
  refine wpAny_pyIter_tuple hl ?_
  have up : ∀ b o, s.heap.get? b = some o → (s.heap.push { cls := .type "tuple_iterator", data := .fields #[.ref ax, .int 0 0] }).get? b = some o := fun b o e => Heap.get?_push_of_some _ e
  have hkeep : ∀ {h : Heap} {m : Str → Option Value}, Fr h₀ env.locals h m → h.get? ax = some o := fun F' => F'.keep _ _ hg
  refine loop_invN (fun i m nx => KstS (fun _ : Unit => news) (fun _ => []) (fun _ => True) x [] m₀ (fun pre _ => P pre) (ns.take i) m nx) (Walks.tuple hh s.heap.objs.size ax hne items) ?_ ?_ ?_ ?_ ⟨⟨_, Heap.get?_push_size _ rfl, rfl, rfl⟩, ⟨o, up _ _ hax, hc, n, hd⟩⟩ (F.push _) (fun p hp => ⟨up _ _ (N p hp).1, (N p hp).2⟩) ⟨(), rfl, trivial, (fun _ h => nomatch h), fun _ _ _ _ => rfl, by simpa using hp⟩ ?_ ?_
  · intro hm
    rcases List.mem_cons.mp hm with e | hm
    · exact absurd F.ns.lt (by rw [e]; exact Nat.lt_irrefl _)
    · have e := List.mem_singleton.mp hm
      have := Heap.get?_none_of_le F.above
      rw [e, hg] at this
      cases this
  · intro q hq
    rw [List.mem_singleton.mp hq]
    exact next_is_new F
  · intro p hp hI
    exact absurd (Heap.lt_size (N p hp).1) ((List.mem_singleton.mp hI) ▸ Nat.lt_irrefl _)
  · intro p hp hI
    rcases List.mem_cons.mp hI with e | hm
    · exact absurd (Heap.lt_size (N p hp).1) (e ▸ Nat.lt_irrefl _)
    · have e := List.mem_singleton.mp hm
      have := (N p hp).2.2
      rw [e, hg] at this
      cases this
  · rintro i v m₁ nx h tk own hin hv _ hoff ⟨c, rfl, _, h1, h2, hp'⟩ F₁ N₁
    obtain ⟨k, t, rfl, hk⟩ := IntsAre.at hi i v (by simpa using hv)
    have hlen : (ns.take i).length = i := List.length_take_of_le (by omega)
    have ht : ns.take (i + 1) = ns.take i ++ [k] := by rw [List.take_add_one, hk]; rfl
    rw [ht]
    refine turn (ns.take i) k t m₁ h tk own (by rw [hlen]; exact hk) (by rw [hlen]) hoff hp' (?_ : Fr _ _ _ _) N₁
    have em : (fun y => if y = x then some (Value.int k t) else m₁ y) = fun y => if y = x then some (Value.int k t) else m₀ y := by
      funext y
      by_cases hy : y = x
      · rw [if_pos hy, if_pos hy]
      · rw [if_neg hy, if_neg hy]; exact h2 y hy (fun _ h => nomatch h) rfl
    rw [em] at F₁
    exact F₁
  · rintro m₁ nx h tk ⟨c, rfl, _, h1, h2, hp'⟩ F₁ N₁
    rw [hsz, List.take_length] at hp'
    refine done m₁ h tk hp' ?_ N₁
    have em : m₁ = fun y => if y = x then m₁ y else m₀ y := by
      funext y
      by_cases hy : y = x
      · rw [if_pos hy]
      · rw [if_neg hy]; exact h2 y hy (fun _ h => nomatch h) rfl
    rw [em] at F₁
    exact F₁
/-- a for over the newest list of the ledger, by a word over what it has taken; the list itself is dropped -/
theorem my_list {D : Addr} {vs : List Value} {ns : List Int} {nn : Nat} {m₀ : Str → Option Value} {news : List (Addr × Obj)} (P : List Int → Prop)
    (hh : A.handled = none) (F : Fr h₀ env.locals s.heap m₀) (N : News h₀ env.locals s.heap ((D, listOf vs.toArray nn) :: news)) (hD : AllLt D news) (hi : IntsAre vs ns) (hp : P [])
    (turn : ∀ (pre : List Int) (k : Int) t (u : Str → Option Value) h tk own, ns[pre.length]? = some k → pre = ns.take pre.length → OwnOff own (news.map (·.1)) → P pre →
      Fr h₀ env.locals h (fun y => if y = x then some (.int k t) else m₀ y) → News h₀ env.locals h (news ++ own) →
      wpAny (model prog w) A (execs body env) (InvPostN h₀ env.locals (KstS (fun _ : Unit => news) (fun _ => []) (fun _ => True) x [] m₀ (fun pre _ => P pre) (pre ++ [k])) own (news.map (·.1)) { s with heap := h, toks := tk } Q) E { s with heap := h, toks := tk })
    (done : ∀ (u : Str → Option Value) h tk, P ns → Fr h₀ env.locals h (fun y => if y = x then u y else m₀ y) → News h₀ env.locals h news → Q .next { s with heap := h, toks := tk }) :
    wpAny (model prog w) A (pyIter (.ref D)) (fun it s₂ => LoopAtV prog w A h₀ env x body Q E it s₂) E s := by
  have z := N (D, listOf vs.toArray nn) (.head _)
  have hl : s.heap.IsList D vs.toArray := PySem.IsL.isList (n := nn) z.1
  have hlt : D < s.heap.objs.size := Heap.lt_size z.1
  have hne : D ≠ s.heap.objs.size := Nat.ne_of_lt hlt
  have hsz : vs.toArray.size = ns.length := by rw [List.size_toArray]; exact hi.length
  refine wpAny_pyIter_list hl ?_
  have up : ∀ b o, s.heap.get? b = some o → (s.heap.push { cls := .type "list_iterator", data := .fields #[.ref D, .int 0 0] }).get? b = some o := fun b o e => Heap.get?_push_of_some _ e
  refine loop_invN (fun i m nx => KstS (fun _ : Unit => news) (fun _ => []) (fun _ => True) x [] m₀ (fun pre _ => P pre) (ns.take i) m nx) (Walks.list hh s.heap.objs.size D hne vs.toArray) ?_ ?_ ?_ ?_ ⟨⟨_, Heap.get?_push_size _ rfl, rfl, rfl⟩, hl.push _⟩ (F.push _) (fun p hp => ⟨up _ _ (N p (.tail _ hp)).1, (N p (.tail _ hp)).2⟩) ⟨(), rfl, trivial, (fun _ h => nomatch h), fun _ _ _ _ => rfl, by simpa using hp⟩ ?_ ?_
  · intro hm
    rcases List.mem_cons.mp hm with e | hm
    · exact absurd F.ns.lt (by rw [e]; exact Nat.lt_irrefl _)
    · exact z.2.1 (List.mem_singleton.mp hm).symm
  · intro q hq
    rw [List.mem_singleton.mp hq]
    exact next_is_new F
  · intro p hp hI
    exact absurd (Heap.lt_size (N p (.tail _ hp)).1) ((List.mem_singleton.mp hI) ▸ Nat.lt_irrefl _)
  · intro p hp hI
    rcases List.mem_cons.mp hI with e | hm
    · exact absurd (Heap.lt_size (N p (.tail _ hp)).1) (e ▸ Nat.lt_irrefl _)
    · exact absurd (allLt_mem hD p hp) ((List.mem_singleton.mp hm) ▸ Nat.lt_irrefl _)
  · rintro i v m₁ nx h tk own hin hv _ hoff ⟨c, rfl, _, h1, h2, hp'⟩ F₁ N₁
    obtain ⟨k, t, rfl, hk⟩ := IntsAre.at hi i v (by simpa using hv)
    have hlen : (ns.take i).length = i := List.length_take_of_le (by omega)
    have ht : ns.take (i + 1) = ns.take i ++ [k] := by rw [List.take_add_one, hk]; rfl
    rw [ht]
    refine turn (ns.take i) k t m₁ h tk own (by rw [hlen]; exact hk) (by rw [hlen]) hoff hp' (?_ : Fr _ _ _ _) N₁
    have em : (fun y => if y = x then some (Value.int k t) else m₁ y) = fun y => if y = x then some (Value.int k t) else m₀ y := by
      funext y
      by_cases hy : y = x
      · rw [if_pos hy, if_pos hy]
      · rw [if_neg hy, if_neg hy]; exact h2 y hy (fun _ h => nomatch h) rfl
    rw [em] at F₁
    exact F₁
  · rintro m₁ nx h tk ⟨c, rfl, _, h1, h2, hp'⟩ F₁ N₁
    rw [hsz, List.take_length] at hp'
    refine done m₁ h tk hp' ?_ N₁
    have em : m₁ = fun y => if y = x then m₁ y else m₀ y := by
      funext y
      by_cases hy : y = x
      · rw [if_pos hy]
      · rw [if_neg hy]; exact h2 y hy (fun _ h => nomatch h) rfl
    rw [em] at F₁
    exact F₁
end
theorem sprs_bd {i : Nat} {k : Int} (h : sprs[i]? = some k) : 3 ≤ k ∧ k ≤ 47 := by
  have hm : k ∈ sprs := List.mem_of_getElem? h
  have : ∀ k ∈ sprs, 3 ≤ k ∧ k ≤ 47 := by decide
  exact this k hm
/-- the end of a turn of such a loop -/
theorem unit_end {h₀ h' : Heap} {L : Addr} {x : Str} {m₀ m' : Str → Option Value} {tk : Nat} {news own all : List (Addr × Obj)} {P : List Int → Prop} {pre : List Int} {s₁ : Shared}
    (F : Fr h₀ L h' m') (N : News h₀ L h' all) (hn : ∀ p ∈ news, p ∈ all) (ho : ∀ p ∈ own, p ∈ all) (same : ∀ z, z ≠ x → m' z = m₀ z) (hp : P pre) :
    InvEndN h₀ L (KstS (fun _ : Unit => news) (fun _ => []) (fun _ => True) x [] m₀ (fun pre _ => P pre) pre) own (news.map (·.1)) s₁ { s₁ with heap := h', toks := tk } :=
  ⟨h', tk, m', all, news, rfl, F, N, hn, ho, rfl, (), rfl, trivial, (fun _ h => nomatch h), fun z hz _ _ => same z hz, hp⟩
theorem two_three {i : Nat} {k : Int} (h : [(2 : Int), 3][i]? = some k) : k = 2 ∨ k = 3 := by
  have hm : k ∈ [(2 : Int), 3] := List.mem_of_getElem? h
  simpa using hm
theorem tr_bd0 : ∀ k : Nat, k < 121 → 0 ≤ trailV k ∧ trailV k ≤ 7 := by decide +kernel
theorem tr_bd (m : Int) (h0 : 0 ≤ m) (h1 : m ≤ 120) : 0 ≤ trailV m ∧ trailV m ≤ 7 := by
  have := tr_bd0 m.toNat (by omega)
  rwa [show ((m.toNat : Nat) : Int) = m by omega] at this
theorem isp_div0 : ∀ k : Nat, k < 120 → 50 ≤ k → ∀ p ∈ sprs, (k : Int).fmod p = 0 → false = isPV k := by decide +kernel
theorem isp_div (n p : Int) {i : Nat} (h0 : 50 ≤ n) (h1 : n < 120) (hp : sprs[i]? = some p) (h : n.fmod p = 0) : false = isPV n := by
  have := isp_div0 n.toNat (by omega) (by omega) p (List.mem_of_getElem? hp)
  rw [show ((n.toNat : Nat) : Int) = n by omega] at this
  exact this h
theorem isp_evb (n : Int) (h0 : 50 ≤ n) (h1 : n < 120) (h : n % 2 = 0) : (n == 2) = isPV n := by
  have : ∀ k : Nat, k < 120 → 50 ≤ k → (k : Int) % 2 = 0 → ((k : Int) == 2) = isPV k := by decide +kernel
  have := this n.toNat (by omega) (by omega)
  rw [show ((n.toNat : Nat) : Int) = n by omega] at this
  exact this h
theorem pw_snoc {n k : Int} {pre : List Int} (h : ∀ p ∈ pre, n.fmod p ≠ 0) (hk : n.fmod k ≠ 0) : ∀ p ∈ pre ++ [k], n.fmod p ≠ 0 := fun p hp => by
  rcases List.mem_append.mp hp with hp | hp
  · exact h p hp
  · rw [List.mem_singleton.mp hp]; exact hk
def tsD (n : Int) : Int := (n - 1).fdiv (2 ^ (trailV (n - 1)).toNat)
def tsX (n a : Int) : Nat → Int
  | 0 => (Builtin.powMod (a % (n.natAbs : Int)).toNat (tsD n).natAbs n.natAbs : Nat)
  | r + 1 => ((tsX n a r) ^ Int.toNat 2).fmod n
theorem call_pow3x {prog : Program} {w : World} {A : Around} {E : Value → Shared → Prop} {s : Shared} {a d n : Int} {t u v : Tok} {Q : Value → Shared → Prop} (x : Int) (hx : (Builtin.powMod (a % (n.natAbs : Int)).toNat d.natAbs n.natAbs : Int) = x) (hd : 0 ≤ d) (hn : 2 ≤ n) (h : Q (.int x s.toks) { s with toks := s.toks + 1 }) :
    wpAny (model prog w) A (call (.builtin "pow") [.int a t, .int d u, .int n v]) Q E s := by
  subst hx
  exact call_pow3 hd hn h
def tsOk (n : Int) : Bool := decide (0 ≤ tsD n) && (isPV n && [(2 : Int), 3].all fun a => decide (0 ≤ tsX n a 0 ∧ tsX n a 0 < n) && (decide (tsX n a 0 = 1) || (List.range ((trailV (n - 1) - 1).toNat + 1)).any fun j => decide (tsX n a j = n - 1)))
theorem ts_all : ∀ k : Nat, k < 120 → (decide (k < 50) || (decide ((k : Int) % 2 = 0) || ((sprs.any fun p => decide ((k : Int).fmod p = 0)) || tsOk k))) = true := by decide +kernel
theorem ts_n (n : Int) (h0 : 50 ≤ n) (h1 : n < 120) (ho : n % 2 ≠ 0) (hp : ∀ p ∈ sprs, n.fmod p ≠ 0) : 0 ≤ tsD n ∧ true = isPV n ∧ ∀ a ∈ [(2 : Int), 3], 0 ≤ tsX n a 0 ∧ tsX n a 0 < n ∧ (tsX n a 0 = 1 ∨ ((List.range ((trailV (n - 1) - 1).toNat + 1)).any fun j => decide (tsX n a j = n - 1)) = true) := by
  have h := ts_all n.toNat (by omega)
  rw [show ((n.toNat : Nat) : Int) = n by omega] at h
  have hs : (sprs.any fun p => decide (n.fmod p = 0)) = false := by
    rw [Bool.eq_false_iff]
    intro q
    obtain ⟨p, hm, q⟩ := List.any_eq_true.mp q
    exact hp p hm (of_decide_eq_true q)
  rw [decide_eq_false (show ¬ n.toNat < 50 by omega), decide_eq_false ho, hs, Bool.false_or, Bool.false_or, Bool.false_or] at h
  unfold tsOk at h
  rw [Bool.and_eq_true, Bool.and_eq_true] at h
  refine ⟨of_decide_eq_true h.1, h.2.1.symm, fun a ha => ?_⟩
  have q := List.all_eq_true.mp h.2.2 a ha
  rw [Bool.and_eq_true, Bool.or_eq_true] at q
  have q1 := of_decide_eq_true q.1
  exact ⟨q1.1, q1.2, q.2.imp of_decide_eq_true id⟩
abbrev tsP (n a : Int) (i : Nat) (x : Int) : Prop := x = tsX n a i ∧ (∀ j ≤ i, tsX n a j ≠ n - 1) ∧ 0 ≤ x ∧ x < n
theorem ts_start {n a : Int} (hb : ∀ a ∈ [(2 : Int), 3], 0 ≤ tsX n a 0 ∧ tsX n a 0 < n ∧ (tsX n a 0 = 1 ∨ ((List.range ((trailV (n - 1) - 1).toNat + 1)).any fun j => decide (tsX n a j = n - 1)) = true)) (ha : a = 2 ∨ a = 3) (h : ¬ tsX n a 0 = n - 1) : tsP n a 0 (tsX n a 0) := by
  have := hb a (by rcases ha with rfl | rfl <;> simp)
  exact ⟨rfl, fun j hj => by rw [Nat.le_zero.mp hj]; exact h, this.1, this.2.1⟩
theorem ts_turn {n a x : Int} {i : Nat} (hn : 0 < n) (h : tsP n a i x) (ht : ¬ (x ^ Int.toNat 2).fmod n = n - 1) : tsP n a (i + 1) ((x ^ Int.toNat 2).fmod n) := by
  obtain ⟨h1, h2, h3, h4⟩ := h
  have e : (x ^ Int.toNat 2).fmod n = tsX n a (i + 1) := by rw [tsX, h1]
  refine ⟨e, fun j hj => ?_, ?_, ?_⟩
  · rcases (show j ≤ i ∨ j = i + 1 by omega) with q | rfl
    · exact h2 j q
    · rw [← e]; exact ht
  · rw [Int.fmod_eq_emod_of_nonneg _ (by omega)]; exact Int.emod_nonneg _ (by omega)
  · rw [Int.fmod_eq_emod_of_nonneg _ (by omega)]; exact Int.emod_lt_of_pos _ hn
theorem ts_no {n a x : Int} {i : Nat} (hb : ∀ a ∈ [(2 : Int), 3], 0 ≤ tsX n a 0 ∧ tsX n a 0 < n ∧ (tsX n a 0 = 1 ∨ ((List.range ((trailV (n - 1) - 1).toNat + 1)).any fun j => decide (tsX n a j = n - 1)) = true)) (ha : a = 2 ∨ a = 3) (h0 : ¬ tsX n a 0 = 1) (h : tsP n a i x) (hi : i = (trailV (n - 1) - 1).toNat) : False := by
  obtain ⟨_, _, h3⟩ := hb a (by rcases ha with rfl | rfl <;> simp)
  rcases h3 with h3 | h3
  · exact h0 h3
  · obtain ⟨j, hj, h3⟩ := List.any_eq_true.mp h3
    have := List.mem_range.mp hj
    exact h.2.1 j (by omega) (of_decide_eq_true h3)
/-- the table of isprime's code: empty, or with its own def's code -/
abbrev TbS := Option (Addr × Obj)
def tbL : TbS → List (Addr × Obj)
  | none => [(93, tabObj #[])]
  | some (c, oc) => [(93, tabObj #[rawInt 87, rawInt 4, .ref c]), (c, oc)]
abbrev tbQual : Str := Str.ofString "isprime.<locals>.test"
def tbOk : TbS → Prop
  | none => True
  | some (_, oc) => ∃ vs t, oc.data = .fields vs ∧ vs[1]? = some (.str tbQual t)
/-- the table behind a call: as it was, or with a new code above all that was -/
def tbNew (z z' : TbS) (rest : List (Addr × Obj)) : Prop := z' = z ∨ ∃ c oc, z' = some (c, oc) ∧ 93 < c ∧ AllLt c rest
/-- the contract of a def that may lay its own def's code into the table -/
def ClP (D : Nat) (f : Addr) (vs : List Value) (z : TbS) (pre : Prop) (R : Tok → Value) : Prop :=
  ∀ (w : World) (p : Program) (loose : List Str) (mean : ExcName → Option Value) (mg mb : Str → Option Value) (rest : List (Addr × Obj)) (dp un : Nat) (gd : Option (List Code)) (cn : Str) (cs : Scope) (a : Addr) (ccd : Value) (cl : List (Str × Addr)) (outer : List Env) (A₀ : Around) (base h₀ : Heap) (L : Addr) (m : Str → Option Value) (s : Shared) (Q E : Value → Shared → Prop),
    Below A₀ base outer h₀ → Fr h₀ L s.heap m → (hd.heap_39 w.params).In h₀ → News h₀ L s.heap (tbL z ++ rest) → tbOk z → OwnOff rest [93] → CodeHd h₀ 97 93 → Top p loose mean mg mb h₀ → cs.kind = .function → pre → dp + D < recursionLimit → un + 8 * D < cLine →
      (∀ (t : Tok) (z' : TbS) (h' : Heap) (tk' : Nat), Fr h₀ L h' m → News h₀ L h' (tbL z' ++ rest) → tbOk z' → tbNew z z' rest → Q (R t) { s with heap := h', toks := tk' }) →
      wpAny (model PySem.Challenge.rw_ah5004_01.row.prog w) (ktrTop dp un gd cn cs L a ccd cl outer) (call (.ref f) vs) Q E s
theorem pri_ret {h₀ h' : Heap} {L : Addr} {m : Str → Option Value} {s : Shared} {Q : Value → Shared → Prop} {x y : Bool} {z : TbS} {rest all : List (Addr × Obj)} {tk' : Nat}
    (hret : ∀ (t : Tok) (z' : TbS) (h' : Heap) (tk' : Nat), Fr h₀ L h' m → News h₀ L h' (tbL z' ++ rest) → tbOk z' → tbNew z z' rest → Q (.bool x) { s with heap := h', toks := tk' }) (z' : TbS) (e : y = x) (F : Fr h₀ L h' m) (N : News h₀ L h' all) (hs : ∀ p ∈ tbL z' ++ rest, p ∈ all) (ok : tbOk z') (nw : tbNew z z' rest) :
    Q (.bool y) { s with heap := h', toks := tk' } := by
  subst e
  exact hret 0 z' h' tk' F (cb_drop N hs) ok nw
theorem c_ispb (n : Int) (t : Tok) : ClP 20 98 [.int n t] none (50 ≤ n ∧ n < 120) (fun _ => .bool (isPV n)) := by
  unfold ClP tbL; simp only [List.cons_append, List.nil_append]; k_fill; intros; rename_i hret
  k_with_none
  (k_with "exec For Name Name cons nil" => (k_here; (rename Fr _ _ _ _ => lF'); (with_unfolding_all refine' For_invVF lF' ?k1 ?k2 ?_; (case k1 => exact rfl); (case k2 => exact rfl)); k_whole))
  (k_with "call ref cons nil" => k_call_by "use" (c_trailing _ _))
  (k_with "fact use" => have hf9 := tr_bd (n - 1) (by omega) (by omega))
  (k_with "pyIter ref" => k_of "p" => (
    k_here
    (rename Fr _ _ _ _ => lF'); (rename News _ _ _ _ => lN'); (rename Frag.In _ _ => pX); obtain ⟨its, hT, hI⟩ := small_tup pX
    (k_dflt refine' my_tuple (fun pre => ∀ p ∈ pre, n.fmod p ≠ 0) rfl hT hI lF' lN' (fun _ h => nomatch h) ?turnP ?doneP)
    (case' turnP => (clear lF' lN'; intro pPre pN pT pU pH pTk pOwn pEq pTake pOff pInv pFr pNews; have kMark := kstMark; have hpb := sprs_bd pEq; (try simp only [List.cons_append, List.nil_append] at pNews); (try simp only [List.map_cons, List.map_nil] at pOff); (try k_fold)))
    (case' doneP => (clear lF' lN'; intro pU pH pTk pInv pFr pNews; have kMark := kstMark; have hOdd : n % 2 ≠ 0 := (by simp only [bitAnd_m1] at *; omega); obtain ⟨tD, tTrue, tW⟩ := ts_n n (by omega) (by omega) hOdd pInv; (try k_fold)))))
  (k_with "pyIter ref" => k_of "a" => (
    k_here
    (rename Fr _ _ _ _ => lF'); (rename News _ _ _ _ => lN'); (rename _ < _ ∧ _ => lL)
    (k_dflt refine' my_list (ns := [2, 3]) (fun _ => True) rfl lF' lN' lL (by repeat constructor) True.intro ?turnA ?doneA)
    (case' turnA => (clear lF' lN'; intro aPre aN aT aU aH aTk aOwn aEq aTake aOff _ aFr aNews; have kMark := kstMark; have ha := two_three aEq; (try simp only [List.cons_append, List.nil_append] at aNews); (try simp only [List.map_cons, List.map_nil] at aOff); (try k_fold)))
    (case' doneA => (clear lF' lN'; intro aU aH aTk _ aFr aNews; have kMark := kstMark; (try k_fold)))))
  (k_with "InvEndN" => (
    k_here
    (rename Fr _ _ _ _ => eF); (rename News _ _ _ _ => eN)
    (k_dflt refine' unit_end eF eN ?hn ?ho ?same ?hp)
    (case hn => k_dflt kcf_all)
    (case ho => k_dflt kcf_all)
    (case same => (intro z hz; (try dsimp only); k_dflt exact if_neg hz))
    (case hp => first | exact trivial | exact pw_snoc pInv (by assumption))))
  (k_with "state" => first
    | exact pw_snoc pInv (by assumption)
    | (simp only [List.length_nil]; exact ts_start tW ha (by assumption))
    | (simp only [List.length_append, List.length_cons, List.length_nil, Nat.zero_add]; exact ts_turn (by omega) ⟨by assumption, by assumption, by assumption, by assumption⟩ (by assumption)))
  (k_with "exec FunctionDef cons nil none nil none" => (
    k_here
    kn_here
    (k_dflt (refine' nestDef_K ?d0 ?k0 ?a0 ?_; (case d0 => exact rfl); (case k0 => exact rfl); (case a0 => exact rfl)))
    (k_dflt (refine' nest_K ?F ?N ?T ?C ?cd ?U ?t ?n ?cl ?_; (case F => k_asm); (case N => k_asm); (case T => k_asm); (case cd => exact rfl); (case C => exact CodeHd.keeps (by assumption) (Fr.keep (by assumption))); (case U => k_updF); (case t => kn_triples); (case n => kn_among); (case cl => exact rfl); k_whole))
    (intro f1 c1 oc1 vs1 tn1 ctv1 doc1 h1 tk1 F1 N1 d1 v1 l1 l2; (try dsimp only at N1); (try simp only [Array.empty_append] at N1); (try k_lt l1); (try k_lt2 l2); (try k_fold))))
  (k_with "binaryOp Mod int int" => (k_here; refine mod_int (by omega) ?_))
  (k_with "LeaveK bool" => first
    | exact (ts_no tW ha (by assumption) ⟨by assumption, by assumption, by assumption, by assumption⟩ (rangeKs_length _ _)).elim)
  (k_with "call builtin:pow cons nil" => (k_here; k_dflt (refine call_pow3x (tsX n _ 0) rfl tD (by omega) ?_); (try k_fold)))
  (k_with "pyIter ref" => k_of "r" => (k_state_given ["a"] (fun a pre x => tsP n a pre.length x) "x"))
  (k_with "tree" => first
    | exact tTrue
    | exact isp_div n _ (by omega) (by omega) pEq (by assumption)
    | ((simp only [bitAnd_m1] at *); exact isp_evb n (by omega) (by omega) (by omega)))
  w_top off
  w_strict (refine wpAny_call ?_; (k_call_by "enterC" n); (repeat' (first | (k_unfold; (try dsimp only)) | (k_end; wrow_close) | ((with_reducible refine wp_st (by dsimp only; exact StEq.same _) ?_); walk1) | walk1 | (dsimp only; walk1) | (leave1; walk_say "STEP leave1"; try dsimp only) | fail "no step")); all_goals (first
    | ((rename Fr _ _ _ _ => pF); (rename News _ _ _ _ => pN); (k_dflt refine' pri_ret hret (some (c1, oc1)) ?e pF pN ?hs ⟨vs1, tn1, d1, v1.trans ?q⟩ (Or.inr ⟨_, _, rfl, l1.2.2.2.2.1, l1.2.2.2.2.2⟩)); (case e => k_extra "tree"); (case hs => k_dflt (simp only [tbL, List.cons_append, List.nil_append]; kcf_all)); (case q => with_unfolding_all rfl))
    | ((rename Fr _ _ _ _ => pF); (rename News _ _ _ _ => pN); (k_dflt refine' pri_ret hret none ?e pF pN ?hs trivial (Or.inl rfl)); (case e => k_extra "tree"); (case hs => k_dflt (simp only [tbL, List.cons_append, List.nil_append]; kcf_all)))))
theorem c_ispc (n : Int) (t : Tok) (c : Addr) (oc : Obj) : ClP 20 98 [.int n t] (some (c, oc)) (50 ≤ n ∧ n < 120) (fun _ => .bool (isPV n)) := by
  unfold ClP tbL; simp only [List.cons_append, List.nil_append]; k_fill; intros; rename_i hret
  rename tbOk _ => hok; obtain ⟨vs1, tn1, d1, v1⟩ := id hok
  k_with_none
  (k_with "exec For Name Name cons nil" => (k_here; (rename Fr _ _ _ _ => lF'); (with_unfolding_all refine' For_invVF lF' ?k1 ?k2 ?_; (case k1 => exact rfl); (case k2 => exact rfl)); k_whole))
  (k_with "call ref cons nil" => k_call_by "use" (c_trailing _ _))
  (k_with "fact use" => have hf9 := tr_bd (n - 1) (by omega) (by omega))
  (k_with "pyIter ref" => k_of "p" => (
    k_here
    (rename Fr _ _ _ _ => lF'); (rename News _ _ _ _ => lN'); (rename Frag.In _ _ => pX); obtain ⟨its, hT, hI⟩ := small_tup pX
    (k_dflt refine' my_tuple (fun pre => ∀ p ∈ pre, n.fmod p ≠ 0) rfl hT hI lF' lN' (fun _ h => nomatch h) ?turnP ?doneP)
    (case' turnP => (clear lF' lN'; intro pPre pN pT pU pH pTk pOwn pEq pTake pOff pInv pFr pNews; have kMark := kstMark; have hpb := sprs_bd pEq; (try simp only [List.cons_append, List.nil_append] at pNews); (try simp only [List.map_cons, List.map_nil] at pOff); (try k_fold)))
    (case' doneP => (clear lF' lN'; intro pU pH pTk pInv pFr pNews; have kMark := kstMark; have hOdd : n % 2 ≠ 0 := (by simp only [bitAnd_m1] at *; omega); obtain ⟨tD, tTrue, tW⟩ := ts_n n (by omega) (by omega) hOdd pInv; (try k_fold)))))
  (k_with "pyIter ref" => k_of "a" => (
    k_here
    (rename Fr _ _ _ _ => lF'); (rename News _ _ _ _ => lN'); (rename _ < _ ∧ _ => lL)
    (k_dflt refine' my_list (ns := [2, 3]) (fun _ => True) rfl lF' lN' lL (by repeat constructor) True.intro ?turnA ?doneA)
    (case' turnA => (clear lF' lN'; intro aPre aN aT aU aH aTk aOwn aEq aTake aOff _ aFr aNews; have kMark := kstMark; have ha := two_three aEq; (try simp only [List.cons_append, List.nil_append] at aNews); (try simp only [List.map_cons, List.map_nil] at aOff); (try k_fold)))
    (case' doneA => (clear lF' lN'; intro aU aH aTk _ aFr aNews; have kMark := kstMark; (try k_fold)))))
  (k_with "InvEndN" => (
    k_here
    (rename Fr _ _ _ _ => eF); (rename News _ _ _ _ => eN)
    (k_dflt refine' unit_end eF eN ?hn ?ho ?same ?hp)
    (case hn => k_dflt kcf_all)
    (case ho => k_dflt kcf_all)
    (case same => (intro z hz; (try dsimp only); k_dflt exact if_neg hz))
    (case hp => first | exact trivial | exact pw_snoc pInv (by assumption))))
  (k_with "state" => first
    | exact pw_snoc pInv (by assumption)
    | (simp only [List.length_nil]; exact ts_start tW ha (by assumption))
    | (simp only [List.length_append, List.length_cons, List.length_nil, Nat.zero_add]; exact ts_turn (by omega) ⟨by assumption, by assumption, by assumption, by assumption⟩ (by assumption)))
  (k_with "exec FunctionDef cons nil none nil none" => (
    k_here
    kn_here
    (k_dflt (refine' nestDef_K ?d0 ?k0 ?a0 ?_; (case d0 => exact rfl); (case k0 => exact rfl); (case a0 => exact rfl)))
    (k_dflt (refine' nestHit_K ?F ?N ?T ?C ?cd ?mem ?t ?n ?cl ?_; (case F => k_asm); (case N => k_asm); (case T => k_asm); (case cd => exact rfl); (case C => exact CodeHd.keeps (by assumption) (Fr.keep (by assumption))); (case mem => k_mem); (case t => kn_triples); (case n => kn_hit); (case cl => exact rfl); k_whole))
    (intro f1 ctv1 doc1 h1 tk1 F1 N1 l1; (try dsimp only at N1); (try k_lt l1); (try k_fold))))
  (k_with "binaryOp Mod int int" => (k_here; refine mod_int (by omega) ?_))
  (k_with "LeaveK bool" => first
    | exact (ts_no tW ha (by assumption) ⟨by assumption, by assumption, by assumption, by assumption⟩ (rangeKs_length _ _)).elim)
  (k_with "call builtin:pow cons nil" => (k_here; k_dflt (refine call_pow3x (tsX n _ 0) rfl tD (by omega) ?_); (try k_fold)))
  (k_with "pyIter ref" => k_of "r" => (k_state_given ["a"] (fun a pre x => tsP n a pre.length x) "x"))
  (k_with "tree" => first
    | exact tTrue
    | exact isp_div n _ (by omega) (by omega) pEq (by assumption)
    | ((simp only [bitAnd_m1] at *); exact isp_evb n (by omega) (by omega) (by omega)))
  w_top off
  w_strict (refine wpAny_call ?_; (k_call_by "enterC" n); (repeat' (first | (k_unfold; (try dsimp only)) | (k_end; wrow_close) | ((with_reducible refine wp_st (by dsimp only; exact StEq.same _) ?_); walk1) | walk1 | (dsimp only; walk1) | (leave1; walk_say "STEP leave1"; try dsimp only) | fail "no step")); all_goals (first
    | ((rename Fr _ _ _ _ => pF); (rename News _ _ _ _ => pN); (k_dflt refine' pri_ret hret (some (c, oc)) ?e pF pN ?hs hok (Or.inl rfl)); (case e => k_extra "tree"); (case hs => k_dflt (simp only [tbL, List.cons_append, List.nil_append]; kcf_all)))))
theorem c_isp (n : Int) (t : Tok) (z : TbS) : ClP 20 98 [.int n t] z (-3 ≤ n ∧ n < 120) (fun _ => .bool (isPV n)) := by
  intro w p loose mean mg mb rest dp un gd cn cs a ccd cl outer A₀ base h₀ L m s Q E k1 k2 k3 k4 k5 k6 k7 k8 k9 k10 k11 k12 k13
  by_cases h : n < 50
  · exact Cl.use (c_isps n t) k1 k2 k3 k4 k8 k9 ⟨k10.1, h⟩ k11 k12 (fun t h' tk' F N => k13 t z h' tk' F N k5 (.inl rfl))
  · cases z with
    | none => exact c_ispb n t w p loose mean mg mb rest dp un gd cn cs a ccd cl outer A₀ base h₀ L m s Q E k1 k2 k3 k4 k5 k6 k7 k8 k9 ⟨by omega, k10.2⟩ k11 k12 k13
    | some c => exact c_ispc n t c.1 c.2 w p loose mean mg mb rest dp un gd cn cs a ccd cl outer A₀ base h₀ L m s Q E k1 k2 k3 k4 k5 k6 k7 k8 k9 ⟨by omega, k10.2⟩ k11 k12 k13

end Mine
namespace Mine
local macro_rules | `(tactic| k_call_by "use" $g:term) => `(tactic| (k_here; k_dflt (refine' Cl.use $g ?k1 ?k2 ?k3 ?k4 ?k5 ?kK ?kp ?kd ?ku ?kR; (case k1 => k_asm); (case k2 => k_asm); (case k3 => k_asm); (case k4 => k_asm); (case k5 => k_asm); (case kK => first | exact rfl | assumption); (case kp => first | trivial | omega | ((try dsimp only); first | assumption | omega | l_fact)); (case kd => k_room); (case ku => k_units)); intro t9 h9 tk9 F9 N9; (try dsimp only); (try k_extra "fact use"); (try k_fold)))
local macro_rules | `(tactic| k_room) => `(tactic| ((simp only [depth_under_make, depth_under_kw, depth_in1, depth_deeper, depth_caller, recursionLimit] at *); omega))
local macro_rules | `(tactic| k_units) => `(tactic| ((have hcL9 := cLine_is); (simp only [units_in1, units_deeper, Around.mark_units, units_caller, cLine] at *); omega))
local macro_rules | `(tactic| walk_at "InvEndN") => `(tactic| first | k_extra "InvEndN" | k_dflt kst_close)
local macro_rules | `(tactic| walk_at "CompEnd") => `(tactic| k_dflt (refine LCg.CompEnd.intro (by assumption) (by assumption) _ (fun _ hp => hp) (by assumption) (by first | exact True.intro | exact Or.inl (Or.inl (by assumption)) | exact Or.inl (by assumption) | exact Or.inr ⟨_, .head _, rfl, _, rfl⟩ | exact Or.inr ⟨_, by k_mem, rfl, _, rfl⟩) ?_))
local macro_rules | `(tactic| k_call_by "enterC" $_g:term) => `(tactic| (refine' code_defC ?k1 ?k2 ?k3 ?k4 ?k5 ?kA ?kF ?kK ?k6 ?k7 ?k8 ?k9 ?kB ?kD ?_ ?c2 ?c3 ?c4; (case kA => exact rfl); (case kF => exact rfl); (case kK => assumption); (case k1 => k_asm); (case k2 => k_asm); (case k3 => k_asm); (case k4 => k_asm); (case k5 => k_asm); (case k6 => k_is); (case k7 => k_is); (case k8 => k_room); (case k9 => exact BindsTo.of_eq rfl); (case kB => exact rfl); (case kD => decide +kernel); (case c2 => exact rfl); (case c3 => exact rfl); (case c4 => exact rfl); k_whole; intro g' L' h' tk' cells' FG' F' N' Y' B' X' T' l1; have hOc9 := ownOff_cells l1; have kMark9 := kstMark; (try k_lt l1); k_cells Y'; (try simp only [List.cons_append, List.nil_append] at N'); (try dsimp only); (try k_lift B'); (try k_fold)))
local macro_rules | `(tactic| k_call_by "om" $_g:term) => `(tactic| ((repeat (rename (_ ≠ _ ∧ _ ≠ _ ∧ _ ≠ _) ∧ _ => o9; clear o9)); (repeat (rename _ ≠ _ ∧ _ ≠ _ ∧ _ ≠ _ => o9; clear o9)); (repeat (rename @Ne Nat _ _ => o9; clear o9)); omega))
local macro_rules | `(tactic| k_call_by "item" $h:term) => `(tactic| (k_here; (with_reducible rename News _ _ _ _ => myN9); k_dflt (refine' item_list_ints (News.isList (by with_reducible exact myN9) ?hm) $h ?h0 ?h1 ?h2 (fun tI9 => ?hQ)); (case hm => k_dflt k_mem); (case h0 => k_call_by "om" 0); (case h1 => k_call_by "om" 0); (case h2 => k_call_by "om" 0); (try k_fold)))
local macro_rules | `(tactic| k_call_by "enterD" $_g:term) => `(tactic| (refine' code_def ?k1 ?k2 ?k3 ?k4 ?k5 ?kA ?kF ?kK ?k6 ?k7 ?k8 ?k9 ?kB ?_ ?c2 ?c3 ?c4 ?c5; (case kA => exact rfl); (case kF => exact rfl); (case kK => assumption); (case k1 => k_asm); (case k2 => k_asm); (case k3 => k_asm); (case k4 => k_asm); (case k5 => k_asm); (case k6 => k_is); (case k7 => k_is); (case k8 => k_room); (case k9 => first | exact binds_K (by k_in) rfl (by k_is) rfl rfl rfl | exact BindsTo.of_eq rfl); (case c5 => decide); (case kB => exact locs rfl); (case c2 => exact rfl); (case c3 => exact rfl); (case c4 => exact rfl); k_whole; intro g' L' h' FG' F' N' B' X' T'; (try dsimp only); (try k_lift B'); (try k_fold)))
local macro_rules | `(tactic| k_call_by "itemN" $h:term) => `(tactic| (k_here; (with_reducible rename News _ _ _ _ => myN9); k_dflt (refine' item_list_ints_neg (News.isList (by with_reducible exact myN9) ?hm) $h ?h0 ?h1 ?h2 (fun tI9 => ?hQ)); (case hm => k_dflt k_mem); (case h0 => k_call_by "om" 0); (case h1 => k_call_by "om" 0); (case h2 => k_call_by "om" 0); (try k_fold)))

local macro_rules | `(tactic| k_call_by "useL" $g:term) => `(tactic| (k_here; k_dflt (refine' ClL.use $g ?k1 ?k2 ?k3 ?k4 ?k5 ?kK ?kp ?kd ?ku ?kR; (case k1 => k_asm); (case k2 => k_asm); (case k3 => k_asm); (case k4 => k_asm); (case k5 => k_asm); (case kK => first | exact rfl | assumption); (case kp => first | trivial | omega | ((try dsimp only); first | assumption | omega | l_fact)); (case kd => k_room); (case ku => k_units)); intro D9 ws9 ns9 nn9 h9 tk9 F9 N9 l9 hI9 hR9; (try simp only [AllLt, LCg.Off1, and_true] at l9); (try dsimp only); (try k_extra "fact useL"); (try k_fold)))

/-- the table of moebius's code: empty, or with the code of its generator expression -/
def tbMOk (pos : Pos) (ps : Array Value) : Prop := ps = #[] ∨ ∃ c', ps = #[rawInt pos.line, rawInt pos.col, .ref c']
section
variable {M : Model} {A : Around} {E : Value → Shared → Prop} {s : Shared} {c P : Addr}
theorem gcode_K {env : Env} {qual : Str} {scope : Scope} {pos : Pos} {ps : Array Value} {Q : Value → Shared → Prop} (C : CodeHd s.heap c P) (hcd : env.code = .ref c) (hP : s.heap.get? P = some (tabObj ps)) (ok : tbMOk pos ps)
    (h : ∀ code ps' h' tk, Heap.ExtBut P s.heap h' → s.heap.objs.size ≤ h'.objs.size → h'.get? P = some (tabObj ps') → tbMOk pos ps' → Q code { s with heap := h', toks := tk }) :
    wpAny M A (genexprCode env pos qual scope) Q E s := by
  rcases ok with rfl | ⟨c', rfl⟩
  · refine wpAny_genexprCodeX hcd (C.code hP True.intro) (C.tab hP) rfl fun c' h' tk hx hge hlt _ _ ht _ => ?_
    exact h _ _ h' tk hx (Nat.le_trans hge (Nat.le_of_lt hlt)) ht.2 (Or.inr ⟨c', rfl⟩)
  · refine wpAny_genexprCode_hit hcd (C.code hP (by simp [TriplesOk, rawInt])) (by simp [codeAmong, rawInt]; rfl) ?_
    exact h _ _ s.heap s.toks (fun _ _ _ e => e) (Nat.le_refl _) hP (Or.inr ⟨c', rfl⟩)
end
section
variable {prog : Program} {w : World} {A : Around} {E : Value → Shared → Prop} {s : Shared} {h₀ : Heap} {L a c P : Addr} {m mg mb : Str → Option Value}
  {p : Program} {loose : List Str} {mean : ExcName → Option Value}
/-- a generator expression over a list of the ledger -/
theorem gexp_K {env : Env} {elt : Expr} {x y : Str} {px py : Pos} {scope : Scope} {clos : List (Str × Addr)} {pos : Pos} {Q : Value → Shared → Prop} {D : Addr} {vs : List Value} {nn : Nat} {ps : Array Value} {Fv : Nat → Value → Prop}
    (F : Fr h₀ L s.heap m) (G : AllBare s.gens) (T : Top p loose mean mg mb h₀) (C : CodeHd h₀ c P) (hcd : env.code = .ref c) (hg : env.globals = mainGlobals) (hP : s.heap.get? P = some (tabObj ps)) (hPL : P ≠ L) (hP0 : h₀.get? P = none) (ok : tbMOk pos ps)
    (hh : A.handled = none) (hco : scope.isCoroutine = false) (hclos : closureFor scope env = pure clos) (hcell : ∀ y ∈ scope.names, y.2 ≠ .cell) (h0 : scope.names.lookup (".0" : Str) = some NameKind.local)
    (hx : scope.names.lookup x = some .local) (hkind : scope.kind = .function) (hroom : A.depth < recursionLimit)
    (hD : s.heap.get? D = some (listOf vs.toArray nn))
    (hl : ∀ (Q' : Value → Shared → Prop), Q' (.ref D) s → wpAny (model prog w) A (eval (.Name y py) env) Q' E s)
    (hq : ∀ (code : Value) (n₃ : Nat) (href : Heap), s.heap.objs.size < n₃ → (∀ b o, b ≠ P → s.heap.get? b = some o → href.get? b = some o) →
      QuietGen prog w (genEnv scope clos n₃ code builtinsNs env) x [] elt (List.range n₃) [s.heap.objs.size] (fun i v => vs[i]? = some v) (fun _ => true) Fv href)
    (hQ : ∀ (a : Addr) (ps' : Array Value) (K : Addr) (s' : Shared), tbMOk pos ps' → Fr h₀ L s'.heap m → (∀ b o, b ≠ P → s.heap.get? b = some o → s'.heap.get? b = some o) → s'.heap.get? P = some (tabObj ps') → s.heap.objs.size = K + 1 → AllBare s'.gens → s'.os = s.os →
      Gen prog w A K a (passing (fun _ => true) vs.length 0).length (fun j y => ∃ i, (passing (fun _ => true) vs.length 0)[j]? = some i ∧ Fv i y) s' → Q (.ref a) s') :
    wpAny (model prog w) A (eval (.GeneratorExp elt [⟨.Name x px, .Name y py, [], 0⟩] scope pos) env) Q E s := by
  refine wpAny_GeneratorExp_walksQ hh hco hclos hcell h0 hx hkind hroom (hl _ ?_) (fun _ => rfl)
  have hl' : s.heap.IsList D vs.toArray := PySem.IsL.isList (n := nn) hD
  have hlt : D < s.heap.objs.size := Heap.lt_size hD
  have hDP : D ≠ P := fun e => by
    rw [e, hP] at hD
    have := congrArg Obj.cls (Option.some.inj hD)
    cases this
  have hPlt : P < s.heap.objs.size := Heap.lt_size hP
  have hne : D ≠ s.heap.objs.size := Nat.ne_of_lt hlt
  obtain ⟨K, hK⟩ : ∃ K, s.heap.objs.size = K + 1 := Nat.exists_eq_succ_of_ne_zero (Nat.ne_of_gt (Nat.lt_of_le_of_lt (Nat.zero_le D) hlt))
  have up : ∀ b o, s.heap.get? b = some o → (s.heap.push { cls := .type "list_iterator", data := .fields #[.ref D, .int 0 0] }).get? b = some o := fun b o e => Heap.get?_push_of_some _ e
  refine wpAny_pyIter_list hl' ⟨(T.nolimit.keeps F.keep).push _, ?_⟩
  have F₁ := F.push { cls := .type "list_iterator", data := .fields #[.ref D, .int 0 0] }
  refine gcode_K (C.keeps F₁.keep) hcd (up _ _ hP) ok fun code ps' h₃ tk₃ hx₃ hsz₃ hP₃ ok' => ?_
  have hsz : s.heap.objs.size < h₃.objs.size := by
    have : (s.heap.push { cls := .type "list_iterator", data := .fields #[.ref D, .int 0 0] }).objs.size ≤ h₃.objs.size := hsz₃
    rw [Heap.size_push] at this
    exact this
  have keep₀ : ∀ b o, h₀.get? b = some o → h₃.get? b = some o := fun b o e => hx₃ b o (fun q => by rw [q, hP0] at e; cases e) (F₁.keep b o e)
  have keepP : ∀ b o, b ≠ P → s.heap.get? b = some o → h₃.get? b = some o := fun b o q e => hx₃ b o q (up b o e)
  have F₃ : Fr h₀ L h₃ m := ⟨F₁.ns.at' fun o e => hx₃ L o (Ne.symm hPL) e, keep₀, F.above⟩
  obtain ⟨bm, ob, b1, b2, b3, b4, b5, b6⟩ := T.bmain
  refine wpAny_builtinsFor (hg ▸ T.g.keeps keep₀) b1 b2 (keep₀ _ _ b3) b4 b5 b6 ?_
  have hl₃ : h₃.NoLimit := T.nolimit.keeps keep₀
  have hclt : cStatics < h₀.objs.size := let ⟨_, hn, _⟩ := T.nolimit; hn.lt
  have hLlt : L < s.heap.objs.size := F.ns.lt
  refine ⟨s.heap.objs.size, [s.heap.objs.size, D], [s.heap.objs.size], vs.length, _, _, fun _ => true, Fv, rfl, (fun A' hA => (by simpa using Walks.list hA s.heap.objs.size D hne vs.toArray)), ?_, ?_, hl₃, ?_, ?_, ?_⟩
  · exact ⟨⟨_, hx₃ _ _ (Nat.ne_of_gt hPlt) (Heap.get?_push_size _ rfl), rfl, rfl⟩, hl'.at fun o e => keepP D o hDP e⟩
  · intro b hb
    rcases List.mem_cons.mp hb with rfl | hb
    · exact hsz
    · rw [List.mem_singleton.mp hb]; exact Nat.lt_trans hlt hsz
  · intro hb
    have := List.mem_singleton.mp hb
    exact absurd (Nat.lt_of_lt_of_le hclt (Nat.le_trans F.above (Nat.le_of_lt hLlt))) (this ▸ Nat.lt_irrefl _)
  · intro href hk
    exact hq code h₃.objs.size href hsz fun b o q e => hk b o (keepP b o q e)
  · intro a h₅ tk gs hgb hag hsz₅ hk₅ W hat
    refine hQ a ps' K _ ok' (F₃.keeps hk₅) (fun b o q e => hk₅ b o (keepP b o q e)) (hk₅ _ _ hP₃) hK (G.push hgb) rfl ⟨_, _, _, _, W, hat, (fun i s' st => st.1.typeIs), List.mem_cons_self, ?_, ?_⟩
    · intro b hb
      show b < h₅.objs.size
      rw [hsz₅]
      rcases List.mem_cons.mp hb with rfl | hb
      · exact Nat.lt_succ_self _
      · rcases List.mem_cons.mp hb with rfl | hb
        · exact Nat.lt_succ_of_lt hag
        · exact Nat.lt_succ_of_lt (Nat.lt_trans (List.mem_range.mp hb) hag)
    · intro b hb
      rcases List.mem_cons.mp hb with rfl | hb
      · show K < h₃.objs.size
        have hz := hsz
        rw [hK] at hz
        exact Nat.lt_of_succ_lt hz
      · rw [List.mem_singleton.mp hb, hK]; exact Nat.lt_succ_self K
end

end Mine
namespace Mine
local macro_rules | `(tactic| k_call_by "use" $g:term) => `(tactic| (k_here; k_dflt (refine' Cl.use $g ?k1 ?k2 ?k3 ?k4 ?k5 ?kK ?kp ?kd ?ku ?kR; (case k1 => k_asm); (case k2 => k_asm); (case k3 => k_asm); (case k4 => k_asm); (case k5 => k_asm); (case kK => first | exact rfl | assumption); (case kp => first | trivial | omega | ((try dsimp only); first | assumption | omega | l_fact)); (case kd => k_room); (case ku => k_units)); intro t9 h9 tk9 F9 N9; (try dsimp only); (try k_extra "fact use"); (try k_fold)))
local macro_rules | `(tactic| k_room) => `(tactic| ((simp only [depth_under_make, depth_under_kw, depth_in1, depth_deeper, depth_caller, recursionLimit] at *); omega))
local macro_rules | `(tactic| k_units) => `(tactic| ((have hcL9 := cLine_is); (simp only [units_in1, units_deeper, Around.mark_units, units_caller, cLine] at *); omega))
local macro_rules | `(tactic| walk_at "InvEndN") => `(tactic| first | k_extra "InvEndN" | k_dflt kst_close)
local macro_rules | `(tactic| walk_at "CompEnd") => `(tactic| k_dflt (refine LCg.CompEnd.intro (by assumption) (by assumption) _ (fun _ hp => hp) (by assumption) (by first | exact True.intro | exact Or.inl (Or.inl (by assumption)) | exact Or.inl (by assumption) | exact Or.inr ⟨_, .head _, rfl, _, rfl⟩ | exact Or.inr ⟨_, by k_mem, rfl, _, rfl⟩) ?_))
local macro_rules | `(tactic| k_call_by "enterC" $_g:term) => `(tactic| (refine' code_defC ?k1 ?k2 ?k3 ?k4 ?k5 ?kA ?kF ?kK ?k6 ?k7 ?k8 ?k9 ?kB ?kD ?_ ?c2 ?c3 ?c4; (case kA => exact rfl); (case kF => exact rfl); (case kK => assumption); (case k1 => k_asm); (case k2 => k_asm); (case k3 => k_asm); (case k4 => k_asm); (case k5 => k_asm); (case k6 => k_is); (case k7 => k_is); (case k8 => k_room); (case k9 => exact BindsTo.of_eq rfl); (case kB => exact rfl); (case kD => decide +kernel); (case c2 => exact rfl); (case c3 => exact rfl); (case c4 => exact rfl); k_whole; intro g' L' h' tk' cells' FG' F' N' Y' B' X' T' l1; have hOc9 := ownOff_cells l1; have kMark9 := kstMark; (try k_lt l1); k_cells Y'; (try simp only [List.cons_append, List.nil_append] at N'); (try dsimp only); (try k_lift B'); (try k_fold)))
local macro_rules | `(tactic| k_call_by "om" $_g:term) => `(tactic| ((repeat (rename (_ ≠ _ ∧ _ ≠ _ ∧ _ ≠ _) ∧ _ => o9; clear o9)); (repeat (rename _ ≠ _ ∧ _ ≠ _ ∧ _ ≠ _ => o9; clear o9)); (repeat (rename @Ne Nat _ _ => o9; clear o9)); omega))
local macro_rules | `(tactic| k_call_by "item" $h:term) => `(tactic| (k_here; (with_reducible rename News _ _ _ _ => myN9); k_dflt (refine' item_list_ints (News.isList (by with_reducible exact myN9) ?hm) $h ?h0 ?h1 ?h2 (fun tI9 => ?hQ)); (case hm => k_dflt k_mem); (case h0 => k_call_by "om" 0); (case h1 => k_call_by "om" 0); (case h2 => k_call_by "om" 0); (try k_fold)))
local macro_rules | `(tactic| k_call_by "enterD" $_g:term) => `(tactic| (refine' code_def ?k1 ?k2 ?k3 ?k4 ?k5 ?kA ?kF ?kK ?k6 ?k7 ?k8 ?k9 ?kB ?_ ?c2 ?c3 ?c4 ?c5; (case kA => exact rfl); (case kF => exact rfl); (case kK => assumption); (case k1 => k_asm); (case k2 => k_asm); (case k3 => k_asm); (case k4 => k_asm); (case k5 => k_asm); (case k6 => k_is); (case k7 => k_is); (case k8 => k_room); (case k9 => first | exact binds_K (by k_in) rfl (by k_is) rfl rfl rfl | exact BindsTo.of_eq rfl); (case c5 => decide); (case kB => exact locs rfl); (case c2 => exact rfl); (case c3 => exact rfl); (case c4 => exact rfl); k_whole; intro g' L' h' FG' F' N' B' X' T'; (try dsimp only); (try k_lift B'); (try k_fold)))
local macro_rules | `(tactic| k_call_by "itemN" $h:term) => `(tactic| (k_here; (with_reducible rename News _ _ _ _ => myN9); k_dflt (refine' item_list_ints_neg (News.isList (by with_reducible exact myN9) ?hm) $h ?h0 ?h1 ?h2 (fun tI9 => ?hQ)); (case hm => k_dflt k_mem); (case h0 => k_call_by "om" 0); (case h1 => k_call_by "om" 0); (case h2 => k_call_by "om" 0); (try k_fold)))

local macro_rules | `(tactic| k_call_by "useL" $g:term) => `(tactic| (k_here; k_dflt (refine' ClL.use $g ?k1 ?k2 ?k3 ?k4 ?k5 ?kK ?kp ?kd ?ku ?kR; (case k1 => k_asm); (case k2 => k_asm); (case k3 => k_asm); (case k4 => k_asm); (case k5 => k_asm); (case kK => first | exact rfl | assumption); (case kp => first | trivial | omega | ((try dsimp only); first | assumption | omega | l_fact)); (case kd => k_room); (case ku => k_units)); intro D9 ws9 ns9 nn9 h9 tk9 F9 N9 l9 hI9 hR9; (try simp only [AllLt, LCg.Off1, and_true] at l9); (try dsimp only); (try k_extra "fact useL"); (try k_fold)))

abbrev moSc : Scope := { kind := .function, names := [(PySem.Str.ofString ".0", .local), (PySem.Str.ofString "f", .local), (PySem.Str.ofString "p", .free)], isGenerator := true, isCoroutine := false, more := [] }
abbrev moPos : Pos := ⟨115, 23, 115, 47⟩
theorem passing_len (n : Nat) : (passing (fun _ => true) n 0).length = n := by
  have e : passing (fun _ => true) n 0 = List.range n := by unfold passing; rw [List.drop_zero]; exact List.filter_eq_self.mpr fun _ _ => rfl
  rw [e, List.length_range]
theorem passing_at {n j i : Nat} (h : (passing (fun _ => true) n 0)[j]? = some i) : i = j := by
  have e : passing (fun _ => true) n 0 = List.range n := by unfold passing; rw [List.drop_zero]; exact List.filter_eq_self.mpr fun _ _ => rfl
  rw [e] at h
  obtain ⟨h1, h2⟩ := List.getElem?_eq_some_iff.mp h
  rw [List.getElem_range] at h2
  exact h2.symm
section
variable {prog : Program} {w : World} {A : Around} {E : Value → Shared → Prop} {s : Shared} {h₀ : Heap} {L a c P : Addr} {m mg mb : Str → Option Value} {cn : Str} {cs : Scope} {ccd : Value}
  {p : Program} {loose : List Str} {mean : ExcName → Option Value} {k : Int} {ns : List Int} {news rest : List (Addr × Obj)}
abbrev moF (k : Int) (ns : List Int) (j : Nat) (v : Value) : Prop := ∃ x t, ns[j]? = some x ∧ v = .int (k.fmod x) t
theorem mo_quiet {env : Env} {C I : Addr} {oC : Obj} {t : Tok} {vs : List Value} {p1 p2 p3 : Pos} {code : Value} {n₃ : Nat} {href : Heap} {clos : List (Str × Addr)} (hcl : clos.lookup (PySem.Str.ofString "p") = some C) (hC : href.get? C = some oC) (hc : oC.data = .cell (some (.int k t))) (hn : C < n₃) (hI : C ≠ I)
    (hi : IntsAre vs ns) (hpos : ∀ x ∈ ns, 0 < x) :
    QuietGen prog w (genEnv moSc clos n₃ code builtinsNs env) (PySem.Str.ofString "f") [] (.BinOp (.Name (PySem.Str.ofString "p") p1) .Mod (.Name (PySem.Str.ofString "f") p2) p3) (List.range n₃) [I] (fun i v => vs[i]? = some v) (fun _ => true) (moF k ns) href where
  tests := fun A' E' i v s₂ m₂ _ _ _ _ _ => wpAny_pure ⟨rfl, s₂.heap, s₂.toks, rfl, fun _ _ e => e⟩
  elt := fun A' E' i v s₂ m₂ _ hv _ hn₂ hx hk => by
    have hC₂ : s₂.heap.get? C = some oC := hk C (List.mem_range.mpr hn) (fun h => hI (List.mem_singleton.mp h)) oC hC
    obtain ⟨x, tx, rfl, hx₀⟩ := IntsAre.at hi i v hv
    have hx0 : 0 < x := hpos x (List.mem_of_getElem? hx₀)
    refine wpAny_BinOp (ldFreeG hcl ⟨oC, hC₂, hc⟩ (wpAny_Name (wpAny_loadName_local rfl rfl hn₂ hx ?_) (by decide)))
    refine mod_int' (by omega) ⟨⟨x, _, hx₀, rfl⟩, s₂.heap, s₂.toks + 1, rfl, fun _ _ e => e⟩
/-- the generator of moebius over the factors so far, ready to be summed -/
def GenM (prog : Program) (w : World) (A : Around) (L a : Addr) (k : Int) (ns : List Int) (news : List (Addr × Obj)) (s : Shared) : Prop :=
  ∃ K, L ≤ K ∧ (∀ q ∈ news, q.1 ≤ K) ∧ Gen prog w A K a ns.length (moF k ns) s
theorem GenM.toks {tk : Nat} (x : GenM prog w A L a k ns news s) (h : s.toks ≤ tk) : GenM prog w A L a k ns news { s with toks := tk } := by
  obtain ⟨K, h1, h2, fp, wr, g, St, W, hst, h3, h4, h5, h6⟩ := x
  exact ⟨K, h1, h2, fp, wr, g, St, W, W.frame 0 s s.heap tk hst h (fun _ _ _ e => e), h3, h4, h5, h6⟩
abbrev moLed (I : Addr) (oI : Obj) (D : Addr) (vs : List Value) (nn : Nat) (C : Addr) (oC : Obj) (ps : Array Value) (rest : List (Addr × Obj)) : List (Addr × Obj) :=
  (I, oI) :: (D, listOf vs.toArray nn) :: (C, oC) :: (100, tabObj ps) :: rest
theorem gexp_mo {px p1 p2 p3 py : Pos} {Q : Value → Shared → Prop} {D C I : Addr} {oC oI : Obj} {t : Tok} {vs : List Value} {nn : Nat} {ps : Array Value} {cl : List (Str × Addr)}
    (F : Fr h₀ L s.heap m) (N : News h₀ L s.heap (moLed I oI D vs nn C oC ps rest)) (G : AllBare s.gens) (T : Top p loose mean mg mb h₀) (H : CodeHd h₀ 104 100) (hcd : ccd = .ref 104) (ok : tbMOk moPos ps)
    (hh : A.handled = none) (hroom : A.depth < recursionLimit) (hcl : cl.lookup (PySem.Str.ofString "p") = some C) (hclos : closureFor moSc (envX cn cs L a ccd cl) = pure cl)
    (hk : cs.kind = .function) (hlf : (envX cn cs L a ccd cl).kindOf (PySem.Str.ofString "factors") = some .local) (hm : m (PySem.Str.ofString "factors") = some (.ref D))
    (hc : oC.data = .cell (some (.int k t))) (hi : IntsAre vs ns) (hpos : ∀ x ∈ ns, 0 < x) (o1 : I ≠ 100) (o2 : D ≠ 100) (o3 : C ≠ 100) (o4 : OwnOff rest [100])
    (hQ : ∀ (a : Addr) (ps' : Array Value) (s' : Shared), Fr h₀ L s'.heap m → News h₀ L s'.heap (moLed I oI D vs nn C oC ps' rest) → tbMOk moPos ps' → AllBare s'.gens → s'.os = s.os →
      GenM prog w A L a k ns (moLed I oI D vs nn C oC ps' rest) s' → Q (.ref a) s') :
    wpAny (model prog w) A (eval (.GeneratorExp (.BinOp (.Name (PySem.Str.ofString "p") p1) .Mod (.Name (PySem.Str.ofString "f") p2) p3) [⟨.Name (PySem.Str.ofString "f") px, .Name (PySem.Str.ofString "factors") py, [], 0⟩] moSc moPos) (envX cn cs L a ccd cl)) Q E s := by
  have nP := N (100, tabObj ps) (.tail _ (.tail _ (.tail _ (.head _))))
  have nD := N (D, listOf vs.toArray nn) (.tail _ (.head _))
  have nC := N (C, oC) (.tail _ (.tail _ (.head _)))
  have hCs : C < s.heap.objs.size := Heap.lt_size nC.1
  refine gexp_K (clos := cl) F G T H hcd rfl nP.1 nP.2.1 nP.2.2 ok hh rfl hclos (by decide) rfl rfl rfl hroom nD.1 (fun Q' h => wpAny_Name (wpAny_loadName_local hk hlf F.ns hm h) (by decide)) ?_ ?_ (Fv := moF k ns)
  · intro code n₃ href hn₃ hk₃
    exact mo_quiet hcl (hk₃ C oC o3 nC.1) hc (Nat.lt_trans hCs hn₃) (Nat.ne_of_lt hCs) hi hpos
  · intro g ps' K s' ok' F' keep hP' hK G' hos gen
    have hN' : News h₀ L s'.heap (moLed I oI D vs nn C oC ps' rest) := by
      intro q hq
      simp only [moLed, List.mem_cons] at hq
      rcases hq with rfl | rfl | rfl | rfl | hq
      · have n := N (I, oI) (.head _); exact ⟨keep _ _ o1 n.1, n.2⟩
      · exact ⟨keep _ _ o2 nD.1, nD.2⟩
      · exact ⟨keep _ _ o3 nC.1, nC.2⟩
      · exact ⟨hP', nP.2⟩
      · have n := N q (.tail _ (.tail _ (.tail _ (.tail _ hq))))
        exact ⟨keep _ _ (o4 q hq 100 (.head _)) n.1, n.2⟩
    have hb : ∀ {q : Addr × Obj}, s.heap.get? q.1 = some q.2 → q.1 ≤ K := fun {q} e => Nat.le_of_lt_succ (Nat.lt_of_lt_of_le (Heap.lt_size e) (Nat.le_of_eq hK))
    refine hQ g ps' s' F' hN' ok' G' hos ⟨K, Nat.le_of_lt_succ (Nat.lt_of_lt_of_le F.ns.lt (Nat.le_of_eq hK)), ?_, ?_⟩
    · intro q hq
      simp only [moLed, List.mem_cons] at hq
      rcases hq with rfl | rfl | rfl | rfl | hq
      · exact hb (N (I, oI) (.head _)).1
      · exact hb nD.1
      · exact hb nC.1
      · exact hb (q := (100, tabObj ps)) nP.1
      · exact hb (N q (.tail _ (.tail _ (.tail _ (.tail _ hq))))).1
    · have hl : vs.length = ns.length := hi.length
      obtain ⟨fp, wr, g, St, W, hst, h3, h4, h5, h6⟩ := gen
      rw [passing_len, hl] at W
      refine ⟨fp, wr, g, St, ⟨W.sub, W.grefl, W.gtrans, W.frame, fun i s Q E hi' st hQ => W.item i s Q E hi' st fun v s' hv => hQ v s' ?_, W.done, W.self⟩, hst, h3, h4, h5, h6⟩
      obtain ⟨j, hj, hv⟩ := hv
      have := passing_at hj
      subst this
      exact hv
theorem sum_mo {Q : Value → Shared → Prop} (F : Fr h₀ L s.heap m) (N : News h₀ L s.heap news) (G : AllBare s.gens) (X : GenM prog w A L a k ns news s)
    (hQ : ∀ s' t', Fr h₀ L s'.heap m → News h₀ L s'.heap news → AllBare s'.gens → s'.os = s.os → Q (.int (ns.map fun x => k.fmod x).sum t') s') :
    wpAny (model prog w) A (call (.builtin "sum") [.ref a]) Q E s := by
  obtain ⟨K, h1, h2, gen⟩ := X
  refine sum_rowsKB F G gen h1 (fun j => (ns.map fun x => k.fmod x).getD j 0) (fun j v hv => ?_) fun s' t' F' G' hos hk => ?_
  · obtain ⟨x, t, hx, rfl⟩ := hv
    exact .inl ⟨t, by simp [List.getD_eq_getElem?_getD, hx]⟩
  · have e := preSum_getD (ns.map fun x => k.fmod x) ns.length
    rw [List.take_of_length_le (by simp)] at e
    rw [e]
    exact hQ s' t' F' (fun q hq => ⟨hk _ _ (h2 q hq) (N q hq).1, (N q hq).2⟩) G' hos
end

end Mine
namespace Mine
local macro_rules | `(tactic| k_call_by "use" $g:term) => `(tactic| (k_here; k_dflt (refine' Cl.use $g ?k1 ?k2 ?k3 ?k4 ?k5 ?kK ?kp ?kd ?ku ?kR; (case k1 => k_asm); (case k2 => k_asm); (case k3 => k_asm); (case k4 => k_asm); (case k5 => k_asm); (case kK => first | exact rfl | assumption); (case kp => first | trivial | omega | ((try dsimp only); first | assumption | omega | l_fact)); (case kd => k_room); (case ku => k_units)); intro t9 h9 tk9 F9 N9; (try dsimp only); (try k_extra "fact use"); (try k_fold)))
local macro_rules | `(tactic| k_room) => `(tactic| ((simp only [depth_under_make, depth_under_kw, depth_in1, depth_deeper, depth_caller, recursionLimit] at *); omega))
local macro_rules | `(tactic| k_units) => `(tactic| ((have hcL9 := cLine_is); (simp only [units_in1, units_deeper, Around.mark_units, units_caller, cLine] at *); omega))
local macro_rules | `(tactic| walk_at "InvEndN") => `(tactic| first | k_extra "InvEndN" | k_dflt kst_close)
local macro_rules | `(tactic| walk_at "CompEnd") => `(tactic| k_dflt (refine LCg.CompEnd.intro (by assumption) (by assumption) _ (fun _ hp => hp) (by assumption) (by first | exact True.intro | exact Or.inl (Or.inl (by assumption)) | exact Or.inl (by assumption) | exact Or.inr ⟨_, .head _, rfl, _, rfl⟩ | exact Or.inr ⟨_, by k_mem, rfl, _, rfl⟩) ?_))
local macro_rules | `(tactic| k_call_by "enterC" $_g:term) => `(tactic| (refine' code_defC ?k1 ?k2 ?k3 ?k4 ?k5 ?kA ?kF ?kK ?k6 ?k7 ?k8 ?k9 ?kB ?kD ?_ ?c2 ?c3 ?c4; (case kA => exact rfl); (case kF => exact rfl); (case kK => assumption); (case k1 => k_asm); (case k2 => k_asm); (case k3 => k_asm); (case k4 => k_asm); (case k5 => k_asm); (case k6 => k_is); (case k7 => k_is); (case k8 => k_room); (case k9 => exact BindsTo.of_eq rfl); (case kB => exact rfl); (case kD => decide +kernel); (case c2 => exact rfl); (case c3 => exact rfl); (case c4 => exact rfl); k_whole; intro g' L' h' tk' cells' FG' F' N' Y' B' X' T' l1; have hOc9 := ownOff_cells l1; have kMark9 := kstMark; (try k_lt l1); k_cells Y'; (try simp only [List.cons_append, List.nil_append] at N'); (try dsimp only); (try k_lift B'); (try k_fold)))
local macro_rules | `(tactic| k_call_by "om" $_g:term) => `(tactic| ((repeat (rename (_ ≠ _ ∧ _ ≠ _ ∧ _ ≠ _) ∧ _ => o9; clear o9)); (repeat (rename _ ≠ _ ∧ _ ≠ _ ∧ _ ≠ _ => o9; clear o9)); (repeat (rename @Ne Nat _ _ => o9; clear o9)); omega))
local macro_rules | `(tactic| k_call_by "item" $h:term) => `(tactic| (k_here; (with_reducible rename News _ _ _ _ => myN9); k_dflt (refine' item_list_ints (News.isList (by with_reducible exact myN9) ?hm) $h ?h0 ?h1 ?h2 (fun tI9 => ?hQ)); (case hm => k_dflt k_mem); (case h0 => k_call_by "om" 0); (case h1 => k_call_by "om" 0); (case h2 => k_call_by "om" 0); (try k_fold)))
local macro_rules | `(tactic| k_call_by "enterD" $_g:term) => `(tactic| (refine' code_def ?k1 ?k2 ?k3 ?k4 ?k5 ?kA ?kF ?kK ?k6 ?k7 ?k8 ?k9 ?kB ?_ ?c2 ?c3 ?c4 ?c5; (case kA => exact rfl); (case kF => exact rfl); (case kK => assumption); (case k1 => k_asm); (case k2 => k_asm); (case k3 => k_asm); (case k4 => k_asm); (case k5 => k_asm); (case k6 => k_is); (case k7 => k_is); (case k8 => k_room); (case k9 => first | exact binds_K (by k_in) rfl (by k_is) rfl rfl rfl | exact BindsTo.of_eq rfl); (case c5 => decide); (case kB => exact locs rfl); (case c2 => exact rfl); (case c3 => exact rfl); (case c4 => exact rfl); k_whole; intro g' L' h' FG' F' N' B' X' T'; (try dsimp only); (try k_lift B'); (try k_fold)))
local macro_rules | `(tactic| k_call_by "itemN" $h:term) => `(tactic| (k_here; (with_reducible rename News _ _ _ _ => myN9); k_dflt (refine' item_list_ints_neg (News.isList (by with_reducible exact myN9) ?hm) $h ?h0 ?h1 ?h2 (fun tI9 => ?hQ)); (case hm => k_dflt k_mem); (case h0 => k_call_by "om" 0); (case h1 => k_call_by "om" 0); (case h2 => k_call_by "om" 0); (try k_fold)))

local macro_rules | `(tactic| k_call_by "useL" $g:term) => `(tactic| (k_here; k_dflt (refine' ClL.use $g ?k1 ?k2 ?k3 ?k4 ?k5 ?kK ?kp ?kd ?ku ?kR; (case k1 => k_asm); (case k2 => k_asm); (case k3 => k_asm); (case k4 => k_asm); (case k5 => k_asm); (case kK => first | exact rfl | assumption); (case kp => first | trivial | omega | ((try dsimp only); first | assumption | omega | l_fact)); (case kd => k_room); (case ku => k_units)); intro D9 ws9 ns9 nn9 h9 tk9 F9 N9 l9 hI9 hR9; (try simp only [AllLt, LCg.Off1, and_true] at l9); (try dsimp only); (try k_extra "fact useL"); (try k_fold)))

/-- the factors that moebius has kept after i turns -/
def moFac (n : Int) : Nat → List Int
  | 0 => []
  | i + 1 => if n.fmod (2 + i) = 0 ∧ ((moFac n i).map fun x => (2 + (i : Int)).fmod x).sum = 0 then moFac n i ++ [2 + (i : Int)] else moFac n i
theorem moFac_pos (n : Int) : ∀ i, ∀ x ∈ moFac n i, 0 < x
  | 0, _, h => nomatch h
  | i + 1, x, h => by
    rw [moFac] at h
    split at h
    · rcases List.mem_append.mp h with h | h
      · exact moFac_pos n i x h
      · rw [List.mem_singleton.mp h]; omega
    · exact moFac_pos n i x h
/-- what is known of the factors after i turns: no square so far -/
def MoOk (n : Int) (i : Nat) (vs : List Value) : Prop := IntsAre vs (moFac n i) ∧ ∀ j < i, ¬ (n.fmod (2 + j) = 0 ∧ n.fmod ((2 + j) ^ 2) = 0)
/-- the end of a turn -/
def MoEnd (h₀ : Heap) (L : Addr) (m₀ : Str → Option Value) (n : Int) (D C : Addr) (rest : List (Addr × Obj)) (I : Addr) (oI : Obj) (i : Nat) (s₁ s' : Shared) : Prop :=
  ∃ vs nn oC v ps, Fr h₀ L s'.heap m₀ ∧ News h₀ L s'.heap (moLed I oI D vs nn C oC ps rest) ∧ oC.data = .cell v ∧ tbMOk moPos ps ∧ MoOk n i vs ∧ AllBare s'.gens ∧ s'.os = s₁.os
def MoPost (h₀ : Heap) (L : Addr) (m₀ : Str → Option Value) (n : Int) (D C : Addr) (rest : List (Addr × Obj)) (I : Addr) (oI : Obj) (i : Nat) (s₁ : Shared) (Q : Flow → Shared → Prop) (f : Flow) (s' : Shared) : Prop :=
  match f with
  | .ret v => Q (.ret v) s'
  | .brk => Q .next s'
  | _ => MoEnd h₀ L m₀ n D C rest I oI i s₁ s'
section
variable {prog : Program} {w : World} {A : Around} {E : Value → Shared → Prop} {s : Shared} {env : Env} {h₀ : Heap} {body : List Stmt} {Q : Flow → Shared → Prop} {rest : List (Addr × Obj)}
theorem mo_loop {r C D : Addr} {oC₀ : Obj} {n b c : Int} {t₁ t₂ t₃ : Tok} {N : Nat} {m₀ : Str → Option Value} {pp : Pos} {v₀ : Option Value} {ps₀ : Array Value} {nn₀ : Nat} {all : List (Addr × Obj)}
    (hh : A.handled = none) (hr : IsRange s.heap r 2 b c t₁ t₂ t₃) (hc1 : c = 1) (hs : Builtin.Range.small 2 b c = true) (hn : Builtin.Range.rangeSize 2 b c = (N : Int)) (F : Fr h₀ env.locals s.heap m₀)
    (Na : News h₀ env.locals s.heap all) (sub : ∀ q ∈ (D, listOf [].toArray nn₀) :: (C, oC₀) :: (100, tabObj ps₀) :: rest, q ∈ all)
    (hd₀ : oC₀.data = .cell v₀) (ok₀ : tbMOk moPos ps₀) (G₀ : AllBare s.gens) (offC : OwnOff rest [C])
    (hk : env.scope.kind = .function) (hl : env.kindOf (PySem.Str.ofString "p") = some .cell) (hcl : env.cells.lookup (PySem.Str.ofString "p") = some C)
    (hE : PassesOwn (model prog w) A env E)
    (turn : ∀ (i : Nat) (k : Int) t vs nn oC ps (s' : Shared) I oI, k = 2 + (i : Int) → i < N → I ≠ 100 → D ≠ 100 → C ≠ 100 → D ≠ C → I ≠ D → I ≠ C → OwnOff rest [I] → oC.data = .cell (some (.int k t)) → tbMOk moPos ps → MoOk n i vs → AllBare s'.gens → s'.os = s.os →
      Fr h₀ env.locals s'.heap m₀ → News h₀ env.locals s'.heap (moLed I oI D vs nn C oC ps rest) →
      wpAny (model prog w) A (execs body env) (MoPost h₀ env.locals m₀ n D C rest I oI (i + 1) s Q) E s')
    (done : ∀ vs nn oC ps (s' : Shared), MoOk n N vs → tbMOk moPos ps → AllBare s'.gens → s'.os = s.os → Fr h₀ env.locals s'.heap m₀ → News h₀ env.locals s'.heap ((D, listOf vs.toArray nn) :: (C, oC) :: (100, tabObj ps) :: rest) → Q .next s') :
    wpAny (model prog w) A (pyIter (.ref r)) (fun it s₂ => codeAny (model prog w) A (.forLoop (.Name (PySem.Str.ofString "p") pp) it body [] env) (fun r s' => match r with | .ok f => Q f s' | .error e => cameBackBy (model prog w) A env E e s') s₂) E s := by
  subst hc1
  have N₀ : News h₀ env.locals s.heap ((D, listOf [].toArray nn₀) :: (C, oC₀) :: (100, tabObj ps₀) :: rest) := fun q hq => Na q (sub q hq)
  refine wpAny_pyIter_range hr hs ?_
  have W : Walks prog w A s.heap.objs.size [s.heap.objs.size] [s.heap.objs.size] N (fun i v => i < N ∧ ∃ t, v = .int (2 + i * 1) t)
      (fun i h => IsRangeIter h s.heap.objs.size (2 + (i : Nat) * 1) ((N : Int) - (i : Nat)) 1) := (Walks.range hh _ 2 1 N).bound
  have hI0 := next_is_new F
  have hIL : s.heap.objs.size ≠ env.locals := Nat.ne_of_gt F.ns.lt
  have hID : s.heap.objs.size ≠ D := Nat.ne_of_gt (Heap.lt_size (N₀ _ (.head _)).1)
  have hIC : s.heap.objs.size ≠ C := Nat.ne_of_gt (Heap.lt_size (N₀ _ (.tail _ (.head _))).1)
  have hI1 : s.heap.objs.size ≠ 100 := Nat.ne_of_gt (Heap.lt_size (N₀ _ (.tail _ (.tail _ (.head _)))).1)
  have hIr : ∀ q ∈ rest, q.1 ≠ s.heap.objs.size := fun q hq => Nat.ne_of_lt (Heap.lt_size (N₀ _ (.tail _ (.tail _ (.tail _ hq)))).1)
  have hD1 : D ≠ 100 := fun e => by
    have e1 := (N₀ _ (.head _)).1
    have e2 := (N₀ _ (.tail _ (.tail _ (.head _)))).1
    simp only at e1 e2
    rw [e, e2] at e1
    have := congrArg Obj.cls (Option.some.inj e1)
    cases this
  have hC1 : C ≠ 100 := fun e => by
    have e1 := (N₀ _ (.tail _ (.head _))).1
    have e2 := (N₀ _ (.tail _ (.tail _ (.head _)))).1
    simp only at e1 e2
    rw [e, e2] at e1
    have := congrArg Obj.data (Option.some.inj e1)
    rw [hd₀] at this
    cases this
  have hDC : D ≠ C := fun e => by
    have e1 := (N₀ _ (.head _)).1
    have e2 := (N₀ _ (.tail _ (.head _))).1
    simp only at e1 e2
    rw [e, e2] at e1
    have := congrArg Obj.data (Option.some.inj e1)
    rw [hd₀] at this
    cases this
  refine codeAny_forLoop_any
    (fun k s' => ∃ i vs nn oC v ps, Fr h₀ env.locals s'.heap m₀ ∧ News h₀ env.locals s'.heap ((D, listOf vs.toArray nn) :: (C, oC) :: (100, tabObj ps) :: rest) ∧ oC.data = .cell v ∧ tbMOk moPos ps ∧ MoOk n i vs ∧ AllBare s'.gens ∧ s'.os = s.os ∧
      IsRangeIter s'.heap s.heap.objs.size (2 + (i : Nat) * 1) ((N : Int) - (i : Nat)) 1 ∧ i ≤ N ∧ k = N + 1 - i) ?_ (N + 1)
    ⟨0, [], nn₀, oC₀, v₀, ps₀, F.push _, (fun p hp => ⟨Heap.get?_push_of_some _ (N₀ p hp).1, (N₀ p hp).2⟩), hd₀, ok₀, ⟨.nil, fun _ h => nomatch h⟩, G₀, rfl, (by show IsRangeIter _ _ _ _ _; rw [hn]; simpa using Heap.get?_push_size _ rfl), Nat.zero_le _, rfl⟩
  rintro k s' ⟨i, vs, nn, oC, v, ps, F', N', hd, ok, hi, G, hos, hst, hle, rfl⟩
  have next : ∀ h₁ : Heap, (∀ b o, b ∉ [s.heap.objs.size] → s'.heap.get? b = some o → h₁.get? b = some o) → Fr h₀ env.locals h₁ m₀ ∧ News h₀ env.locals h₁ ((D, listOf vs.toArray nn) :: (C, oC) :: (100, tabObj ps) :: rest) := fun h₁ hk₁ => by
    have k₁ : ∀ b o, b ≠ s.heap.objs.size → s'.heap.get? b = some o → h₁.get? b = some o := fun b o hb e => hk₁ b o (fun q => hb (List.mem_singleton.mp q)) e
    refine ⟨⟨F'.ns.at' fun o e => k₁ _ o hIL.symm e, fun b o e => k₁ b o (fun q => by rw [q, hI0] at e; cases e) (F'.keep b o e), F'.above⟩, fun p hp => ⟨k₁ _ _ ?_ (N' p hp).1, (N' p hp).2⟩⟩
    simp only [List.mem_cons] at hp
    rcases hp with rfl | rfl | rfl | hp
    · exact hID.symm
    · exact hIC.symm
    · exact hI1.symm
    · exact hIr p hp
  by_cases hlt : i < N
  · refine W.item i _ _ _ hlt hst fun val h₁ tk₁ hval hst₁ hk₁ => ?_
    obtain ⟨_, t, rfl⟩ := hval
    obtain ⟨F₁, N₁⟩ := next h₁ hk₁
    refine wpAny_pure (wpAny_assign_Name (wpAny_storeName_cell hk hl hcl ⟨oC, (N₁ _ (.tail _ (.head _))).1, hd⟩ fun h₂ hv₂ hs₂ => ?_))
    obtain ⟨oC', hoC', hdC'⟩ := hv₂
    obtain ⟨oI, hoI⟩ : ∃ o, h₁.get? s.heap.objs.size = some o := ⟨_, hst₁⟩
    have nC := N₁ (C, oC) (.tail _ (.head _))
    have k₂ : ∀ b o, b ≠ C → h₁.get? b = some o → h₂.get? b = some o := fun b o hb e => (hs₂.2 b hb).trans e
    have F₂ : Fr h₀ env.locals h₂ m₀ := ⟨F₁.ns.at' fun o e => k₂ _ o (Ne.symm nC.2.1) e, fun b o e => k₂ b o (fun q => by rw [q, nC.2.2] at e; cases e) (F₁.keep b o e), F₁.above⟩
    have N₂ : News h₀ env.locals h₂ (moLed s.heap.objs.size oI D vs nn C oC' ps rest) := fun p hp => by
      simp only [moLed, List.mem_cons] at hp
      rcases hp with rfl | rfl | rfl | rfl | hp
      · exact ⟨k₂ _ _ hIC hoI, hIL, hI0⟩
      · have q := N₁ (D, listOf vs.toArray nn) (.head _); exact ⟨k₂ _ _ hDC q.1, q.2⟩
      · exact ⟨hoC', nC.2⟩
      · have q := N₁ (100, tabObj ps) (.tail _ (.tail _ (.head _))); exact ⟨k₂ _ _ hC1.symm q.1, q.2⟩
      · have q := N₁ p (.tail _ (.tail _ (.tail _ hp))); exact ⟨k₂ _ _ (offC p hp C (.head _)) q.1, q.2⟩
    refine wpAny_passesOwn hE (wpAny_mono (turn i _ t vs nn oC' ps { s' with heap := h₂, toks := tk₁ } s.heap.objs.size oI (by omega) hlt hI1 hD1 hC1 hDC hID hIC (fun q hq b hb => by rw [List.mem_singleton.mp hb]; exact hIr q hq) hdC' ok hi G hos F₂ N₂) (fun f s₃ h₃ => ?_) fun _ _ e => e)
    have fin : MoEnd h₀ env.locals m₀ n D C rest s.heap.objs.size oI (i + 1) s s₃ → ∃ m, m < N + 1 - i ∧ ∃ i vs nn oC v ps, Fr h₀ env.locals s₃.heap m₀ ∧ News h₀ env.locals s₃.heap ((D, listOf vs.toArray nn) :: (C, oC) :: (100, tabObj ps) :: rest) ∧ oC.data = .cell v ∧ tbMOk moPos ps ∧ MoOk n i vs ∧ AllBare s₃.gens ∧ s₃.os = s.os ∧
      IsRangeIter s₃.heap s.heap.objs.size (2 + (i : Nat) * 1) ((N : Int) - (i : Nat)) 1 ∧ i ≤ N ∧ m = N + 1 - i := by
      rintro ⟨vs', nn', oC₃, v', ps', F₃, N₃, hd₃, ok₃, hi₃, G₃, hos₃⟩
      refine ⟨N + 1 - (i + 1), by omega, i + 1, vs', nn', oC₃, v', ps', F₃, fun p hp => N₃ p (.tail _ hp), hd₃, ok₃, hi₃, G₃, hos₃, ?_, hlt, rfl⟩
      have e1 := (N₃ (s.heap.objs.size, oI) (.head _)).1
      have e2 : h₁.get? s.heap.objs.size = s₃.heap.get? s.heap.objs.size := hoI.trans e1.symm
      show s₃.heap.get? s.heap.objs.size = _
      rw [← e2]
      exact hst₁
    cases f with
    | ret v => exact h₃
    | brk => exact h₃
    | next => exact fin h₃
    | cont => exact fin h₃
  · have hin : i = N := by omega
    subst hin
    refine W.done _ _ _ hst fun h₁ tk₁ hk₁ => wpAny_execs_nil ?_
    obtain ⟨F₁, N₁⟩ := next h₁ hk₁
    exact done vs nn oC ps _ hi ok G hos F₁ N₁
end

end Mine
namespace Mine
local macro_rules | `(tactic| k_call_by "use" $g:term) => `(tactic| (k_here; k_dflt (refine' Cl.use $g ?k1 ?k2 ?k3 ?k4 ?k5 ?kK ?kp ?kd ?ku ?kR; (case k1 => k_asm); (case k2 => k_asm); (case k3 => k_asm); (case k4 => k_asm); (case k5 => k_asm); (case kK => first | exact rfl | assumption); (case kp => first | trivial | omega | ((try dsimp only); first | assumption | omega | l_fact)); (case kd => k_room); (case ku => k_units)); intro t9 h9 tk9 F9 N9; (try dsimp only); (try k_extra "fact use"); (try k_fold)))
local macro_rules | `(tactic| k_room) => `(tactic| ((simp only [depth_under_make, depth_under_kw, depth_in1, depth_deeper, depth_caller, recursionLimit] at *); omega))
local macro_rules | `(tactic| k_units) => `(tactic| ((have hcL9 := cLine_is); (simp only [units_in1, units_deeper, Around.mark_units, units_caller, cLine] at *); omega))
local macro_rules | `(tactic| walk_at "InvEndN") => `(tactic| first | k_extra "InvEndN" | k_dflt kst_close)
local macro_rules | `(tactic| walk_at "CompEnd") => `(tactic| k_dflt (refine LCg.CompEnd.intro (by assumption) (by assumption) _ (fun _ hp => hp) (by assumption) (by first | exact True.intro | exact Or.inl (Or.inl (by assumption)) | exact Or.inl (by assumption) | exact Or.inr ⟨_, .head _, rfl, _, rfl⟩ | exact Or.inr ⟨_, by k_mem, rfl, _, rfl⟩) ?_))
local macro_rules | `(tactic| k_call_by "enterC" $_g:term) => `(tactic| (refine' code_defC ?k1 ?k2 ?k3 ?k4 ?k5 ?kA ?kF ?kK ?k6 ?k7 ?k8 ?k9 ?kB ?kD ?_ ?c2 ?c3 ?c4; (case kA => exact rfl); (case kF => exact rfl); (case kK => assumption); (case k1 => k_asm); (case k2 => k_asm); (case k3 => k_asm); (case k4 => k_asm); (case k5 => k_asm); (case k6 => k_is); (case k7 => k_is); (case k8 => k_room); (case k9 => exact BindsTo.of_eq rfl); (case kB => exact rfl); (case kD => decide +kernel); (case c2 => exact rfl); (case c3 => exact rfl); (case c4 => exact rfl); k_whole; intro g' L' h' tk' cells' FG' F' N' Y' B' X' T' l1; have hOc9 := ownOff_cells l1; have kMark9 := kstMark; (try k_lt l1); k_cells Y'; (try simp only [List.cons_append, List.nil_append] at N'); (try dsimp only); (try k_lift B'); (try k_fold)))
local macro_rules | `(tactic| k_call_by "om" $_g:term) => `(tactic| ((repeat (rename (_ ≠ _ ∧ _ ≠ _ ∧ _ ≠ _) ∧ _ => o9; clear o9)); (repeat (rename _ ≠ _ ∧ _ ≠ _ ∧ _ ≠ _ => o9; clear o9)); (repeat (rename @Ne Nat _ _ => o9; clear o9)); omega))
local macro_rules | `(tactic| k_call_by "item" $h:term) => `(tactic| (k_here; (with_reducible rename News _ _ _ _ => myN9); k_dflt (refine' item_list_ints (News.isList (by with_reducible exact myN9) ?hm) $h ?h0 ?h1 ?h2 (fun tI9 => ?hQ)); (case hm => k_dflt k_mem); (case h0 => k_call_by "om" 0); (case h1 => k_call_by "om" 0); (case h2 => k_call_by "om" 0); (try k_fold)))
local macro_rules | `(tactic| k_call_by "enterD" $_g:term) => `(tactic| (refine' code_def ?k1 ?k2 ?k3 ?k4 ?k5 ?kA ?kF ?kK ?k6 ?k7 ?k8 ?k9 ?kB ?_ ?c2 ?c3 ?c4 ?c5; (case kA => exact rfl); (case kF => exact rfl); (case kK => assumption); (case k1 => k_asm); (case k2 => k_asm); (case k3 => k_asm); (case k4 => k_asm); (case k5 => k_asm); (case k6 => k_is); (case k7 => k_is); (case k8 => k_room); (case k9 => first | exact binds_K (by k_in) rfl (by k_is) rfl rfl rfl | exact BindsTo.of_eq rfl); (case c5 => decide); (case kB => exact locs rfl); (case c2 => exact rfl); (case c3 => exact rfl); (case c4 => exact rfl); k_whole; intro g' L' h' FG' F' N' B' X' T'; (try dsimp only); (try k_lift B'); (try k_fold)))
local macro_rules | `(tactic| k_call_by "itemN" $h:term) => `(tactic| (k_here; (with_reducible rename News _ _ _ _ => myN9); k_dflt (refine' item_list_ints_neg (News.isList (by with_reducible exact myN9) ?hm) $h ?h0 ?h1 ?h2 (fun tI9 => ?hQ)); (case hm => k_dflt k_mem); (case h0 => k_call_by "om" 0); (case h1 => k_call_by "om" 0); (case h2 => k_call_by "om" 0); (try k_fold)))

local macro_rules | `(tactic| k_call_by "useL" $g:term) => `(tactic| (k_here; k_dflt (refine' ClL.use $g ?k1 ?k2 ?k3 ?k4 ?k5 ?kK ?kp ?kd ?ku ?kR; (case k1 => k_asm); (case k2 => k_asm); (case k3 => k_asm); (case k4 => k_asm); (case k5 => k_asm); (case kK => first | exact rfl | assumption); (case kp => first | trivial | omega | ((try dsimp only); first | assumption | omega | l_fact)); (case kd => k_room); (case ku => k_units)); intro D9 ws9 ns9 nn9 h9 tk9 F9 N9 l9 hI9 hR9; (try simp only [AllLt, LCg.Off1, and_true] at l9); (try dsimp only); (try k_extra "fact useL"); (try k_fold)))

def mob (n : Int) : Int := if n < 2 then n else if (List.range (n - 1).toNat).any (fun j => decide (n.fmod (2 + j) = 0 ∧ n.fmod ((2 + j) ^ 2) = 0)) then 0 else (-1) ^ (moFac n (n - 1).toNat).length
theorem mob_zero {n : Int} {i : Nat} {k : Int} (h2 : 2 ≤ n) (hk : k = 2 + (i : Int)) (hi : i < (n - 1).toNat) (h : n.fmod k = 0) (h' : n.fmod (k ^ 2) = 0) : (0 : Int) = mob n := by
  unfold mob
  rw [if_neg (by omega), if_pos]
  subst hk
  exact List.any_eq_true.mpr ⟨i, List.mem_range.mpr hi, decide_eq_true ⟨h, h'⟩⟩
theorem mob_full {n : Int} {N : Nat} {vs : List Value} (h2 : 2 ≤ n) (hN : N = (n - 1).toNat) (h : MoOk n N vs) : (-1) ^ vs.length = mob n := by
  unfold mob
  subst hN
  rw [if_neg (by omega), if_neg, ← h.1.length]
  intro q
  obtain ⟨j, hj, q⟩ := List.any_eq_true.mp q
  exact h.2 j (List.mem_range.mp hj) (of_decide_eq_true q)
theorem mob_full' {n : Int} {N : Nat} {vs : List Value} (h2 : 2 ≤ n) (hN : N = (n - 1).toNat) (h : MoOk n N vs) : (-1) ^ ((vs.toArray.size : Nat) : Int).toNat = mob n := by
  rw [List.size_toArray]; exact mob_full h2 hN h
theorem mok_same {n k : Int} {i : Nat} {vs : List Value} (h : MoOk n i vs) (hk : k = 2 + (i : Int)) (h1 : ¬ (n.fmod k = 0 ∧ n.fmod (k ^ 2) = 0)) (h2 : ¬ (n.fmod k = 0 ∧ ((moFac n i).map fun x => k.fmod x).sum = 0)) : MoOk n (i + 1) vs := by
  subst hk
  refine ⟨?_, fun j hj => ?_⟩
  · rw [moFac, if_neg h2]; exact h.1
  · rcases Nat.lt_succ_iff_lt_or_eq.mp hj with hj | rfl
    · exact h.2 j hj
    · exact h1
theorem ints_snoc {vs : List Value} {ns : List Int} (h : IntsAre vs ns) (k : Int) (t : Tok) : IntsAre (vs ++ [.int k t]) (ns ++ [k]) := by
  induction h with
  | nil => exact .cons k t .nil
  | cons x u _ ih => exact .cons x u ih
theorem mok_more {n k : Int} {i : Nat} {vs : List Value} {t : Tok} (h : MoOk n i vs) (hk : k = 2 + (i : Int)) (h1 : ¬ (n.fmod k = 0 ∧ n.fmod (k ^ 2) = 0)) (h2 : n.fmod k = 0 ∧ ((moFac n i).map fun x => k.fmod x).sum = 0) : MoOk n (i + 1) (vs ++ [.int k t]) := by
  subst hk
  refine ⟨?_, fun j hj => ?_⟩
  · rw [moFac, if_pos h2]; exact ints_snoc h.1 _ _
  · rcases Nat.lt_succ_iff_lt_or_eq.mp hj with hj | rfl
    · exact h.2 j hj
    · exact h1
theorem moFac_len (n : Int) : ∀ i, (moFac n i).length ≤ i
  | 0 => Nat.le_refl _
  | i + 1 => by
    have := moFac_len n i
    rw [moFac]
    split
    · rw [List.length_append, List.length_singleton]; omega
    · omega
theorem mo_fit {n : Int} {i : Nat} {vs : List Value} (h : MoOk n i vs) (hi : i ≤ 900) : (vs.toArray.size : Int) < 2 ^ 63 := by
  have h1 := h.1.length
  have h2 := moFac_len n i
  rw [List.size_toArray]
  omega
theorem mo_len {n : Int} {i : Nat} {vs : List Value} (h : MoOk n i vs) (hi : i ≤ 900) : vs.length ≤ 900 := by
  have h1 := h.1.length
  have h2 := moFac_len n i
  omega
theorem mo_sq {k : Int} {i : Nat} (hk : k = 2 + (i : Int)) : k ^ Int.toNat 2 ≠ 0 := by
  have : 0 < k ^ Int.toNat 2 := Int.pow_pos (by omega)
  omega
theorem offR {x : Addr × Obj} {rest : List (Addr × Obj)} {C : Addr} {l : List Addr} (h : OwnOff (x :: rest) (C :: l)) : OwnOff rest [C] := fun q hq b hb => by
  rw [List.mem_singleton.mp hb]; exact h q (.tail _ hq) C (.head _)
theorem mp_ret {h₀ : Heap} {L : Addr} {m₀ : Str → Option Value} {n : Int} {D C : Addr} {rest : List (Addr × Obj)} {I : Addr} {oI : Obj} {i : Nat} {s₁ s' : Shared} {Q : Flow → Shared → Prop} {v : Value} (h : Q (.ret v) s') : MoPost h₀ L m₀ n D C rest I oI i s₁ Q (.ret v) s' := h
theorem mp_next {h₀ : Heap} {L : Addr} {m₀ : Str → Option Value} {n : Int} {D C : Addr} {rest all : List (Addr × Obj)} {I : Addr} {oI oC : Obj} {i : Nat} {s₁ s' : Shared} {Q : Flow → Shared → Prop} {vs : List Value} {nn : Nat} {v : Option Value} {ps : Array Value}
    (F : Fr h₀ L s'.heap m₀) (N : News h₀ L s'.heap all) (sub : ∀ q ∈ moLed I oI D vs nn C oC ps rest, q ∈ all) (hd : oC.data = .cell v) (ok : tbMOk moPos ps) (h : MoOk n i vs) (G : AllBare s'.gens) (hos : s'.os = s₁.os) : MoPost h₀ L m₀ n D C rest I oI i s₁ Q .next s' :=
  ⟨vs, nn, oC, v, ps, F, fun q hq => N q (sub q hq), hd, ok, h, G, hos⟩
/-- the contract of moebius: the code table 100 and the generators may change -/
def ClM (D : Nat) (f : Addr) (vs : List Value) (pre : Prop) (R : Tok → Value) : Prop :=
  ∀ (w : World) (p : Program) (loose : List Str) (mean : ExcName → Option Value) (mg mb : Str → Option Value) (rest : List (Addr × Obj)) (ps : Array Value) (dp un : Nat) (gd : Option (List Code)) (cn : Str) (cs : Scope) (a : Addr) (ccd : Value) (cl : List (Str × Addr)) (outer : List Env) (A₀ : Around) (base h₀ : Heap) (L : Addr) (m : Str → Option Value) (s : Shared) (Q E : Value → Shared → Prop),
    Below A₀ base outer h₀ → Fr h₀ L s.heap m → (hd.heap_39 w.params).In h₀ → News h₀ L s.heap ((100, tabObj ps) :: rest) → tbMOk moPos ps → OwnOff rest [100] → AllBare s.gens → CodeHd h₀ 104 100 → Top p loose mean mg mb h₀ → cs.kind = .function → pre → dp + D < recursionLimit → un + 8 * D < cLine →
      (∀ (t : Tok) (ps' : Array Value) (s' : Shared), Fr h₀ L s'.heap m → News h₀ L s'.heap ((100, tabObj ps') :: rest) → tbMOk moPos ps' → AllBare s'.gens → s'.os = s.os → Q (R t) s') →
      wpAny (model PySem.Challenge.rw_ah5004_01.row.prog w) (ktrTop dp un gd cn cs L a ccd cl outer) (call (.ref f) vs) Q E s
theorem mo_ret {h₀ : Heap} {L : Addr} {m : Str → Option Value} {s s' : Shared} {Q : Value → Shared → Prop} {x y : Int} {t : Tok} {rest all : List (Addr × Obj)} {ps' : Array Value}
    (hret : ∀ (t : Tok) (ps' : Array Value) (s' : Shared), Fr h₀ L s'.heap m → News h₀ L s'.heap ((100, tabObj ps') :: rest) → tbMOk moPos ps' → AllBare s'.gens → s'.os = s.os → Q (.int x t) s')
    (e : y = x) (F : Fr h₀ L s'.heap m) (N : News h₀ L s'.heap all) (sub : ∀ q ∈ (100, tabObj ps') :: rest, q ∈ all) (ok : tbMOk moPos ps') (G : AllBare s'.gens) (hos : s'.os = s.os) : Q (.int y t) s' := by
  subst e
  exact hret t ps' s' F (fun q hq => N q (sub q hq)) ok G hos
theorem c_mob (n : Int) (t : Tok) : ClM 20 105 [.int n t] (1 ≤ n ∧ n ≤ 900) (fun t => .int (mob n) t) := by
  unfold ClM; k_fill; intros; rename_i hret
  rename tbMOk _ _ => hok0; rename AllBare _ => hG0; (rename OwnOff _ [100] => h100)
  have hn0 : (if n < 0 then -n else n) = n := if_neg (by omega)
  k_with_none
  (k_with "exec For Name Call cons nil" => (k_here; (k_dflt (refine' wpAny_For ?f1 ?f2; (case f2 => exact fun _ => rfl))); k_whole))
  (k_with "binaryOp Mod int int" => (k_here; first | exact mod_int (by omega) (by assumption) | refine mod_int (by omega) ?_ | refine mod_int (mo_sq kEq) ?_))
  (k_with "pyIter ref" => (
    k_here
    (rename Fr _ _ _ _ => lF'); (rename News _ _ _ _ => lN'); (rename IsRange _ _ _ _ _ _ _ _ => rgX)
    rw [hn0] at rgX
    (simp only [hn0] at lF')
    (k_dflt refine' mo_loop (n := n) rfl rgX rfl (small_one (by omega) (by omega) (by omega) (by omega)) (rangeSize_nat _ _) lF' lN' ?sub (by assumption) hok0 hG0 ?offC rfl rfl rfl ?hE ?turnM ?doneM)
    (case sub => exact fun _ h => h)
    (case offC => exact offR hOc9)
    (case hE => passes_own)
    (case' turnM => (clear lF' lN'; intro mi mk mt mvs mnn moC mps ms mI moI kEq kLt n1 n2 n3 n4 n5 n6 o1 mC mOk mFac mG mOs kFr kNews; have n4' := n4.symm; have n5' := n5.symm; have n6' := n6.symm; have mLen := mo_len mFac (by omega); have kMark := kstMark; (try dsimp only at mOs); (try simp only [moLed] at kNews); (try k_fold)))
    (case' doneM => (clear lF' lN'; intro mvs mnn moC mps ms mFac mOk mG mOs kFr kNews; have mLen := mo_len mFac (by omega); have kMark := kstMark; (try dsimp only at mOs); (try k_fold)))))
  (k_with "eval GeneratorExp BinOp cons" => (
    k_here
    (rename Fr _ _ _ _ => eF); (rename News _ _ _ _ => eN)
    (k_dflt refine' gexp_mo (k := mk) (ns := moFac n mi) eF eN mG ?T ?H rfl mOk rfl ?room rfl rfl ?hk rfl ?hm mC mFac.1 (moFac_pos n mi) n1 n2 n3 h100 ?hQ)
    (case T => k_asm)
    (case H => exact CodeHd.keeps (by assumption) (Fr.keep (by assumption)))
    (case room => k_room)
    (case hk => exact rfl)
    (case hm => k_dflt exact rfl)
    (intro ga gps gs gF gN gOk gG gOs gGen; (try dsimp only at gOs); (try simp only [moLed] at gN); (try k_fold))))
  (k_with "call builtin:sum cons nil" => (
    k_here
    (rename Fr _ _ _ _ => eF); (rename News _ _ _ _ => eN)
    (k_dflt refine' sum_mo eF eN gG gGen ?hQs)
    (intro ss st sF sN sG sOs; (try dsimp only at sOs); (try k_fold))))
  (k_with "call builtin:len cons nil" => (
    k_here
    (rename News _ _ _ _ => eN)
    (k_dflt refine' Calls.call_len_list (News.isList eN ?hm) (mo_fit mFac (by omega)) ?_)
    (case hm => k_dflt k_mem)
    (try k_fold)))
  (k_with "binaryOp Pow int int" => (k_here; refine pow_int_small (a := -1) (by rw [List.size_toArray]; omega) (by rw [List.size_toArray]; omega) (by decide) ?_))
  (k_with "MoPost ret" => ((with_reducible refine mp_ret ?_); (try dsimp only)))
  (k_with "MoPost next" => (
    k_here
    (rename Fr _ _ _ _ => eF); (rename News _ _ _ _ => eN)
    (try simp only [List.push_toArray] at eN)
    (k_dflt refine' mp_next (v := some (.int mk mt)) eF eN ?sub9 mC ?ok9 ?h9 ?G9 ?os9)
    (case h9 => first
      | ((with_reducible rename n.fmod mk ≠ 0 => q1); k_dflt exact mok_same mFac kEq (fun q => absurd q.1 q1) (fun q => absurd q.1 q1))
      | ((with_reducible rename List.sum _ ≠ 0 => q1); (with_reducible rename n.fmod (mk ^ _) ≠ 0 => q2); k_dflt exact mok_same mFac kEq (fun q => absurd q.2 q2) (fun q => absurd q.2 q1))
      | ((with_reducible rename List.sum _ = 0 => q3); (with_reducible rename n.fmod (mk ^ _) ≠ 0 => q2); (with_reducible rename n.fmod mk = 0 => q1); k_dflt exact mok_more (t := mt) mFac kEq (fun q => absurd q.2 q2) ⟨q1, q3⟩))
    (case ok9 => first | exact gOk | exact mOk)
    (case G9 => first | exact sG | exact mG)
    (case os9 => first | exact sOs.trans (gOs.trans mOs) | exact mOs)
    (case sub9 => first | k_dflt kcf_all)))
  w_top off
  w_strict (refine wpAny_call ?_; (k_call_by "enterC" n); (rename OwnOff ((100, _) :: _) _ => hOc9); (repeat' (first | (k_unfold; (try dsimp only)) | (k_end; wrow_close) | ((with_reducible refine wp_st (by dsimp only; exact StEq.same _) ?_); walk1) | walk1 | (dsimp only; walk1) | (leave1; walk_say "STEP leave1"; try dsimp only) | fail "no step")); all_goals (first
    | ((rename Fr _ _ _ _ => eF); (rename News _ _ _ _ => eN); (k_dflt refine' mo_ret hret ?e eF eN ?sub ?ok ?G ?os);
       (case e => first
         | (unfold mob; rw [hn0, if_pos (by omega)])
         | exact mob_zero (by omega) kEq (by omega) (by assumption) (by k_dflt assumption)
         | exact mob_full' (by omega) (by omega) mFac);
       (case ok => first | exact gOk | exact mOk | exact hok0);
       (case G => first | exact sG | exact mG | exact hG0);
       (case os => first | exact sOs.trans (gOs.trans mOs) | exact mOs | exact rfl);
       (case sub => k_dflt kcf_all))))

end Mine
namespace Mine
local macro_rules | `(tactic| k_call_by "use" $g:term) => `(tactic| (k_here; k_dflt (refine' Cl.use $g ?k1 ?k2 ?k3 ?k4 ?k5 ?kK ?kp ?kd ?ku ?kR; (case k1 => k_asm); (case k2 => k_asm); (case k3 => k_asm); (case k4 => k_asm); (case k5 => k_asm); (case kK => first | exact rfl | assumption); (case kp => first | trivial | omega | ((try dsimp only); first | assumption | omega | l_fact)); (case kd => k_room); (case ku => k_units)); intro t9 h9 tk9 F9 N9; (try dsimp only); (try k_extra "fact use"); (try k_fold)))
local macro_rules | `(tactic| k_room) => `(tactic| ((simp only [depth_under_make, depth_under_kw, depth_in1, depth_deeper, depth_caller, recursionLimit] at *); omega))
local macro_rules | `(tactic| k_units) => `(tactic| ((have hcL9 := cLine_is); (simp only [units_in1, units_deeper, Around.mark_units, units_caller, cLine] at *); omega))
local macro_rules | `(tactic| walk_at "InvEndN") => `(tactic| first | k_extra "InvEndN" | k_dflt kst_close)
local macro_rules | `(tactic| walk_at "CompEnd") => `(tactic| k_dflt (refine LCg.CompEnd.intro (by assumption) (by assumption) _ (fun _ hp => hp) (by assumption) (by first | exact True.intro | exact Or.inl (Or.inl (by assumption)) | exact Or.inl (by assumption) | exact Or.inr ⟨_, .head _, rfl, _, rfl⟩ | exact Or.inr ⟨_, by k_mem, rfl, _, rfl⟩) ?_))
local macro_rules | `(tactic| k_call_by "enterC" $_g:term) => `(tactic| (refine' code_defC ?k1 ?k2 ?k3 ?k4 ?k5 ?kA ?kF ?kK ?k6 ?k7 ?k8 ?k9 ?kB ?kD ?_ ?c2 ?c3 ?c4; (case kA => exact rfl); (case kF => exact rfl); (case kK => assumption); (case k1 => k_asm); (case k2 => k_asm); (case k3 => k_asm); (case k4 => k_asm); (case k5 => k_asm); (case k6 => k_is); (case k7 => k_is); (case k8 => k_room); (case k9 => exact BindsTo.of_eq rfl); (case kB => exact rfl); (case kD => decide +kernel); (case c2 => exact rfl); (case c3 => exact rfl); (case c4 => exact rfl); k_whole; intro g' L' h' tk' cells' FG' F' N' Y' B' X' T' l1; have hOc9 := ownOff_cells l1; have kMark9 := kstMark; (try k_lt l1); k_cells Y'; (try simp only [List.cons_append, List.nil_append] at N'); (try dsimp only); (try k_lift B'); (try k_fold)))
local macro_rules | `(tactic| k_call_by "om" $_g:term) => `(tactic| ((repeat (rename (_ ≠ _ ∧ _ ≠ _ ∧ _ ≠ _) ∧ _ => o9; clear o9)); (repeat (rename _ ≠ _ ∧ _ ≠ _ ∧ _ ≠ _ => o9; clear o9)); (repeat (rename @Ne Nat _ _ => o9; clear o9)); omega))
local macro_rules | `(tactic| k_call_by "item" $h:term) => `(tactic| (k_here; (with_reducible rename News _ _ _ _ => myN9); k_dflt (refine' item_list_ints (News.isList (by with_reducible exact myN9) ?hm) $h ?h0 ?h1 ?h2 (fun tI9 => ?hQ)); (case hm => k_dflt k_mem); (case h0 => k_call_by "om" 0); (case h1 => k_call_by "om" 0); (case h2 => k_call_by "om" 0); (try k_fold)))
local macro_rules | `(tactic| k_call_by "enterD" $_g:term) => `(tactic| (refine' code_def ?k1 ?k2 ?k3 ?k4 ?k5 ?kA ?kF ?kK ?k6 ?k7 ?k8 ?k9 ?kB ?_ ?c2 ?c3 ?c4 ?c5; (case kA => exact rfl); (case kF => exact rfl); (case kK => assumption); (case k1 => k_asm); (case k2 => k_asm); (case k3 => k_asm); (case k4 => k_asm); (case k5 => k_asm); (case k6 => k_is); (case k7 => k_is); (case k8 => k_room); (case k9 => first | exact binds_K (by k_in) rfl (by k_is) rfl rfl rfl | exact BindsTo.of_eq rfl); (case c5 => decide); (case kB => exact locs rfl); (case c2 => exact rfl); (case c3 => exact rfl); (case c4 => exact rfl); k_whole; intro g' L' h' FG' F' N' B' X' T'; (try dsimp only); (try k_lift B'); (try k_fold)))
local macro_rules | `(tactic| k_call_by "itemN" $h:term) => `(tactic| (k_here; (with_reducible rename News _ _ _ _ => myN9); k_dflt (refine' item_list_ints_neg (News.isList (by with_reducible exact myN9) ?hm) $h ?h0 ?h1 ?h2 (fun tI9 => ?hQ)); (case hm => k_dflt k_mem); (case h0 => k_call_by "om" 0); (case h1 => k_call_by "om" 0); (case h2 => k_call_by "om" 0); (try k_fold)))

local macro_rules | `(tactic| k_call_by "useL" $g:term) => `(tactic| (k_here; k_dflt (refine' ClL.use $g ?k1 ?k2 ?k3 ?k4 ?k5 ?kK ?kp ?kd ?ku ?kR; (case k1 => k_asm); (case k2 => k_asm); (case k3 => k_asm); (case k4 => k_asm); (case k5 => k_asm); (case kK => first | exact rfl | assumption); (case kp => first | trivial | omega | ((try dsimp only); first | assumption | omega | l_fact)); (case kd => k_room); (case ku => k_units)); intro D9 ws9 ns9 nn9 h9 tk9 F9 N9 l9 hI9 hR9; (try simp only [AllLt, LCg.Off1, and_true] at l9); (try dsimp only); (try k_extra "fact useL"); (try k_fold)))

/-- the end of an element of a comprehension whose state may change -/
def GEnd {σ : Type} (h₀ : Heap) (L : Addr) (m : Str → Option Value) (Led : σ → List (Addr × Obj)) (J : List Value → σ → Prop) (I : Addr) (oI : Obj) (C : Addr) (oC : Obj) (D : Addr) (ys ys' : List Value) (s₁ s₂ : Shared) : Prop :=
  ∃ z, Fr h₀ L s₂.heap m ∧ News h₀ L s₂.heap ((I, oI) :: (C, oC) :: (D, LCg.lst ys) :: Led z) ∧ LCg.Off3 I C D (Led z) ∧ AllBare s₂.gens ∧ s₂.os = s₁.os ∧ J ys' z
section
variable {prog : Program} {w : World} {A : Around} {E : Value → Shared → Prop} {s : Shared} {h₀ : Heap} {L : Addr} {m : Str → Option Value} {env : Env}
theorem block_G {σ : Type} {ct elt iter : Expr} {x : Str} {px : Pos} {scope : Scope} {cl : List (Str × Addr)} {pos : Pos} {I : Addr} {a : Int} {n : Nat} {RR : Value → Addr → Result → Shared → Prop} {S₀ : Shared} (Led : σ → List (Addr × Obj)) (J : Nat → List Value → σ → Prop) (z₀ : σ)
    (hh : A.handled = none) (hos : s.os = S₀.os) (hst : IsRangeIter s.heap I (a + ((0 : Nat) : Int) * 1) ((n : Int) - ((0 : Nat) : Int)) 1) (hsz : n ≤ sizeLine) (hIL : L ≠ I) (hI₀ : h₀.get? I = none) (off : ∀ p ∈ Led z₀, p.1 ≠ I)
    (F : Fr h₀ L s.heap m) (N : News h₀ L s.heap (Led z₀)) (G : AllBare s.gens) (hJ : J 0 [] z₀) (hJl : ∀ i ys z, J i ys z → ys.length ≤ i)
    (hcell : ∀ y ∈ scope.names, y.2 ≠ .cell) (hkind : scope.kind = .function) (hx : scope.names.lookup x = some .local)
    (turn : ∀ (i : Nat) (k : Int) t I oI C oC D m₂ ys z (s' : Shared) (E' : Value → Shared → Prop), k = a + (i : Int) → i < n → J i ys z → LCg.NsObj oC m₂ → m₂ x = some (.int k t) → AllBare s'.gens → s'.os = S₀.os → Fr h₀ L s'.heap m → News h₀ L s'.heap ((I, oI) :: (C, oC) :: (D, LCg.lst ys) :: Led z) → LCg.Off3 I C D (Led z) → ((@Ne Nat I C) ∧ (@Ne Nat I D) ∧ (@Ne Nat C D)) → CompMark →
      wpAny (model prog w) A (isTrue ct (compEnvC scope cl C env) (eval ct (compEnvC scope cl C env))) (fun ok s₁ => if ok = true then
        wpAny (model prog w) A (eval elt (compEnvC scope cl C env)) (fun y s₂ => GEnd h₀ L m Led (J (i + 1)) I oI C oC D ys (ys ++ [y]) S₀ s₂) E' s₁
        else GEnd h₀ L m Led (J (i + 1)) I oI C oC D ys ys S₀ s₁) E' s')
    (fin : ∀ D C m' ys z (s' : Shared), J n ys z → AllBare s'.gens → s'.os = S₀.os → Fr h₀ L s'.heap m → News h₀ L s'.heap ((D, LCg.lst ys) :: Led z) → s'.heap.Ns C m' → h₀.get? C = none → h₀.get? D = none → C ≠ L → D ≠ L → C ≠ D → (∀ p ∈ Led z, p.1 ≠ C ∧ p.1 ≠ D) → RR (.ref D) C (.ok .next) s') :
    wpAny (model prog w) A (newList []) (fun acc s₃ => wpAny (model prog w) A (newFunctionEnv scope env.globals cl [] env.qual none .none (some env)) (fun cenv s₄ =>
      codeAny (model prog w) A (.compStart (.ListComp elt [⟨.Name x px, iter, [ct], 0⟩] scope pos) 0 (.ref I) acc { cenv with scope := relabel scope env }) (RR acc cenv.locals) s₄) E s₃) E s := by
  have W := LCg.range_walks (prog := prog) (w := w) (A := A) (I := I) hh a n
  refine wpAny_newObj_type (wpAny_newFunctionEnv hcell (by intro y hy; simp at hy) (fun h₁ hns₁ hsb₁ => ?_) hkind)
  dsimp only at hns₁ hsb₁ ⊢
  generalize hH2 : s.heap.push { cls := .type "list", dict := none, data := .seq ([] : List Value).toArray } = H2 at hns₁ hsb₁ ⊢
  have hC : H2.objs.size = s.heap.objs.size + 1 := by rw [← hH2, Heap.size_push]
  have hDC : s.heap.objs.size ≠ H2.objs.size := by rw [hC]; exact Nat.ne_of_lt (Nat.lt_succ_self _)
  have below : ∀ b, b < s.heap.objs.size → b ≠ H2.objs.size ∧ b ≠ s.heap.objs.size := fun b hb => ⟨by rw [hC]; exact Nat.ne_of_lt (Nat.lt_succ_of_lt hb), Nat.ne_of_lt hb⟩
  have hIlt : I < s.heap.objs.size := Heap.lt_size hst
  have old : ∀ b o, s.heap.get? b = some o → h₁.get? b = some o := fun b o e => hsb₁.extBut b o (below b (Heap.lt_size e)).1 (Heap.get?_push_of_some _ (hH2 ▸ Heap.get?_push_of_some _ e))
  have hacc : h₁.get? s.heap.objs.size = some (LCg.lst []) := hsb₁.extBut _ _ hDC (Heap.get?_push_of_some _ (hH2 ▸ Heap.get?_push_size _ rfl))
  have hst₁ : IsRangeIter h₁ I (a + ((0 : Nat) : Int) * 1) ((n : Int) - ((0 : Nat) : Int)) 1 := old _ _ hst
  have fresh : ∀ a, s.heap.objs.size ≤ a → s.heap.get? a = none := fun a ha => by
    cases e : s.heap.get? a with
    | none => rfl
    | some o' => exact absurd (Heap.lt_size e) (Nat.not_lt.mpr ha)
  have fresh₀ : ∀ a, s.heap.objs.size ≤ a → h₀.get? a = none := fun a ha => by
    cases e : h₀.get? a with
    | none => rfl
    | some o' => have := F.keep a o' e; rw [fresh a ha] at this; cases this
  have hD₀ : h₀.get? s.heap.objs.size = none := fresh₀ _ (Nat.le_refl _)
  have hC₀ : h₀.get? H2.objs.size = none := fresh₀ _ (by rw [hC]; exact Nat.le_succ _)
  have hLlt : L < s.heap.objs.size := F.ns.lt
  have hDL : s.heap.objs.size ≠ L := Ne.symm (below L hLlt).2
  have hCL : H2.objs.size ≠ L := Ne.symm (below L hLlt).1
  have hCI : I ≠ H2.objs.size := (below I hIlt).1
  have hDI : I ≠ s.heap.objs.size := (below I hIlt).2
  have off₀ : LCg.Off3 I H2.objs.size s.heap.objs.size (Led z₀) := LCg.Off3.of fun p hp => ⟨off p hp, (below _ (Heap.lt_size (N p hp).1)).1, (below _ (Heap.lt_size (N p hp).1)).2⟩
  have loop : ∀ s₃ : Shared, s₃ = { s with heap := h₁, toks := s.toks + ([] : List (Str × Value)).length } →
      codeAny (model prog w) A (.compLoop (.ListComp elt [⟨.Name x px, iter, [ct], 0⟩] scope pos) 0 (.ref I) (.ref s.heap.objs.size) (compEnvC scope cl H2.objs.size env))
        (RR (.ref s.heap.objs.size) H2.objs.size) s₃ := by
    rintro s₃ rfl
    refine codeAny_compLoop_tests
      (fun k s' => ∃ i ys m' z, i ≤ n ∧ k = n + 1 - i ∧ IsRangeIter s'.heap I (a + (i : Nat) * 1) ((n : Int) - (i : Nat)) 1 ∧ Fr h₀ L s'.heap m ∧ s'.heap.Ns H2.objs.size m' ∧ News h₀ L s'.heap ((s.heap.objs.size, LCg.lst ys) :: Led z) ∧
        LCg.Off3 I H2.objs.size s.heap.objs.size (Led z) ∧ AllBare s'.gens ∧ s'.os = S₀.os ∧ J i ys z) ?_ (n + 1)
      ⟨0, [], _, z₀, Nat.zero_le _, rfl, hst₁, F.keeps old, hns₁, fun p hp => ?_, off₀, G, hos, hJ⟩
    · rintro k s' ⟨i, ys, m', z, hi, rfl, hst', F', hn', N', off', G', hos', J'⟩
      by_cases hlt : i < n
      · refine W.item i _ _ _ hlt hst' fun v h₂ tk₂ hPv hst₂ hk₂ => ?_
        obtain ⟨t, rfl⟩ := hPv
        refine wpAny_assign_Name (wpAny_storeName_local (lookup_relabel_local hx) (hn'.at' fun o e => hk₂ _ o (by simpa using Ne.symm hCI) e) (fun h₃ hn₃ hs₃ => ?_) (by simp [compEnvC, relabel, hkind]))
        refine wpAny_tests_one ?_
        have hst₃ : IsRangeIter h₃ I (a + ((i + 1 : Nat) : Int) * 1) ((n : Int) - ((i + 1 : Nat) : Int)) 1 := hs₃.extBut _ _ hCI hst₂
        obtain ⟨oI, heI⟩ : ∃ o, h₃.get? I = some o := ⟨_, hst₃⟩
        obtain ⟨oC, heC, hoC⟩ := LCg.ns_obj hn₃
        have F₃ : Fr h₀ L h₃ m := (LCg.fr_but F' hk₂ hIL hI₀).change hs₃ hCL hC₀
        have off3 := off'.mem
        have N₂ : News h₀ L h₂ ((s.heap.objs.size, LCg.lst ys) :: Led z) := LCg.news_but N' hk₂ fun p hp => by
          rcases List.mem_cons.mp hp with rfl | hp
          · exact Ne.symm hDI
          · exact (off3 p hp).1
        have N₃ : News h₀ L h₃ ((I, oI) :: (H2.objs.size, oC) :: (s.heap.objs.size, LCg.lst ys) :: Led z) := fun p hp => by
          rcases List.mem_cons.mp hp with rfl | hp
          · exact ⟨heI, Ne.symm hIL, hI₀⟩
          · rcases List.mem_cons.mp hp with rfl | hp
            · exact ⟨heC, hCL, hC₀⟩
            · have z := N₂ p hp
              refine ⟨hs₃.extBut _ _ ?_ z.1, z.2⟩
              rcases List.mem_cons.mp hp with rfl | hp
              · exact hDC
              · exact (off3 p hp).2.1
        have stI : ∀ {s₅ : Shared}, s₅.heap.get? I = some oI → IsRangeIter s₅.heap I (a + ((i + 1 : Nat) : Int) * 1) ((n : Int) - ((i + 1 : Nat) : Int)) 1 := fun {s₅} e => by
          show s₅.heap.get? I = _
          rw [e, ← heI]; exact hst₃
        refine wpAny_mono (turn i _ t I oI H2.objs.size oC s.heap.objs.size _ ys z { s' with heap := h₃, toks := _ } _ rfl hlt J' hoC (by simp) G' hos' F₃ N₃ off' ⟨hCI, hDI, Ne.symm hDC⟩ True.intro) (fun ok s₄ h₄ => ?_) fun _ _ e => e
        cases ok with
        | true =>
          simp only [if_true] at h₄ ⊢
          refine wpAny_mono h₄ (fun y s₅ h₅ => ?_) fun _ _ e => e
          obtain ⟨z', F₄, N₄, off₄, G₄, hos₄, J₄⟩ := h₅
          have zI := (N₄ (I, oI) List.mem_cons_self).1
          have zC := (N₄ (H2.objs.size, oC) (List.mem_cons_of_mem _ List.mem_cons_self)).1
          have zD := (N₄ (s.heap.objs.size, LCg.lst ys) (List.mem_cons_of_mem _ (List.mem_cons_of_mem _ List.mem_cons_self))).1
          have hst₄ := stI zI
          refine append_at (hsz := by show ys.toArray.size ≤ sizeLine; rw [List.size_toArray]; exact Nat.le_trans (Nat.le_trans (hJl _ _ _ J') hi) hsz) zD fun h₅ hs₅ hD₅ => ?_
          have off4 := off₄.mem
          refine ⟨n + 1 - (i + 1), by omega, i + 1, ys ++ [y], _, z', hlt, rfl, hs₅.extBut _ _ hDI hst₄, F₄.change hs₅ hDL hD₀, (hoC.ns zC).sameBut hs₅ (Ne.symm hDC), fun p hp => ?_, off₄, G₄, hos₄, J₄⟩
          rcases List.mem_cons.mp hp with rfl | hp
          · exact ⟨hD₅.trans (congrArg some (LCg.lst_snoc ys y)), hDL, hD₀⟩
          · have z := N₄ p (List.mem_cons_of_mem _ (List.mem_cons_of_mem _ (List.mem_cons_of_mem _ hp)))
            exact ⟨hs₅.extBut _ _ (off4 p hp).2.2 z.1, z.2⟩
        | false =>
          simp only [Bool.false_eq_true, if_false] at h₄ ⊢
          obtain ⟨z', F₄, N₄, off₄, G₄, hos₄, J₄⟩ := h₄
          have zI := (N₄ (I, oI) List.mem_cons_self).1
          have zC := (N₄ (H2.objs.size, oC) (List.mem_cons_of_mem _ List.mem_cons_self)).1
          exact ⟨n + 1 - (i + 1), by omega, i + 1, ys, _, z', hlt, rfl, stI zI, F₄, hoC.ns zC, fun p hp => N₄ p (List.mem_cons_of_mem _ (List.mem_cons_of_mem _ hp)), off₄, G₄, hos₄, J₄⟩
      · obtain rfl : i = n := Nat.le_antisymm hi (Nat.not_lt.mp hlt)
        refine W.done _ _ _ hst' fun h₂ tk₂ hk₂ => ?_
        have off3 := off'.mem
        exact fin _ _ _ ys z _ J' G' hos' (LCg.fr_but F' hk₂ hIL hI₀) (LCg.news_but N' hk₂ fun p hp => by
          rcases List.mem_cons.mp hp with rfl | hp
          · exact Ne.symm hDI
          · exact (off3 p hp).1) (hn'.at' fun o e => hk₂ _ o (by simpa using Ne.symm hCI) e) hC₀ hD₀ hCL hDL (Ne.symm hDC) (fun p hp => ⟨(off3 p hp).2.1, (off3 p hp).2.2⟩)
    · rcases List.mem_cons.mp hp with rfl | hp
      · exact ⟨hacc, hDL, hD₀⟩
      · exact ⟨old _ _ (N p hp).1, (N p hp).2⟩
  exact codeAny_compStart_list (loop _ rfl) (W.self 0 _ _ _ hst₁ (loop _ rfl))
/-- a comprehension over a range with one test; the generators and the ledger may change -/
theorem my_compG {σ : Type} {ct elt iter : Expr} {x : Str} {px : Pos} {scope : Scope} {cl : List (Str × Addr)} {pos : Pos} {r : Addr} {a b c : Int} {t₁ t₂ t₃ : Tok} {n : Nat} {RR : Value → Addr → Result → Shared → Prop} (Led : σ → List (Addr × Obj)) (J : Nat → List Value → σ → Prop) (z₀ : σ)
    (hh : A.handled = none) (hr : IsRange s.heap r a b c t₁ t₂ t₃) (hc1 : c = 1) (hs : Builtin.Range.small a b c = true) (hn : Builtin.Range.rangeSize a b c = (n : Int)) (hsz : n ≤ sizeLine)
    (F : Fr h₀ L s.heap m) (N : News h₀ L s.heap (Led z₀)) (G : AllBare s.gens) (hJ : J 0 [] z₀) (hJl : ∀ i ys z, J i ys z → ys.length ≤ i)
    (hcell : ∀ y ∈ scope.names, y.2 ≠ .cell) (hkind : scope.kind = .function) (hx : scope.names.lookup x = some .local)
    (turn : ∀ (i : Nat) (k : Int) t I oI C oC D m₂ ys z (s' : Shared) (E' : Value → Shared → Prop), k = a + (i : Int) → i < n → J i ys z → LCg.NsObj oC m₂ → m₂ x = some (.int k t) → AllBare s'.gens → s'.os = s.os → Fr h₀ L s'.heap m → News h₀ L s'.heap ((I, oI) :: (C, oC) :: (D, LCg.lst ys) :: Led z) → LCg.Off3 I C D (Led z) → ((@Ne Nat I C) ∧ (@Ne Nat I D) ∧ (@Ne Nat C D)) → CompMark →
      wpAny (model prog w) A (isTrue ct (compEnvC scope cl C env) (eval ct (compEnvC scope cl C env))) (fun ok s₁ => if ok = true then
        wpAny (model prog w) A (eval elt (compEnvC scope cl C env)) (fun y s₂ => GEnd h₀ L m Led (J (i + 1)) I oI C oC D ys (ys ++ [y]) s s₂) E' s₁
        else GEnd h₀ L m Led (J (i + 1)) I oI C oC D ys ys s s₁) E' s')
    (fin : ∀ D C m' ys z (s' : Shared), J n ys z → AllBare s'.gens → s'.os = s.os → Fr h₀ L s'.heap m → News h₀ L s'.heap ((D, LCg.lst ys) :: Led z) → s'.heap.Ns C m' → h₀.get? C = none → h₀.get? D = none → C ≠ L → D ≠ L → C ≠ D → (∀ p ∈ Led z, p.1 ≠ C ∧ p.1 ≠ D) → RR (.ref D) C (.ok .next) s') :
    wpAny (model prog w) A (pyIter (.ref r)) (fun it s₂ => wpAny (model prog w) A (newList []) (fun acc s₃ => wpAny (model prog w) A (newFunctionEnv scope env.globals cl [] env.qual none .none (some env)) (fun cenv s₄ =>
      codeAny (model prog w) A (.compStart (.ListComp elt [⟨.Name x px, iter, [ct], 0⟩] scope pos) 0 it acc { cenv with scope := relabel scope env }) (RR acc cenv.locals) s₄) E s₃) E s₂) E s := by
  subst hc1
  refine wpAny_pyIter_range hr hs ?_
  rw [hn]
  exact block_G Led J z₀ hh rfl (by simpa using Heap.get?_push_size _ rfl) hsz (Nat.ne_of_lt F.ns.lt) (next_is_new F) (fun p hp => Nat.ne_of_lt (Heap.lt_size (N p hp).1))
    (F.push _) (fun p hp => ⟨Heap.get?_push_of_some _ (N p hp).1, (N p hp).2⟩) G hJ hJl hcell hkind hx turn fin
end

end Mine
namespace Mine
local macro_rules | `(tactic| k_call_by "use" $g:term) => `(tactic| (k_here; k_dflt (refine' Cl.use $g ?k1 ?k2 ?k3 ?k4 ?k5 ?kK ?kp ?kd ?ku ?kR; (case k1 => k_asm); (case k2 => k_asm); (case k3 => k_asm); (case k4 => k_asm); (case k5 => k_asm); (case kK => first | exact rfl | assumption); (case kp => first | trivial | omega | ((try dsimp only); first | assumption | omega | l_fact)); (case kd => k_room); (case ku => k_units)); intro t9 h9 tk9 F9 N9; (try dsimp only); (try k_extra "fact use"); (try k_fold)))
local macro_rules | `(tactic| k_room) => `(tactic| ((simp only [depth_under_make, depth_under_kw, depth_in1, depth_deeper, depth_caller, recursionLimit] at *); omega))
local macro_rules | `(tactic| k_units) => `(tactic| ((have hcL9 := cLine_is); (simp only [units_in1, units_deeper, Around.mark_units, units_caller, cLine] at *); omega))
local macro_rules | `(tactic| walk_at "InvEndN") => `(tactic| first | k_extra "InvEndN" | k_dflt kst_close)
local macro_rules | `(tactic| walk_at "CompEnd") => `(tactic| k_dflt (refine LCg.CompEnd.intro (by assumption) (by assumption) _ (fun _ hp => hp) (by assumption) (by first | exact True.intro | exact Or.inl (Or.inl (by assumption)) | exact Or.inl (by assumption) | exact Or.inr ⟨_, .head _, rfl, _, rfl⟩ | exact Or.inr ⟨_, by k_mem, rfl, _, rfl⟩) ?_))
local macro_rules | `(tactic| k_call_by "enterC" $_g:term) => `(tactic| (refine' code_defC ?k1 ?k2 ?k3 ?k4 ?k5 ?kA ?kF ?kK ?k6 ?k7 ?k8 ?k9 ?kB ?kD ?_ ?c2 ?c3 ?c4; (case kA => exact rfl); (case kF => exact rfl); (case kK => assumption); (case k1 => k_asm); (case k2 => k_asm); (case k3 => k_asm); (case k4 => k_asm); (case k5 => k_asm); (case k6 => k_is); (case k7 => k_is); (case k8 => k_room); (case k9 => exact BindsTo.of_eq rfl); (case kB => exact rfl); (case kD => decide +kernel); (case c2 => exact rfl); (case c3 => exact rfl); (case c4 => exact rfl); k_whole; intro g' L' h' tk' cells' FG' F' N' Y' B' X' T' l1; have hOc9 := ownOff_cells l1; have kMark9 := kstMark; (try k_lt l1); k_cells Y'; (try simp only [List.cons_append, List.nil_append] at N'); (try dsimp only); (try k_lift B'); (try k_fold)))
local macro_rules | `(tactic| k_call_by "om" $_g:term) => `(tactic| ((repeat (rename (_ ≠ _ ∧ _ ≠ _ ∧ _ ≠ _) ∧ _ => o9; clear o9)); (repeat (rename _ ≠ _ ∧ _ ≠ _ ∧ _ ≠ _ => o9; clear o9)); (repeat (rename @Ne Nat _ _ => o9; clear o9)); omega))
local macro_rules | `(tactic| k_call_by "item" $h:term) => `(tactic| (k_here; (with_reducible rename News _ _ _ _ => myN9); k_dflt (refine' item_list_ints (News.isList (by with_reducible exact myN9) ?hm) $h ?h0 ?h1 ?h2 (fun tI9 => ?hQ)); (case hm => k_dflt k_mem); (case h0 => k_call_by "om" 0); (case h1 => k_call_by "om" 0); (case h2 => k_call_by "om" 0); (try k_fold)))
local macro_rules | `(tactic| k_call_by "enterD" $_g:term) => `(tactic| (refine' code_def ?k1 ?k2 ?k3 ?k4 ?k5 ?kA ?kF ?kK ?k6 ?k7 ?k8 ?k9 ?kB ?_ ?c2 ?c3 ?c4 ?c5; (case kA => exact rfl); (case kF => exact rfl); (case kK => assumption); (case k1 => k_asm); (case k2 => k_asm); (case k3 => k_asm); (case k4 => k_asm); (case k5 => k_asm); (case k6 => k_is); (case k7 => k_is); (case k8 => k_room); (case k9 => first | exact binds_K (by k_in) rfl (by k_is) rfl rfl rfl | exact BindsTo.of_eq rfl); (case c5 => decide); (case kB => exact locs rfl); (case c2 => exact rfl); (case c3 => exact rfl); (case c4 => exact rfl); k_whole; intro g' L' h' FG' F' N' B' X' T'; (try dsimp only); (try k_lift B'); (try k_fold)))
local macro_rules | `(tactic| k_call_by "itemN" $h:term) => `(tactic| (k_here; (with_reducible rename News _ _ _ _ => myN9); k_dflt (refine' item_list_ints_neg (News.isList (by with_reducible exact myN9) ?hm) $h ?h0 ?h1 ?h2 (fun tI9 => ?hQ)); (case hm => k_dflt k_mem); (case h0 => k_call_by "om" 0); (case h1 => k_call_by "om" 0); (case h2 => k_call_by "om" 0); (try k_fold)))

local macro_rules | `(tactic| k_call_by "useL" $g:term) => `(tactic| (k_here; k_dflt (refine' ClL.use $g ?k1 ?k2 ?k3 ?k4 ?k5 ?kK ?kp ?kd ?ku ?kR; (case k1 => k_asm); (case k2 => k_asm); (case k3 => k_asm); (case k4 => k_asm); (case k5 => k_asm); (case kK => first | exact rfl | assumption); (case kp => first | trivial | omega | ((try dsimp only); first | assumption | omega | l_fact)); (case kd => k_room); (case ku => k_units)); intro D9 ws9 ns9 nn9 h9 tk9 F9 N9 l9 hI9 hR9; (try simp only [AllLt, LCg.Off1, and_true] at l9); (try dsimp only); (try k_extra "fact useL"); (try k_fold)))

abbrev cellObj : Obj := { cls := .type "cell", data := .cell none }
section
variable {prog : Program} {w : World} {A : Around} {E : Value → Shared → Prop} {s : Shared} {h₀ : Heap} {L : Addr} {m : Str → Option Value} {env : Env}
theorem newEnv_cell {M : Model} {scope : Scope} {globals : Addr} {x : Str} {qual : Str} {Q : Env → Shared → Prop} (hp : ∀ h : Heap, pushCells h scope.names = h.push cellObj) (hc : ∀ n, cellsFrom n scope.names [] = [(x, n)])
    (h : Q { scope, locals := s.heap.objs.size, globals, cells := [(x, s.heap.objs.size + 1)], qual, func := none, code := env.code, frame := env.frame, builtins := env.builtins } { s with heap := (s.heap.push { cls := .type "dict", data := .dict #[] }).push cellObj }) :
    wpAny M A (newFunctionEnv scope globals [] [] qual none .none (some env)) Q E s := by
  simp only [newFunctionEnv, Option.isSome_some, if_true]
  refine wpAny_bind (wpAny_alloc ?_)
  refine wpAny_bind (wpAny_layCells _ (fun name kind cells => by cases hkc : kind == NameKind.cell <;> simp [hkc]) _ _ _ _ ?_)
  rw [show ({ s with heap := s.heap.push { cls := .type "dict", data := .dict #[] } } : Shared).heap.objs.size = s.heap.objs.size + 1 from Heap.size_push .., hp, hc]
  refine wpAny_bind ?_
  rw [List.forIn_nil]
  exact wpAny_pure (wpAny_pure h)
/-- the end of an element of a comprehension whose own name is a cell -/
def CEnd (h₀ : Heap) (L : Addr) (m : Str → Option Value) (news : List (Addr × Obj)) (J : List Value → Prop) (I : Addr) (oI : Obj) (C : Addr) (oC : Obj) (D Kc : Addr) (ys ys' : List Value) (s₁ s₂ : Shared) : Prop :=
  ∃ oK v, Fr h₀ L s₂.heap m ∧ News h₀ L s₂.heap ((I, oI) :: (C, oC) :: (D, LCg.lst ys) :: (Kc, oK) :: news) ∧ oK.data = .cell v ∧ AllBare s₂.gens ∧ s₂.os = s₁.os ∧ J ys'
theorem block_C {ct elt iter : Expr} {x : Str} {px : Pos} {scope : Scope} {pos : Pos} {I : Addr} {a : Int} {n : Nat} {RR : Value → Addr → Result → Shared → Prop} {S₀ : Shared} {news : List (Addr × Obj)} (J : Nat → List Value → Prop)
    (hh : A.handled = none) (hos : s.os = S₀.os) (hst : IsRangeIter s.heap I (a + ((0 : Nat) : Int) * 1) ((n : Int) - ((0 : Nat) : Int)) 1) (hsz : n ≤ sizeLine) (hIL : L ≠ I) (hI₀ : h₀.get? I = none) (off : ∀ p ∈ news, p.1 ≠ I)
    (F : Fr h₀ L s.heap m) (N : News h₀ L s.heap news) (G : AllBare s.gens) (hJ : J 0 []) (hJl : ∀ i ys, J i ys → ys.length ≤ i)
    (hp : ∀ h : Heap, pushCells h scope.names = h.push cellObj) (hcf : ∀ n, cellsFrom n scope.names [] = [(x, n)]) (hkind : scope.kind = .function) (hx : (relabel scope env).names.lookup x = some .cell)
    (turn : ∀ (i : Nat) (k : Int) t I oI C oC D Kc oK m₂ ys (s' : Shared) (E' : Value → Shared → Prop), k = a + (i : Int) → i < n → J i ys → LCg.NsObj oC m₂ → oK.data = .cell (some (.int k t)) → AllBare s'.gens → s'.os = S₀.os → Fr h₀ L s'.heap m → News h₀ L s'.heap ((I, oI) :: (C, oC) :: (D, LCg.lst ys) :: (Kc, oK) :: news) → LCg.Off3 I C D ((Kc, oK) :: news) → (∀ p ∈ news, p.1 ≠ Kc) → ((@Ne Nat I C) ∧ (@Ne Nat I D) ∧ (@Ne Nat C D)) → CompMark →
      wpAny (model prog w) A (isTrue ct (compEnvC scope [(x, Kc)] C env) (eval ct (compEnvC scope [(x, Kc)] C env))) (fun ok s₁ => if ok = true then
        wpAny (model prog w) A (eval elt (compEnvC scope [(x, Kc)] C env)) (fun y s₂ => CEnd h₀ L m news (J (i + 1)) I oI C oC D Kc ys (ys ++ [y]) S₀ s₂) E' s₁
        else CEnd h₀ L m news (J (i + 1)) I oI C oC D Kc ys ys S₀ s₁) E' s')
    (fin : ∀ D C m' ys (s' : Shared), J n ys → AllBare s'.gens → s'.os = S₀.os → Fr h₀ L s'.heap m → News h₀ L s'.heap ((D, LCg.lst ys) :: news) → s'.heap.Ns C m' → h₀.get? C = none → h₀.get? D = none → C ≠ L → D ≠ L → C ≠ D → (∀ p ∈ news, p.1 ≠ C ∧ p.1 ≠ D) → RR (.ref D) C (.ok .next) s') :
    wpAny (model prog w) A (newList []) (fun acc s₃ => wpAny (model prog w) A (newFunctionEnv scope env.globals [] [] env.qual none .none (some env)) (fun cenv s₄ =>
      codeAny (model prog w) A (.compStart (.ListComp elt [⟨.Name x px, iter, [ct], 0⟩] scope pos) 0 (.ref I) acc { cenv with scope := relabel scope env }) (RR acc cenv.locals) s₄) E s₃) E s := by
  have W := LCg.range_walks (prog := prog) (w := w) (A := A) (I := I) hh a n
  refine wpAny_newObj_type (newEnv_cell hp hcf ?_)
  dsimp only
  generalize hH2 : s.heap.push { cls := .type "list", dict := none, data := .seq ([] : List Value).toArray } = H2
  generalize hH1 : (H2.push { cls := .type "dict", data := .dict #[] }).push cellObj = h₁
  have hC : H2.objs.size = s.heap.objs.size + 1 := by rw [← hH2, Heap.size_push]
  have hKC : H2.objs.size ≠ H2.objs.size + 1 := Nat.ne_of_lt (Nat.lt_succ_self _)
  have hDC : s.heap.objs.size ≠ H2.objs.size := by rw [hC]; exact Nat.ne_of_lt (Nat.lt_succ_self _)
  have hDK : s.heap.objs.size ≠ H2.objs.size + 1 := by rw [hC]; exact Nat.ne_of_lt (Nat.lt_succ_of_lt (Nat.lt_succ_self _))
  have below : ∀ b, b < s.heap.objs.size → b ≠ H2.objs.size ∧ b ≠ s.heap.objs.size ∧ b ≠ H2.objs.size + 1 := fun b hb => ⟨by rw [hC]; exact Nat.ne_of_lt (Nat.lt_succ_of_lt hb), Nat.ne_of_lt hb, by rw [hC]; exact Nat.ne_of_lt (Nat.lt_succ_of_lt (Nat.lt_succ_of_lt hb))⟩
  have hIlt : I < s.heap.objs.size := Heap.lt_size hst
  have old : ∀ b o, s.heap.get? b = some o → h₁.get? b = some o := fun b o e => hH1 ▸ Heap.get?_push_of_some _ (Heap.get?_push_of_some _ (hH2 ▸ Heap.get?_push_of_some _ e))
  have hacc : h₁.get? s.heap.objs.size = some (LCg.lst []) := hH1 ▸ Heap.get?_push_of_some _ (Heap.get?_push_of_some _ (hH2 ▸ Heap.get?_push_size _ rfl))
  have hns₁ : h₁.Ns H2.objs.size (fun _ => none) := ((Heap.Ns.new H2 (.type "dict")).keeps (fun b o e => hH1 ▸ Heap.get?_push_of_some _ e))
  have hK₁ : h₁.get? (H2.objs.size + 1) = some cellObj := by
    rw [← hH1, show H2.objs.size + 1 = (H2.push { cls := .type "dict", data := .dict #[] }).objs.size from (Heap.size_push ..).symm]
    exact Heap.get?_push_size _ rfl
  have hst₁ : IsRangeIter h₁ I (a + ((0 : Nat) : Int) * 1) ((n : Int) - ((0 : Nat) : Int)) 1 := old _ _ hst
  have fresh : ∀ a, s.heap.objs.size ≤ a → s.heap.get? a = none := fun a ha => by
    cases e : s.heap.get? a with
    | none => rfl
    | some o' => exact absurd (Heap.lt_size e) (Nat.not_lt.mpr ha)
  have fresh₀ : ∀ a, s.heap.objs.size ≤ a → h₀.get? a = none := fun a ha => by
    cases e : h₀.get? a with
    | none => rfl
    | some o' => have := F.keep a o' e; rw [fresh a ha] at this; cases this
  have hD₀ : h₀.get? s.heap.objs.size = none := fresh₀ _ (Nat.le_refl _)
  have hC₀ : h₀.get? H2.objs.size = none := fresh₀ _ (by rw [hC]; exact Nat.le_succ _)
  have hK₀ : h₀.get? (H2.objs.size + 1) = none := fresh₀ _ (by rw [hC]; exact Nat.le_trans (Nat.le_succ _) (Nat.le_succ _))
  have hLlt : L < s.heap.objs.size := F.ns.lt
  have hDL : s.heap.objs.size ≠ L := Ne.symm (below L hLlt).2.1
  have hCL : H2.objs.size ≠ L := Ne.symm (below L hLlt).1
  have hKL : H2.objs.size + 1 ≠ L := Ne.symm (below L hLlt).2.2
  have hCI : I ≠ H2.objs.size := (below I hIlt).1
  have hDI : I ≠ s.heap.objs.size := (below I hIlt).2.1
  have hKI : I ≠ H2.objs.size + 1 := (below I hIlt).2.2
  have offN : ∀ p ∈ news, p.1 ≠ I ∧ p.1 ≠ H2.objs.size ∧ p.1 ≠ s.heap.objs.size ∧ p.1 ≠ H2.objs.size + 1 := fun p hp => ⟨off p hp, (below _ (Heap.lt_size (N p hp).1)).1, (below _ (Heap.lt_size (N p hp).1)).2.1, (below _ (Heap.lt_size (N p hp).1)).2.2⟩
  have off3 : ∀ oK, LCg.Off3 I H2.objs.size s.heap.objs.size ((H2.objs.size + 1, oK) :: news) := fun oK => LCg.Off3.of fun p hp => by
    rcases List.mem_cons.mp hp with rfl | hp
    · exact ⟨hKI.symm, hKC.symm, hDK.symm⟩
    · exact ⟨(offN p hp).1, (offN p hp).2.1, (offN p hp).2.2.1⟩
  have loop : ∀ s₃ : Shared, s₃ = { s with heap := h₁ } →
      codeAny (model prog w) A (.compLoop (.ListComp elt [⟨.Name x px, iter, [ct], 0⟩] scope pos) 0 (.ref I) (.ref s.heap.objs.size) (compEnvC scope [(x, H2.objs.size + 1)] H2.objs.size env))
        (RR (.ref s.heap.objs.size) H2.objs.size) s₃ := by
    rintro s₃ rfl
    refine codeAny_compLoop_tests
      (fun k s' => ∃ i ys m' oK v, i ≤ n ∧ k = n + 1 - i ∧ IsRangeIter s'.heap I (a + (i : Nat) * 1) ((n : Int) - (i : Nat)) 1 ∧ Fr h₀ L s'.heap m ∧ s'.heap.Ns H2.objs.size m' ∧ News h₀ L s'.heap ((s.heap.objs.size, LCg.lst ys) :: (H2.objs.size + 1, oK) :: news) ∧
        oK.data = .cell v ∧ AllBare s'.gens ∧ s'.os = S₀.os ∧ J i ys) ?_ (n + 1)
      ⟨0, [], _, cellObj, none, Nat.zero_le _, rfl, hst₁, F.keeps old, hns₁, fun p hp => ?_, rfl, G, hos, hJ⟩
    · rintro k s' ⟨i, ys, m', oK, v, hi, rfl, hst', F', hn', N', hd', G', hos', J'⟩
      have offT : ∀ p ∈ (s.heap.objs.size, LCg.lst ys) :: (H2.objs.size + 1, oK) :: news, p.1 ≠ I := fun p hp => by
        rcases List.mem_cons.mp hp with rfl | hp
        · exact Ne.symm hDI
        · rcases List.mem_cons.mp hp with rfl | hp
          · exact Ne.symm hKI
          · exact (offN p hp).1
      by_cases hlt : i < n
      · refine W.item i _ _ _ hlt hst' fun v h₂ tk₂ hPv hst₂ hk₂ => ?_
        obtain ⟨t, rfl⟩ := hPv
        have N₂ : News h₀ L h₂ ((s.heap.objs.size, LCg.lst ys) :: (H2.objs.size + 1, oK) :: news) := LCg.news_but N' hk₂ offT
        refine wpAny_assign_Name (wpAny_storeName_cell hkind hx (c := H2.objs.size + 1) (by simp [compEnvC, List.lookup]) ⟨oK, (N₂ _ (List.mem_cons_of_mem _ List.mem_cons_self)).1, hd'⟩ (fun h₃ hv₃ hs₃ => ?_))
        obtain ⟨oK', hoK', hdK'⟩ := hv₃
        refine wpAny_tests_one ?_
        have hst₃ : IsRangeIter h₃ I (a + ((i + 1 : Nat) : Int) * 1) ((n : Int) - ((i + 1 : Nat) : Int)) 1 := hs₃.extBut _ _ hKI hst₂
        obtain ⟨oI, heI⟩ : ∃ o, h₃.get? I = some o := ⟨_, hst₃⟩
        have hn₃ : h₃.Ns H2.objs.size m' := (hn'.at' fun o e => hk₂ _ o (by simpa using Ne.symm hCI) e).sameBut hs₃ hKC
        obtain ⟨oC, heC, hoC⟩ := LCg.ns_obj hn₃
        have F₃ : Fr h₀ L h₃ m := (LCg.fr_but F' hk₂ hIL hI₀).change hs₃ hKL hK₀
        have N₃ : News h₀ L h₃ ((I, oI) :: (H2.objs.size, oC) :: (s.heap.objs.size, LCg.lst ys) :: (H2.objs.size + 1, oK') :: news) := fun p hp => by
          rcases List.mem_cons.mp hp with rfl | hp
          · exact ⟨heI, Ne.symm hIL, hI₀⟩
          · rcases List.mem_cons.mp hp with rfl | hp
            · exact ⟨heC, hCL, hC₀⟩
            · rcases List.mem_cons.mp hp with rfl | hp
              · have z := N₂ (s.heap.objs.size, LCg.lst ys) List.mem_cons_self
                exact ⟨hs₃.extBut _ _ hDK z.1, z.2⟩
              · rcases List.mem_cons.mp hp with rfl | hp
                · exact ⟨hoK', hKL, hK₀⟩
                · have z := N₂ p (List.mem_cons_of_mem _ (List.mem_cons_of_mem _ hp))
                  exact ⟨hs₃.extBut _ _ (offN p hp).2.2.2 z.1, z.2⟩
        have stI : ∀ {s₅ : Shared}, s₅.heap.get? I = some oI → IsRangeIter s₅.heap I (a + ((i + 1 : Nat) : Int) * 1) ((n : Int) - ((i + 1 : Nat) : Int)) 1 := fun {s₅} e => by
          show s₅.heap.get? I = _
          rw [e, ← heI]; exact hst₃
        refine wpAny_mono (turn i _ t I oI H2.objs.size oC s.heap.objs.size (H2.objs.size + 1) oK' _ ys { s' with heap := h₃, toks := _ } _ rfl hlt J' hoC hdK' G' hos' F₃ N₃ (off3 _) (fun p hp => (offN p hp).2.2.2) ⟨hCI, hDI, Ne.symm hDC⟩ True.intro) (fun ok s₄ h₄ => ?_) fun _ _ e => e
        cases ok with
        | true =>
          simp only [if_true] at h₄ ⊢
          refine wpAny_mono h₄ (fun y s₅ h₅ => ?_) fun _ _ e => e
          obtain ⟨oK₄, v₄, F₄, N₄, hd₄, G₄, hos₄, J₄⟩ := h₅
          have zI := (N₄ (I, oI) List.mem_cons_self).1
          have zC := (N₄ (H2.objs.size, oC) (List.mem_cons_of_mem _ List.mem_cons_self)).1
          have zD := (N₄ (s.heap.objs.size, LCg.lst ys) (List.mem_cons_of_mem _ (List.mem_cons_of_mem _ List.mem_cons_self))).1
          have hst₄ := stI zI
          refine append_at (hsz := by show ys.toArray.size ≤ sizeLine; rw [List.size_toArray]; exact Nat.le_trans (Nat.le_trans (hJl _ _ J') hi) hsz) zD fun h₅ hs₅ hD₅ => ?_
          refine ⟨n + 1 - (i + 1), by omega, i + 1, ys ++ [y], _, oK₄, v₄, hlt, rfl, hs₅.extBut _ _ hDI hst₄, F₄.change hs₅ hDL hD₀, (hoC.ns zC).sameBut hs₅ (Ne.symm hDC), fun p hp => ?_, hd₄, G₄, hos₄, J₄⟩
          rcases List.mem_cons.mp hp with rfl | hp
          · exact ⟨hD₅.trans (congrArg some (LCg.lst_snoc ys y)), hDL, hD₀⟩
          · have z := N₄ p (List.mem_cons_of_mem _ (List.mem_cons_of_mem _ (List.mem_cons_of_mem _ hp)))
            exact ⟨hs₅.extBut _ _ ((off3 oK₄).mem p hp).2.2 z.1, z.2⟩
        | false =>
          simp only [Bool.false_eq_true, if_false] at h₄ ⊢
          obtain ⟨oK₄, v₄, F₄, N₄, hd₄, G₄, hos₄, J₄⟩ := h₄
          have zI := (N₄ (I, oI) List.mem_cons_self).1
          have zC := (N₄ (H2.objs.size, oC) (List.mem_cons_of_mem _ List.mem_cons_self)).1
          exact ⟨n + 1 - (i + 1), by omega, i + 1, ys, _, oK₄, v₄, hlt, rfl, stI zI, F₄, hoC.ns zC, fun p hp => N₄ p (List.mem_cons_of_mem _ (List.mem_cons_of_mem _ hp)), hd₄, G₄, hos₄, J₄⟩
      · obtain rfl : i = n := Nat.le_antisymm hi (Nat.not_lt.mp hlt)
        refine W.done _ _ _ hst' fun h₂ tk₂ hk₂ => ?_
        have N₂ := LCg.news_but N' hk₂ offT
        exact fin _ _ _ ys _ J' G' hos' (LCg.fr_but F' hk₂ hIL hI₀) (fun p hp => N₂ p (by
          rcases List.mem_cons.mp hp with rfl | hp
          · exact List.mem_cons_self
          · exact List.mem_cons_of_mem _ (List.mem_cons_of_mem _ hp))) (hn'.at' fun o e => hk₂ _ o (by simpa using Ne.symm hCI) e) hC₀ hD₀ hCL hDL (Ne.symm hDC) (fun p hp => ⟨(offN p hp).2.1, (offN p hp).2.2.1⟩)
    · rcases List.mem_cons.mp hp with rfl | hp
      · exact ⟨hacc, hDL, hD₀⟩
      · rcases List.mem_cons.mp hp with rfl | hp
        · exact ⟨hK₁, hKL, hK₀⟩
        · exact ⟨old _ _ (N p hp).1, (N p hp).2⟩
  exact codeAny_compStart_list (loop _ rfl) (W.self 0 _ _ _ hst₁ (loop _ rfl))
/-- a comprehension over a range with one test, whose own name is a cell -/
theorem my_compC {ct elt iter : Expr} {x : Str} {px : Pos} {scope : Scope} {pos : Pos} {r : Addr} {a b c : Int} {t₁ t₂ t₃ : Tok} {n : Nat} {RR : Value → Addr → Result → Shared → Prop} {news : List (Addr × Obj)} (J : Nat → List Value → Prop)
    (hh : A.handled = none) (hr : IsRange s.heap r a b c t₁ t₂ t₃) (hc1 : c = 1) (hs : Builtin.Range.small a b c = true) (hn : Builtin.Range.rangeSize a b c = (n : Int)) (hsz : n ≤ sizeLine)
    (F : Fr h₀ L s.heap m) (N : News h₀ L s.heap news) (G : AllBare s.gens) (hJ : J 0 []) (hJl : ∀ i ys, J i ys → ys.length ≤ i)
    (hp : ∀ h : Heap, pushCells h scope.names = h.push cellObj) (hcf : ∀ n, cellsFrom n scope.names [] = [(x, n)]) (hkind : scope.kind = .function) (hx : (relabel scope env).names.lookup x = some .cell)
    (turn : ∀ (i : Nat) (k : Int) t I oI C oC D Kc oK m₂ ys (s' : Shared) (E' : Value → Shared → Prop), k = a + (i : Int) → i < n → J i ys → LCg.NsObj oC m₂ → oK.data = .cell (some (.int k t)) → AllBare s'.gens → s'.os = s.os → Fr h₀ L s'.heap m → News h₀ L s'.heap ((I, oI) :: (C, oC) :: (D, LCg.lst ys) :: (Kc, oK) :: news) → LCg.Off3 I C D ((Kc, oK) :: news) → (∀ p ∈ news, p.1 ≠ Kc) → ((@Ne Nat I C) ∧ (@Ne Nat I D) ∧ (@Ne Nat C D)) → CompMark →
      wpAny (model prog w) A (isTrue ct (compEnvC scope [(x, Kc)] C env) (eval ct (compEnvC scope [(x, Kc)] C env))) (fun ok s₁ => if ok = true then
        wpAny (model prog w) A (eval elt (compEnvC scope [(x, Kc)] C env)) (fun y s₂ => CEnd h₀ L m news (J (i + 1)) I oI C oC D Kc ys (ys ++ [y]) s s₂) E' s₁
        else CEnd h₀ L m news (J (i + 1)) I oI C oC D Kc ys ys s s₁) E' s')
    (fin : ∀ D C m' ys (s' : Shared), J n ys → AllBare s'.gens → s'.os = s.os → Fr h₀ L s'.heap m → News h₀ L s'.heap ((D, LCg.lst ys) :: news) → s'.heap.Ns C m' → h₀.get? C = none → h₀.get? D = none → C ≠ L → D ≠ L → C ≠ D → (∀ p ∈ news, p.1 ≠ C ∧ p.1 ≠ D) → RR (.ref D) C (.ok .next) s') :
    wpAny (model prog w) A (pyIter (.ref r)) (fun it s₂ => wpAny (model prog w) A (newList []) (fun acc s₃ => wpAny (model prog w) A (newFunctionEnv scope env.globals [] [] env.qual none .none (some env)) (fun cenv s₄ =>
      codeAny (model prog w) A (.compStart (.ListComp elt [⟨.Name x px, iter, [ct], 0⟩] scope pos) 0 it acc { cenv with scope := relabel scope env }) (RR acc cenv.locals) s₄) E s₃) E s₂) E s := by
  subst hc1
  refine wpAny_pyIter_range hr hs ?_
  rw [hn]
  exact block_C J hh rfl (by simpa using Heap.get?_push_size _ rfl) hsz (Nat.ne_of_lt F.ns.lt) (next_is_new F) (fun p hp => Nat.ne_of_lt (Heap.lt_size (N p hp).1))
    (F.push _) (fun p hp => ⟨Heap.get?_push_of_some _ (N p hp).1, (N p hp).2⟩) G hJ hJl hp hcf hkind hx turn fin
end

end Mine
namespace Mine
local macro_rules | `(tactic| k_call_by "use" $g:term) => `(tactic| (k_here; k_dflt (refine' Cl.use $g ?k1 ?k2 ?k3 ?k4 ?k5 ?kK ?kp ?kd ?ku ?kR; (case k1 => k_asm); (case k2 => k_asm); (case k3 => k_asm); (case k4 => k_asm); (case k5 => k_asm); (case kK => first | exact rfl | assumption); (case kp => first | trivial | omega | ((try dsimp only); first | assumption | omega | l_fact)); (case kd => k_room); (case ku => k_units)); intro t9 h9 tk9 F9 N9; (try dsimp only); (try k_extra "fact use"); (try k_fold)))
local macro_rules | `(tactic| k_room) => `(tactic| ((simp only [depth_under_make, depth_under_kw, depth_in1, depth_deeper, depth_caller, recursionLimit] at *); omega))
local macro_rules | `(tactic| k_units) => `(tactic| ((have hcL9 := cLine_is); (simp only [units_in1, units_deeper, Around.mark_units, units_caller, cLine] at *); omega))
local macro_rules | `(tactic| walk_at "InvEndN") => `(tactic| first | k_extra "InvEndN" | k_dflt kst_close)
local macro_rules | `(tactic| walk_at "CompEnd") => `(tactic| k_dflt (refine LCg.CompEnd.intro (by assumption) (by assumption) _ (fun _ hp => hp) (by assumption) (by first | exact True.intro | exact Or.inl (Or.inl (by assumption)) | exact Or.inl (by assumption) | exact Or.inr ⟨_, .head _, rfl, _, rfl⟩ | exact Or.inr ⟨_, by k_mem, rfl, _, rfl⟩) ?_))
local macro_rules | `(tactic| k_call_by "enterC" $_g:term) => `(tactic| (refine' code_defC ?k1 ?k2 ?k3 ?k4 ?k5 ?kA ?kF ?kK ?k6 ?k7 ?k8 ?k9 ?kB ?kD ?_ ?c2 ?c3 ?c4; (case kA => exact rfl); (case kF => exact rfl); (case kK => assumption); (case k1 => k_asm); (case k2 => k_asm); (case k3 => k_asm); (case k4 => k_asm); (case k5 => k_asm); (case k6 => k_is); (case k7 => k_is); (case k8 => k_room); (case k9 => exact BindsTo.of_eq rfl); (case kB => exact rfl); (case kD => decide +kernel); (case c2 => exact rfl); (case c3 => exact rfl); (case c4 => exact rfl); k_whole; intro g' L' h' tk' cells' FG' F' N' Y' B' X' T' l1; have hOc9 := ownOff_cells l1; have kMark9 := kstMark; (try k_lt l1); k_cells Y'; (try simp only [List.cons_append, List.nil_append] at N'); (try dsimp only); (try k_lift B'); (try k_fold)))
local macro_rules | `(tactic| k_call_by "om" $_g:term) => `(tactic| ((repeat (rename (_ ≠ _ ∧ _ ≠ _ ∧ _ ≠ _) ∧ _ => o9; clear o9)); (repeat (rename _ ≠ _ ∧ _ ≠ _ ∧ _ ≠ _ => o9; clear o9)); (repeat (rename @Ne Nat _ _ => o9; clear o9)); omega))
local macro_rules | `(tactic| k_call_by "item" $h:term) => `(tactic| (k_here; (with_reducible rename News _ _ _ _ => myN9); k_dflt (refine' item_list_ints (News.isList (by with_reducible exact myN9) ?hm) $h ?h0 ?h1 ?h2 (fun tI9 => ?hQ)); (case hm => k_dflt k_mem); (case h0 => k_call_by "om" 0); (case h1 => k_call_by "om" 0); (case h2 => k_call_by "om" 0); (try k_fold)))
local macro_rules | `(tactic| k_call_by "enterD" $_g:term) => `(tactic| (refine' code_def ?k1 ?k2 ?k3 ?k4 ?k5 ?kA ?kF ?kK ?k6 ?k7 ?k8 ?k9 ?kB ?_ ?c2 ?c3 ?c4 ?c5; (case kA => exact rfl); (case kF => exact rfl); (case kK => assumption); (case k1 => k_asm); (case k2 => k_asm); (case k3 => k_asm); (case k4 => k_asm); (case k5 => k_asm); (case k6 => k_is); (case k7 => k_is); (case k8 => k_room); (case k9 => first | exact binds_K (by k_in) rfl (by k_is) rfl rfl rfl | exact BindsTo.of_eq rfl); (case c5 => decide); (case kB => exact locs rfl); (case c2 => exact rfl); (case c3 => exact rfl); (case c4 => exact rfl); k_whole; intro g' L' h' FG' F' N' B' X' T'; (try dsimp only); (try k_lift B'); (try k_fold)))
local macro_rules | `(tactic| k_call_by "itemN" $h:term) => `(tactic| (k_here; (with_reducible rename News _ _ _ _ => myN9); k_dflt (refine' item_list_ints_neg (News.isList (by with_reducible exact myN9) ?hm) $h ?h0 ?h1 ?h2 (fun tI9 => ?hQ)); (case hm => k_dflt k_mem); (case h0 => k_call_by "om" 0); (case h1 => k_call_by "om" 0); (case h2 => k_call_by "om" 0); (try k_fold)))

local macro_rules | `(tactic| k_call_by "useL" $g:term) => `(tactic| (k_here; k_dflt (refine' ClL.use $g ?k1 ?k2 ?k3 ?k4 ?k5 ?kK ?kp ?kd ?ku ?kR; (case k1 => k_asm); (case k2 => k_asm); (case k3 => k_asm); (case k4 => k_asm); (case k5 => k_asm); (case kK => first | exact rfl | assumption); (case kp => first | trivial | omega | ((try dsimp only); first | assumption | omega | l_fact)); (case kd => k_room); (case ku => k_units)); intro D9 ws9 ns9 nn9 h9 tk9 F9 N9 l9 hI9 hR9; (try simp only [AllLt, LCg.Off1, and_true] at l9); (try dsimp only); (try k_extra "fact useL"); (try k_fold)))

section
variable {M : Model} {prog : Program} {w : World} {A : Around} {E : Value → Shared → Prop} {s s' : Shared} {h₀ : Heap} {L C D : Addr} {m m' : Str → Option Value} {env : Env} {ys : List Value} {news : List (Addr × Obj)}
theorem cp_none {Q : Value → Shared → Prop} (hns : s'.heap.Ns C m') (F : Fr h₀ L s'.heap m) (N : News h₀ L s'.heap ((D, LCg.lst ys) :: news)) (hC₀ : h₀.get? C = none) (hCL : C ≠ L) (hCD : C ≠ D) (off : ∀ p ∈ news, p.1 ≠ C)
    (k : ∀ h'', Fr h₀ L h'' m → News h₀ L h'' ((D, LCg.lst ys) :: news) → Q (.ref D) { s' with heap := h'' }) : compPost M A E none Q (.ref D) C (.ok .next) s' :=
  ⟨m', hns, fun h'' hs'' => k h'' (F.change hs'' hCL hC₀) fun p hp => ⟨hs''.extBut _ _ (by
    rcases List.mem_cons.mp hp with rfl | hp
    · exact Ne.symm hCD
    · exact off p hp) (N p hp).1, (N p hp).2⟩⟩
theorem cp_some {y : Str} {py : Pos} {Q : Value → Shared → Prop} (hL : env.locals = L) (hy : env.kindOf y = some .local) (hp : (env.scope.kind == .class || (env.scope.kind == .module && env.locals != env.globals)) = false)
    (hns : s'.heap.Ns C m') (F : Fr h₀ L s'.heap m) (N : News h₀ L s'.heap ((D, LCg.lst ys) :: news)) (hC₀ : h₀.get? C = none) (hCL : C ≠ L) (hCD : C ≠ D) (off : ∀ p ∈ news, p.1 ≠ C)
    (k : ∀ h'' tk, Fr h₀ L h'' (fun z => if z = y then some (.ref D) else m z) → News h₀ L h'' ((D, LCg.lst ys) :: news) → Q .none { s' with heap := h'', toks := tk }) : compPost (model prog w) A E (some (assign (.Name y py) env)) Q (.ref D) C (.ok .next) s' := by
  subst hL
  show wpAny _ A (assign (.Name y py) env (.ref D)) _ _ _
  refine wpAny_assign_Name (wpAny_storeName_local hy F.ns (fun h₂ hn₂ hs₂ => ?_) hp)
  have hL₀ : h₀.get? env.locals = none := Heap.get?_none_of_le F.above
  have F₂ : Fr h₀ env.locals h₂ (fun z => if z = y then some (.ref D) else m z) := ⟨hn₂, fun b o e => hs₂.extBut b o (fun q => by rw [q, hL₀] at e; cases e) (F.keep b o e), F.above⟩
  refine ⟨m', hns.sameBut hs₂ hCL, fun h'' hs'' => k h'' _ (F₂.change hs'' hCL hC₀) (fun p hp => ?_)⟩
  have z : h₂.get? p.1 = some p.2 := hs₂.extBut _ _ (N p hp).2.1 (N p hp).1
  refine ⟨hs''.extBut _ _ ?_ z, (N p hp).2⟩
  rcases List.mem_cons.mp hp with rfl | hp
  · exact Ne.symm hCD
  · exact off p hp
theorem comp_eval {ct elt iter : Expr} {x : Str} {px : Pos} {scope : Scope} {cl : List (Str × Addr)} {pos : Pos} {Q : Value → Shared → Prop}
    (hclos : closureFor scope env = pure cl) (hkind : scope.kind = .function) (hnames : ∀ y ∈ scope.names, y.2 = .local → scope.names.lookup y.1 = some .local)
    (h : wpAny (model prog w) A (eval iter env) (fun xv s₁ => wpAny (model prog w) A (pyIter xv) (fun it s₂ => wpAny (model prog w) A (newList []) (fun acc s₃ => wpAny (model prog w) A (newFunctionEnv scope env.globals cl [] env.qual none .none (some env)) (fun cenv s₄ =>
      codeAny (model prog w) A (.compStart (.ListComp elt [⟨.Name x px, iter, [ct], 0⟩] scope pos) 0 it acc { cenv with scope := relabel scope env }) (compPost (model prog w) A E none Q acc cenv.locals) s₄) E s₃) E s₂) E s₁) E s)
    (hs : ∀ x, foldedSetIterable iter env x = pure x := by intro _; rfl) :
    wpAny (model prog w) A (eval (.ListComp elt [⟨.Name x px, iter, [ct], 0⟩] scope pos) env) Q E s := by
  rw [eval_ListComp]
  exact wpAny_comprehension_free (use := none) rfl hs hclos hkind hnames h
theorem comp_assign {ct elt iter : Expr} {x y : Str} {px py : Pos} {scope : Scope} {cl : List (Str × Addr)} {pos spos : Pos} {Q : Flow → Shared → Prop}
    (hsw : swapsWith (.ListComp elt [⟨.Name x px, iter, [ct], 0⟩] scope pos) (some (.Name y py)) spos.line env = pure true)
    (hclos : closureFor scope env = pure cl) (hkind : scope.kind = .function) (hnames : ∀ y ∈ scope.names, y.2 = .local → scope.names.lookup y.1 = some .local)
    (h : wpAny (model prog w) A (eval iter env) (fun xv s₁ => wpAny (model prog w) A (pyIter xv) (fun it s₂ => wpAny (model prog w) A (newList []) (fun acc s₃ => wpAny (model prog w) A (newFunctionEnv scope env.globals cl [] env.qual none .none (some env)) (fun cenv s₄ =>
      codeAny (model prog w) A (.compStart (.ListComp elt [⟨.Name x px, iter, [ct], 0⟩] scope pos) 0 it acc { cenv with scope := relabel scope env }) (compPost (model prog w) A E (some (assign (.Name y py) env)) (fun _ s' => Q .next s') acc cenv.locals) s₄) E s₃) E s₂) E s₁) E s)
    (hs : ∀ x, foldedSetIterable iter env x = pure x := by intro _; rfl) :
    wpAny (model prog w) A (exec (.Assign [.Name y py] (.ListComp elt [⟨.Name x px, iter, [ct], 0⟩] scope pos) spos) env) Q E s := by
  rw [exec_Assign_Name_used _ _ _ _ hsw]
  refine wpAny_bind (wpAny_standAt (wpAny_bind ?_))
  show wpAny _ A (do let _ ← comprehension (.ListComp elt [⟨.Name x px, iter, [ct], 0⟩] scope pos) scope env _ (newList []) false (eval iter env) (some (assign (.Name y py) env))) _ _ s
  exact wpAny_bind (wpAny_mono (wpAny_comprehension_free (use := some (assign (.Name y py) env)) (Q := fun _ s' => Q .next s') rfl hs hclos hkind hnames h) (fun _ s' hq => wpAny_pure (wpAny_pure hq)) fun _ _ e => e)
end

end Mine
namespace Mine
local macro_rules | `(tactic| k_call_by "use" $g:term) => `(tactic| (k_here; k_dflt (refine' Cl.use $g ?k1 ?k2 ?k3 ?k4 ?k5 ?kK ?kp ?kd ?ku ?kR; (case k1 => k_asm); (case k2 => k_asm); (case k3 => k_asm); (case k4 => k_asm); (case k5 => k_asm); (case kK => first | exact rfl | assumption); (case kp => first | trivial | omega | ((try dsimp only); first | assumption | omega | l_fact)); (case kd => k_room); (case ku => k_units)); intro t9 h9 tk9 F9 N9; (try dsimp only); (try k_extra "fact use"); (try k_fold)))
local macro_rules | `(tactic| k_room) => `(tactic| ((simp only [depth_under_make, depth_under_kw, depth_in1, depth_deeper, depth_caller, recursionLimit] at *); omega))
local macro_rules | `(tactic| k_units) => `(tactic| ((have hcL9 := cLine_is); (simp only [units_in1, units_deeper, Around.mark_units, units_caller, cLine] at *); omega))
local macro_rules | `(tactic| walk_at "InvEndN") => `(tactic| first | k_extra "InvEndN" | k_dflt kst_close)
local macro_rules | `(tactic| walk_at "CompEnd") => `(tactic| k_dflt (refine LCg.CompEnd.intro (by assumption) (by assumption) _ (fun _ hp => hp) (by assumption) (by first | exact True.intro | exact Or.inl (Or.inl (by assumption)) | exact Or.inl (by assumption) | exact Or.inr ⟨_, .head _, rfl, _, rfl⟩ | exact Or.inr ⟨_, by k_mem, rfl, _, rfl⟩) ?_))
local macro_rules | `(tactic| k_call_by "enterC" $_g:term) => `(tactic| (refine' code_defC ?k1 ?k2 ?k3 ?k4 ?k5 ?kA ?kF ?kK ?k6 ?k7 ?k8 ?k9 ?kB ?kD ?_ ?c2 ?c3 ?c4; (case kA => exact rfl); (case kF => exact rfl); (case kK => assumption); (case k1 => k_asm); (case k2 => k_asm); (case k3 => k_asm); (case k4 => k_asm); (case k5 => k_asm); (case k6 => k_is); (case k7 => k_is); (case k8 => k_room); (case k9 => exact BindsTo.of_eq rfl); (case kB => exact rfl); (case kD => decide +kernel); (case c2 => exact rfl); (case c3 => exact rfl); (case c4 => exact rfl); k_whole; intro g' L' h' tk' cells' FG' F' N' Y' B' X' T' l1; have hOc9 := ownOff_cells l1; have kMark9 := kstMark; (try k_lt l1); k_cells Y'; (try simp only [List.cons_append, List.nil_append] at N'); (try dsimp only); (try k_lift B'); (try k_fold)))
local macro_rules | `(tactic| k_call_by "om" $_g:term) => `(tactic| ((repeat (rename (_ ≠ _ ∧ _ ≠ _ ∧ _ ≠ _) ∧ _ => o9; clear o9)); (repeat (rename _ ≠ _ ∧ _ ≠ _ ∧ _ ≠ _ => o9; clear o9)); (repeat (rename @Ne Nat _ _ => o9; clear o9)); omega))
local macro_rules | `(tactic| k_call_by "item" $h:term) => `(tactic| (k_here; (with_reducible rename News _ _ _ _ => myN9); k_dflt (refine' item_list_ints (News.isList (by with_reducible exact myN9) ?hm) $h ?h0 ?h1 ?h2 (fun tI9 => ?hQ)); (case hm => k_dflt k_mem); (case h0 => k_call_by "om" 0); (case h1 => k_call_by "om" 0); (case h2 => k_call_by "om" 0); (try k_fold)))
local macro_rules | `(tactic| k_call_by "enterD" $_g:term) => `(tactic| (refine' code_def ?k1 ?k2 ?k3 ?k4 ?k5 ?kA ?kF ?kK ?k6 ?k7 ?k8 ?k9 ?kB ?_ ?c2 ?c3 ?c4 ?c5; (case kA => exact rfl); (case kF => exact rfl); (case kK => assumption); (case k1 => k_asm); (case k2 => k_asm); (case k3 => k_asm); (case k4 => k_asm); (case k5 => k_asm); (case k6 => k_is); (case k7 => k_is); (case k8 => k_room); (case k9 => first | exact binds_K (by k_in) rfl (by k_is) rfl rfl rfl | exact BindsTo.of_eq rfl); (case c5 => decide); (case kB => exact locs rfl); (case c2 => exact rfl); (case c3 => exact rfl); (case c4 => exact rfl); k_whole; intro g' L' h' FG' F' N' B' X' T'; (try dsimp only); (try k_lift B'); (try k_fold)))
local macro_rules | `(tactic| k_call_by "itemN" $h:term) => `(tactic| (k_here; (with_reducible rename News _ _ _ _ => myN9); k_dflt (refine' item_list_ints_neg (News.isList (by with_reducible exact myN9) ?hm) $h ?h0 ?h1 ?h2 (fun tI9 => ?hQ)); (case hm => k_dflt k_mem); (case h0 => k_call_by "om" 0); (case h1 => k_call_by "om" 0); (case h2 => k_call_by "om" 0); (try k_fold)))

local macro_rules | `(tactic| k_call_by "useL" $g:term) => `(tactic| (k_here; k_dflt (refine' ClL.use $g ?k1 ?k2 ?k3 ?k4 ?k5 ?kK ?kp ?kd ?ku ?kR; (case k1 => k_asm); (case k2 => k_asm); (case k3 => k_asm); (case k4 => k_asm); (case k5 => k_asm); (case kK => first | exact rfl | assumption); (case kp => first | trivial | omega | ((try dsimp only); first | assumption | omega | l_fact)); (case kd => k_room); (case ku => k_units)); intro D9 ws9 ns9 nn9 h9 tk9 F9 N9 l9 hI9 hR9; (try simp only [AllLt, LCg.Off1, and_true] at l9); (try dsimp only); (try k_extra "fact useL"); (try k_fold)))

theorem range_snoc (a : Int) (i : Nat) : rangeKs a (i + 1) = rangeKs a i ++ [a + (i : Int)] := by
  unfold rangeKs; rw [List.range_succ, List.map_append]; rfl
theorem rf_yes {p : Int → Bool} {a k : Int} {i : Nat} {ys : List Value} {t : Tok} (h : IntsAre ys ((rangeKs a i).filter p)) (hk : k = a + (i : Int)) (hp : p k = true) : IntsAre (ys ++ [.int k t]) ((rangeKs a (i + 1)).filter p) := by
  subst hk
  rw [range_snoc, List.filter_append, List.filter_cons_of_pos hp, List.filter_nil]; exact ints_snoc h _ _
theorem rf_no {p : Int → Bool} {a k : Int} {i : Nat} {ys : List Value} (h : IntsAre ys ((rangeKs a i).filter p)) (hk : k = a + (i : Int)) (hp : p k = false) : IntsAre ys ((rangeKs a (i + 1)).filter p) := by
  subst hk
  rw [range_snoc, List.filter_append, List.filter_cons_of_neg (by simp [hp]), List.filter_nil, List.append_nil]; exact h
theorem rf_len {p : Int → Bool} {a : Int} {i : Nat} {ys : List Value} (h : IntsAre ys ((rangeKs a i).filter p)) : ys.length ≤ i := by
  rw [h.length]; exact Nat.le_trans (List.length_filter_le _ _) (Nat.le_of_eq (rangeKs_length a i))
theorem prB_eq (k : Int) : ((List.filter (fun a => decide (a * a ≤ k)) (rangeInts 2 1 (11 - 2 : Int).toNat)).all fun a => decide (0 < k.fmod a)) = prB k := by
  unfold prB
  rw [show rangeInts 2 1 (11 - 2 : Int).toNat = rangeKs 2 9 by decide]
theorem c_end {h₀ : Heap} {L : Addr} {m : Str → Option Value} {news all : List (Addr × Obj)} {J : List Value → Prop} {I : Addr} {oI : Obj} {C : Addr} {oC : Obj} {D Kc : Addr} {ys ys' : List Value} {s₁ s₂ : Shared} {oK : Obj} {v : Option Value}
    (F : Fr h₀ L s₂.heap m) (N : News h₀ L s₂.heap all) (sub : ∀ q ∈ (I, oI) :: (C, oC) :: (D, LCg.lst ys) :: (Kc, oK) :: news, q ∈ all) (hd : oK.data = .cell v) (G : AllBare s₂.gens) (hos : s₂.os = s₁.os) (j : J ys') : CEnd h₀ L m news J I oI C oC D Kc ys ys' s₁ s₂ :=
  ⟨oK, v, F, fun q hq => N q (sub q hq), hd, G, hos, j⟩
theorem news_front {h g : Heap} {L : Addr} {pre post : List (Addr × Obj)} {x : Addr × Obj} (N : News h L g (pre ++ x :: post)) : News h L g (x :: (pre ++ post)) := fun p hp => N p (by
  simp only [List.mem_cons, List.mem_append] at hp ⊢
  rcases hp with h | h | h
  · exact .inr (.inl h)
  · exact .inl h
  · exact .inr (.inr h))
theorem news_tb {h g : Heap} {L : Addr} {a b c : Addr × Obj} {x r : List (Addr × Obj)} (N : News h L g (a :: b :: c :: (x ++ r))) : News h L g (x ++ (a :: b :: c :: r)) := fun p hp => N p (by
  simp only [List.mem_cons, List.mem_append] at hp ⊢
  rcases hp with h | h | h | h | h
  · exact .inr (.inr (.inr (.inl h)))
  · exact .inl h
  · exact .inr (.inl h)
  · exact .inr (.inr (.inl h))
  · exact .inr (.inr (.inr (.inr h))))
theorem news_tb' {h g : Heap} {L : Addr} {a b c : Addr × Obj} {x r : List (Addr × Obj)} (N : News h L g (x ++ (a :: b :: c :: r))) : News h L g (a :: b :: c :: (x ++ r)) := fun p hp => N p (by
  simp only [List.mem_cons, List.mem_append] at hp ⊢
  rcases hp with h | h | h | h | h
  · exact .inr (.inl h)
  · exact .inr (.inr (.inl h))
  · exact .inr (.inr (.inr (.inl h)))
  · exact .inl h
  · exact .inr (.inr (.inr (.inr h))))
theorem news_back3 {h g : Heap} {L : Addr} {a b c x : Addr × Obj} {r : List (Addr × Obj)} (N : News h L g (x :: a :: b :: c :: r)) : News h L g (a :: b :: c :: x :: r) := fun p hp => N p (by
  simp only [List.mem_cons] at hp ⊢
  rcases hp with h | h | h | h | h
  · exact .inr (.inl h)
  · exact .inr (.inr (.inl h))
  · exact .inr (.inr (.inr (.inl h)))
  · exact .inl h
  · exact .inr (.inr (.inr (.inr h))))
theorem tb_split {h g : Heap} {L : Addr} {x : Addr × Obj} {r : List (Addr × Obj)} {z : TbS} (N : News h L g (x :: (tbL z ++ r))) : ∃ p1, News h L g (x :: (93, tabObj p1) :: r) := by
  cases z with
  | none => exact ⟨_, N⟩
  | some q =>
    obtain ⟨c, oc⟩ := q
    refine ⟨#[rawInt 87, rawInt 4, .ref c], fun p hp => N p ?_⟩
    rcases List.mem_cons.mp hp with h | h
    · exact h ▸ List.mem_cons_self
    · rcases List.mem_cons.mp h with h | h
      · exact h ▸ List.mem_cons_of_mem _ (List.mem_append_left _ List.mem_cons_self)
      · exact List.mem_cons_of_mem _ (List.mem_append_right _ h)
theorem tb_93 {z : TbS} : ∃ o, (93, o) ∈ tbL z := by
  cases z with
  | none => exact ⟨_, List.mem_cons_self⟩
  | some q => exact ⟨_, List.mem_cons_self⟩
theorem off_tb {I C D : Addr} {oI oC oD : Obj} {r : List (Addr × Obj)} {z z' : TbS} (off : LCg.Off3 I C D (tbL z ++ r)) (nw : tbNew z z' ((I, oI) :: (C, oC) :: (D, oD) :: r)) : LCg.Off3 I C D (tbL z' ++ r) := by
  rcases nw with rfl | ⟨c, oc, rfl, h1, h2⟩
  · exact off
  · obtain ⟨o, ho⟩ := @tb_93 z
    have h93 := off.mem _ (List.mem_append_left r ho)
    have hI : I < c := allLt_mem h2 (I, oI) List.mem_cons_self
    have hC : C < c := allLt_mem h2 (C, oC) (List.mem_cons_of_mem _ List.mem_cons_self)
    have hD : D < c := allLt_mem h2 (D, oD) (List.mem_cons_of_mem _ (List.mem_cons_of_mem _ List.mem_cons_self))
    refine LCg.Off3.of fun p hp => ?_
    rcases List.mem_append.mp hp with hp | hp
    · simp only [tbL, List.mem_cons, List.not_mem_nil, or_false] at hp
      rcases hp with rfl | rfl
      · exact h93
      · exact ⟨Nat.ne_of_gt hI, Nat.ne_of_gt hC, Nat.ne_of_gt hD⟩
    · exact off.mem p (List.mem_append_right _ hp)
theorem oo_cons {x : Addr × Obj} {r : List (Addr × Obj)} {a : Addr} (h : x.1 ≠ a) (t : OwnOff r [a]) : OwnOff (x :: r) [a] := fun q hq b hb => by
  rw [List.mem_singleton.mp hb]
  rcases List.mem_cons.mp hq with rfl | hq
  · exact h
  · exact t q hq a (.head _)
theorem oo_off {I C D : Addr} {oI oC oD : Obj} {r pre : List (Addr × Obj)} {a : Addr} {o : Obj} (off : LCg.Off3 I C D (pre ++ r)) (hm : (a, o) ∈ pre) (t : OwnOff r [a]) : OwnOff ((I, oI) :: (C, oC) :: (D, oD) :: r) [a] := by
  have h := off.mem _ (List.mem_append_left r hm)
  exact oo_cons (Ne.symm h.1) (oo_cons (Ne.symm h.2.1) (oo_cons (Ne.symm h.2.2) t))
theorem g_end {σ : Type} {h₀ : Heap} {L : Addr} {m : Str → Option Value} {Led : σ → List (Addr × Obj)} {J : List Value → σ → Prop} {I : Addr} {oI : Obj} {C : Addr} {oC : Obj} {D : Addr} {ys ys' : List Value} {s₁ s₂ : Shared} (z : σ)
    (F : Fr h₀ L s₂.heap m) (N : News h₀ L s₂.heap ((I, oI) :: (C, oC) :: (D, LCg.lst ys) :: Led z)) (off : LCg.Off3 I C D (Led z)) (G : AllBare s₂.gens) (hos : s₂.os = s₁.os) (j : J ys' z) : GEnd h₀ L m Led J I oI C oC D ys ys' s₁ s₂ := ⟨z, F, N, off, G, hos, j⟩
section
variable {w : World} {p : Program} {loose : List Str} {mean : ExcName → Option Value} {mg mb : Str → Option Value} {rest : List (Addr × Obj)} {ps : Array Value} {dp un : Nat} {gd : Option (List Code)} {cn : Str} {cs : Scope} {a : Addr} {ccd : Value} {cl : List (Str × Addr)} {outer : List Env} {A₀ : Around} {base h₀ : Heap} {L : Addr} {m : Str → Option Value} {s : Shared} {Q E : Value → Shared → Prop} {D : Nat} {f : Addr} {vs : List Value} {z : TbS} {pre : Prop} {R : Tok → Value}
theorem ClP.use (h : ClP D f vs z pre R) (k1 : Below A₀ base outer h₀) (k2 : Fr h₀ L s.heap m) (k3 : (hd.heap_39 w.params).In h₀) (k4 : News h₀ L s.heap (tbL z ++ rest)) (k5 : tbOk z) (k6 : OwnOff rest [93]) (k7 : CodeHd h₀ 97 93) (k8 : Top p loose mean mg mb h₀) (k9 : cs.kind = .function) (k10 : pre) (k11 : dp + D < recursionLimit) (k12 : un + 8 * D < cLine)
    (k13 : ∀ (t : Tok) (z' : TbS) (h' : Heap) (tk' : Nat), Fr h₀ L h' m → News h₀ L h' (tbL z' ++ rest) → tbOk z' → tbNew z z' rest → Q (R t) { s with heap := h', toks := tk' }) :
    wpAny (model PySem.Challenge.rw_ah5004_01.row.prog w) (ktrTop dp un gd cn cs L a ccd cl outer) (call (.ref f) vs) Q E s :=
  h w p loose mean mg mb rest dp un gd cn cs a ccd cl outer A₀ base h₀ L m s Q E k1 k2 k3 k4 k5 k6 k7 k8 k9 k10 k11 k12 k13
theorem ClM.use (h : ClM D f vs pre R) (k1 : Below A₀ base outer h₀) (k2 : Fr h₀ L s.heap m) (k3 : (hd.heap_39 w.params).In h₀) (k4 : News h₀ L s.heap ((100, tabObj ps) :: rest)) (k5 : tbMOk moPos ps) (k6 : OwnOff rest [100]) (k7 : AllBare s.gens) (k8 : CodeHd h₀ 104 100) (k9 : Top p loose mean mg mb h₀) (k10 : cs.kind = .function) (k11 : pre) (k12 : dp + D < recursionLimit) (k13 : un + 8 * D < cLine)
    (k14 : ∀ (t : Tok) (ps' : Array Value) (s' : Shared), Fr h₀ L s'.heap m → News h₀ L s'.heap ((100, tabObj ps') :: rest) → tbMOk moPos ps' → AllBare s'.gens → s'.os = s.os → Q (R t) s') :
    wpAny (model PySem.Challenge.rw_ah5004_01.row.prog w) (ktrTop dp un gd cn cs L a ccd cl outer) (call (.ref f) vs) Q E s :=
  h w p loose mean mg mb rest ps dp un gd cn cs a ccd cl outer A₀ base h₀ L m s Q E k1 k2 k3 k4 k5 k6 k7 k8 k9 k10 k11 k12 k13 k14
end

end Mine
namespace Mine
local macro_rules | `(tactic| k_call_by "use" $g:term) => `(tactic| (k_here; k_dflt (refine' Cl.use $g ?k1 ?k2 ?k3 ?k4 ?k5 ?kK ?kp ?kd ?ku ?kR; (case k1 => k_asm); (case k2 => k_asm); (case k3 => k_asm); (case k4 => k_asm); (case k5 => k_asm); (case kK => first | exact rfl | assumption); (case kp => first | trivial | omega | ((try dsimp only); first | assumption | omega | l_fact)); (case kd => k_room); (case ku => k_units)); intro t9 h9 tk9 F9 N9; (try dsimp only); (try k_extra "fact use"); (try k_fold)))
local macro_rules | `(tactic| k_room) => `(tactic| ((simp only [depth_under_make, depth_under_kw, depth_in1, depth_deeper, depth_caller, recursionLimit] at *); omega))
local macro_rules | `(tactic| k_units) => `(tactic| ((have hcL9 := cLine_is); (simp only [units_in1, units_deeper, Around.mark_units, units_caller, cLine] at *); omega))
local macro_rules | `(tactic| walk_at "InvEndN") => `(tactic| first | k_extra "InvEndN" | k_dflt kst_close)
local macro_rules | `(tactic| walk_at "CompEnd") => `(tactic| k_dflt (refine LCg.CompEnd.intro (by assumption) (by assumption) _ (fun _ hp => hp) (by assumption) (by first | exact True.intro | exact Or.inl (Or.inl (by assumption)) | exact Or.inl (by assumption) | exact Or.inr ⟨_, .head _, rfl, _, rfl⟩ | exact Or.inr ⟨_, by k_mem, rfl, _, rfl⟩) ?_))
local macro_rules | `(tactic| k_call_by "enterC" $_g:term) => `(tactic| (refine' code_defC ?k1 ?k2 ?k3 ?k4 ?k5 ?kA ?kF ?kK ?k6 ?k7 ?k8 ?k9 ?kB ?kD ?_ ?c2 ?c3 ?c4; (case kA => exact rfl); (case kF => exact rfl); (case kK => assumption); (case k1 => k_asm); (case k2 => k_asm); (case k3 => k_asm); (case k4 => k_asm); (case k5 => k_asm); (case k6 => k_is); (case k7 => k_is); (case k8 => k_room); (case k9 => exact BindsTo.of_eq rfl); (case kB => exact rfl); (case kD => decide +kernel); (case c2 => exact rfl); (case c3 => exact rfl); (case c4 => exact rfl); k_whole; intro g' L' h' tk' cells' FG' F' N' Y' B' X' T' l1; have hOc9 := ownOff_cells l1; have kMark9 := kstMark; (try k_lt l1); k_cells Y'; (try simp only [List.cons_append, List.nil_append] at N'); (try dsimp only); (try k_lift B'); (try k_fold)))
local macro_rules | `(tactic| k_call_by "om" $_g:term) => `(tactic| ((repeat (rename (_ ≠ _ ∧ _ ≠ _ ∧ _ ≠ _) ∧ _ => o9; clear o9)); (repeat (rename _ ≠ _ ∧ _ ≠ _ ∧ _ ≠ _ => o9; clear o9)); (repeat (rename @Ne Nat _ _ => o9; clear o9)); omega))
local macro_rules | `(tactic| k_call_by "item" $h:term) => `(tactic| (k_here; (with_reducible rename News _ _ _ _ => myN9); k_dflt (refine' item_list_ints (News.isList (by with_reducible exact myN9) ?hm) $h ?h0 ?h1 ?h2 (fun tI9 => ?hQ)); (case hm => k_dflt k_mem); (case h0 => k_call_by "om" 0); (case h1 => k_call_by "om" 0); (case h2 => k_call_by "om" 0); (try k_fold)))
local macro_rules | `(tactic| k_call_by "enterD" $_g:term) => `(tactic| (refine' code_def ?k1 ?k2 ?k3 ?k4 ?k5 ?kA ?kF ?kK ?k6 ?k7 ?k8 ?k9 ?kB ?_ ?c2 ?c3 ?c4 ?c5; (case kA => exact rfl); (case kF => exact rfl); (case kK => assumption); (case k1 => k_asm); (case k2 => k_asm); (case k3 => k_asm); (case k4 => k_asm); (case k5 => k_asm); (case k6 => k_is); (case k7 => k_is); (case k8 => k_room); (case k9 => first | exact binds_K (by k_in) rfl (by k_is) rfl rfl rfl | exact BindsTo.of_eq rfl); (case c5 => decide); (case kB => exact locs rfl); (case c2 => exact rfl); (case c3 => exact rfl); (case c4 => exact rfl); k_whole; intro g' L' h' FG' F' N' B' X' T'; (try dsimp only); (try k_lift B'); (try k_fold)))
local macro_rules | `(tactic| k_call_by "itemN" $h:term) => `(tactic| (k_here; (with_reducible rename News _ _ _ _ => myN9); k_dflt (refine' item_list_ints_neg (News.isList (by with_reducible exact myN9) ?hm) $h ?h0 ?h1 ?h2 (fun tI9 => ?hQ)); (case hm => k_dflt k_mem); (case h0 => k_call_by "om" 0); (case h1 => k_call_by "om" 0); (case h2 => k_call_by "om" 0); (try k_fold)))

local macro_rules | `(tactic| k_call_by "useL" $g:term) => `(tactic| (k_here; k_dflt (refine' ClL.use $g ?k1 ?k2 ?k3 ?k4 ?k5 ?kK ?kp ?kd ?ku ?kR; (case k1 => k_asm); (case k2 => k_asm); (case k3 => k_asm); (case k4 => k_asm); (case k5 => k_asm); (case kK => first | exact rfl | assumption); (case kp => first | trivial | omega | ((try dsimp only); first | assumption | omega | l_fact)); (case kd => k_room); (case ku => k_units)); intro D9 ws9 ns9 nn9 h9 tk9 F9 N9 l9 hI9 hR9; (try simp only [AllLt, LCg.Off1, and_true] at l9); (try dsimp only); (try k_extra "fact useL"); (try k_fold)))

theorem rm_yes {p : Int → Bool} {a k : Int} {i : Nat} {ys : List Value} {t : Tok} (h : IntsAre ys (((rangeKs a i).filter p).map mob)) (hk : k = a + (i : Int)) (hp : p k = true) : IntsAre (ys ++ [.int (mob k) t]) (((rangeKs a (i + 1)).filter p).map mob) := by
  subst hk
  rw [range_snoc, List.filter_append, List.filter_cons_of_pos hp, List.filter_nil, List.map_append]; exact ints_snoc h _ _
theorem rm_no {p : Int → Bool} {a k : Int} {i : Nat} {ys : List Value} (h : IntsAre ys (((rangeKs a i).filter p).map mob)) (hk : k = a + (i : Int)) (hp : p k = false) : IntsAre ys (((rangeKs a (i + 1)).filter p).map mob) := by
  subst hk
  rw [range_snoc, List.filter_append, List.filter_cons_of_neg (by simp [hp]), List.filter_nil, List.append_nil]; exact h
theorem rm_len {p : Int → Bool} {a : Int} {i : Nat} {ys : List Value} (h : IntsAre ys (((rangeKs a i).filter p).map mob)) : ys.length ≤ i := by
  rw [h.length, List.length_map]; exact Nat.le_trans (List.length_filter_le _ _) (Nat.le_of_eq (rangeKs_length a i))
abbrev muP (few : Int) : Int → Bool := fun k => decide (few.fmod k = 0)
theorem mu_sum0 : ∀ f : Nat, f < 31 → 1 ≤ f → (((rangeKs 1 ((f : Int) + 1 - 1).toNat).filter (muP f)).map mob).sum = if f = 1 then 1 else 0 := by decide +kernel
theorem mu_sum (few : Int) (h1 : 1 ≤ few) (h2 : few ≤ 30) : (((rangeKs 1 (few + 1 - 1).toNat).filter (muP few)).map mob).sum = if few = 1 then 1 else 0 := by
  have := mu_sum0 few.toNat (by omega) (by omega)
  rw [show ((few.toNat : Nat) : Int) = few by omega] at this
  rw [this]
  by_cases h : few = 1
  · rw [if_pos h, if_pos (by omega)]
  · rw [if_neg h, if_neg (by omega)]
theorem mu_sq0 : ∀ f : Nat, f < 31 → 1 ≤ f → mob ((f : Int) * f) = if f = 1 then 1 else 0 := by decide +kernel
theorem mu_sq (few : Int) (h1 : 1 ≤ few) (h2 : few ≤ 30) : mob (few * few) = if few = 1 then 1 else 0 := by
  have := mu_sq0 few.toNat (by omega) (by omega)
  rw [show ((few.toNat : Nat) : Int) = few by omega] at this
  rw [this]
  by_cases h : few = 1
  · rw [if_pos h, if_pos (by omega)]
  · rw [if_neg h, if_neg (by omega)]
theorem pr_two0 : ∀ n : Nat, n < 120 → prList n = (rangeKs 2 ((n : Int) + 1 - 2).toNat).filter prB ∧ (rangeKs (-3) ((n : Int) + 1 - -3).toNat).filter isPV = prList n := by decide +kernel
theorem pr_two (n : Int) (h0 : 0 ≤ n) (h1 : n ≤ 119) : prList n = (rangeKs 2 (n + 1 - 2).toNat).filter prB ∧ (rangeKs (-3) (n + 1 - -3).toNat).filter isPV = prList n := by
  have := pr_two0 n.toNat (by omega)
  rwa [show ((n.toNat : Nat) : Int) = n by omega] at this
theorem ref_a {n : Int} {ns : List Int} (h0 : 0 ≤ n) (h1 : n ≤ 119) (h : ns = prList n) : ns = (rangeKs 2 (n + 1 - 2).toNat).filter prB := h.trans (pr_two n h0 h1).1
theorem ref_b {n : Int} (h0 : 0 ≤ n) (h1 : n ≤ 119) : (rangeKs (-3) (n + 1 - -3).toNat).filter isPV = (rangeKs 2 (n + 1 - 2).toNat).filter prB := (pr_two n h0 h1).2.trans (pr_two n h0 h1).1
theorem mu_s1 {few : Int} (h1 : 1 ≤ few) (h2 : few ≤ 30) (h : few = 1) : (((rangeKs 1 (few + 1 - 1).toNat).filter (muP few)).map mob).sum = 1 := by rw [mu_sum few h1 h2, if_pos h]
theorem mu_s0 {few : Int} (h1 : 1 ≤ few) (h2 : few ≤ 30) (h : few ≠ 1) : (((rangeKs 1 (few + 1 - 1).toNat).filter (muP few)).map mob).sum = 0 := by rw [mu_sum few h1 h2, if_neg h]
theorem mu_q1 {few : Int} (h1 : 1 ≤ few) (h2 : few ≤ 30) (h : few = 1) : (mob (few * few) == 1) = true := by rw [mu_sq few h1 h2, if_pos h]; rfl
theorem mu_q0 {few : Int} (h1 : 1 ≤ few) (h2 : few ≤ 30) (h : few ≠ 1) : (mob (few * few) == 0) = true := by rw [mu_sq few h1 h2, if_neg h]; rfl
theorem pri_end {h₀ : Heap} {L : Addr} {m : Str → Option Value} {s s' : Shared} {Q : Value → Shared → Prop} {b : Bool} {rest all : List (Addr × Obj)} {p1 p2 : Array Value}
    (hret : ∀ (t : Tok) (p1 p2 : Array Value) (s' : Shared), Fr h₀ L s'.heap m → News h₀ L s'.heap ((93, tabObj p1) :: (100, tabObj p2) :: rest) → AllBare s'.gens → s'.os = s.os → Q (.bool true) s')
    (e : b = true) (F : Fr h₀ L s'.heap m) (N : News h₀ L s'.heap all) (sub : ∀ q ∈ (93, tabObj p1) :: (100, tabObj p2) :: rest, q ∈ all) (G : AllBare s'.gens) (hos : s'.os = s.os) : Q (.bool b) s' := by
  subst e
  exact hret 0 p1 p2 s' F (fun q hq => N q (sub q hq)) G hos
theorem ne93 : @Ne Nat 93 100 := by decide
theorem ne100 : @Ne Nat 100 93 := by decide
theorem sq_bd {few : Int} (h1 : 1 ≤ few) (h2 : few ≤ 30) : 1 ≤ few * few ∧ few * few ≤ 900 := by
  have a : ∀ f : Nat, f < 31 → 1 ≤ f → 1 ≤ (f : Int) * f ∧ (f : Int) * f ≤ 900 := by decide
  have := a few.toNat (by omega) (by omega)
  rwa [show ((few.toNat : Nat) : Int) = few by omega] at this
/-- the contract of _law_primes_right -/
def ClPr (D : Nat) (f : Addr) (vs : List Value) (pre : Prop) (R : Tok → Value) : Prop :=
  ∀ (w : World) (p : Program) (loose : List Str) (mean : ExcName → Option Value) (mg mb : Str → Option Value) (rest : List (Addr × Obj)) (dp un : Nat) (gd : Option (List Code)) (cn : Str) (cs : Scope) (a : Addr) (ccd : Value) (cl : List (Str × Addr)) (outer : List Env) (A₀ : Around) (base h₀ : Heap) (L : Addr) (m : Str → Option Value) (s : Shared) (Q E : Value → Shared → Prop),
    Below A₀ base outer h₀ → Fr h₀ L s.heap m → (hd.heap_39 w.params).In h₀ → News h₀ L s.heap ((93, tabObj #[]) :: (100, tabObj #[]) :: rest) → OwnOff rest [93] → OwnOff rest [100] → AllBare s.gens → CodeHd h₀ 97 93 → CodeHd h₀ 104 100 → Top p loose mean mg mb h₀ → cs.kind = .function → pre → dp + D < recursionLimit → un + 8 * D < cLine →
      (∀ (t : Tok) (p1 p2 : Array Value) (s' : Shared), Fr h₀ L s'.heap m → News h₀ L s'.heap ((93, tabObj p1) :: (100, tabObj p2) :: rest) → AllBare s'.gens → s'.os = s.os → Q (R t) s') →
      wpAny (model PySem.Challenge.rw_ah5004_01.row.prog w) (ktrTop dp un gd cn cs L a ccd cl outer) (call (.ref f) vs) Q E s
theorem l_pri (n few : Int) (t u : Tok) : ClPr 40 167 [.int n t, .int few u] (0 ≤ n ∧ n ≤ 119 ∧ 1 ≤ few ∧ few ≤ 30) (fun _ => .bool true) := by
  unfold ClPr; k_fill; intros; rename_i hret
  rename AllBare _ => hG0; (rename OwnOff _ [93] => hO93); (rename OwnOff _ [100] => hO100)
  k_with_none
  (k_with "exec Assign cons ListComp" => (k_here; (k_dflt (refine' comp_assign (cl := []) ?a1 ?a2 ?a3 ?a4 ?a5; (case a1 => with_unfolding_all rfl); (case a2 => with_unfolding_all rfl); (case a3 => exact rfl); (case a4 => decide))); k_whole))
  (k_with "eval ListComp Name cons" => (k_here; (k_dflt (refine' comp_eval (cl := []) ?b2 ?b3 ?b4 ?b5; (case b2 => with_unfolding_all rfl); (case b3 => exact rfl); (case b4 => decide))); k_whole))
  (k_with "eval ListComp Call cons" => (k_here; (k_dflt (refine' comp_eval (cl := [(_, _)]) ?d2 ?d3 ?d4 ?d5; (case d2 => with_unfolding_all rfl); (case d3 => exact rfl); (case d4 => decide))); k_whole))
  (k_with "pyIter ref" => (
    k_here
    (rename Fr _ _ _ _ => lF'); (rename News _ _ _ _ => lN'); (with_reducible rename IsRange _ _ 2 _ _ _ _ _ => rgX)
    (k_dflt refine' my_compC (a := 2) (RR := compPost _ _ _ (some _) _) (fun i ys => IntsAre ys ((rangeKs 2 i).filter prB)) rfl rgX rfl (small_one (by omega) (by omega) (by omega) (by omega)) (rangeSize_nat _ _) (by (rw [PySem.sizeLine_eq]; omega)) lF' lN' hG0 .nil (fun i ys h => rf_len h) (fun _ => rfl) (fun _ => rfl) rfl (by with_unfolding_all rfl) ?turn1 ?fin1)
    (case' turn1 => (clear lF' lN' rgX; intro ci ck ct cI coI cC coC cD cKc coK cm2 cys cs1 cE kEq kLt cJ cNs cK cG cOs cF cN cOff cOffK cNe cMk; (try dsimp only at cOs); (try simp only [LCg.Off3, and_true] at cOff); (try k_fold)))
    (case' fin1 => (clear lF' lN' rgX; intro D1 C1 m1 ys1 s1 J1 G1 Os1 cF1 cN1 hns1 hC1 hD1 hCL1 hDL1 hCD1 off1; (try dsimp only at Os1); (k_dflt (refine cp_some rfl rfl rfl hns1 cF1 cN1 hC1 hCL1 hCD1 (fun p hp => (off1 p hp).1) ?_)); have d1a : D1 ≠ 93 := Ne.symm (off1 (93, tabObj #[]) (.tail _ (.head _))).2; have d1b : D1 ≠ 100 := Ne.symm (off1 (100, tabObj #[]) (.tail _ (.tail _ (.head _)))).2; clear hns1 cF1 cN1; intro h1 tk1 F1 N1; (try k_fold)))))
  (k_with "pyIter ref" => (
    k_here
    (rename Fr _ _ _ _ => lF'); (rename News _ _ _ _ => lN'); (with_reducible rename IsRange _ _ (-3) _ _ _ _ _ => rgX)
    (k_dflt first | have lN2 := news_front (pre := [_, _]) (x := (93, tabObj #[])) lN' | have lN2 := news_front (pre := [_, _, _]) (x := (93, tabObj #[])) lN' | have lN2 := news_front (pre := [_]) (x := (93, tabObj #[])) lN')
    (simp only [List.cons_append, List.nil_append] at lN2)
    (k_dflt refine' my_compG (σ := TbS) (a := -3) (RR := compPost _ _ _ none _) (fun z => tbL z ++ _) (fun i ys z => IntsAre ys ((rangeKs (-3) i).filter isPV) ∧ tbOk z) none rfl rgX rfl (small_one (by omega) (by omega) (by omega) (by omega)) (rangeSize_nat _ _) (by (rw [PySem.sizeLine_eq]; omega)) lF' lN2 G1 ⟨.nil, trivial⟩ (fun i ys z h => rf_len h.1) (by decide) rfl rfl ?turn2 ?fin2)
    (case' turn2 => (clear lF' lN' lN2 rgX; intro gi gk gt gI goI gC goC gD gm2 gys gz gs gE gkEq gLt gJ gNs gx gG gOs gF gN gOff gNe gMk; obtain ⟨gInt, gOk⟩ := gJ; obtain ⟨g93o, g93⟩ := @tb_93 gz; (try dsimp only at gOs); (try k_fold)))
    (case' fin2 => (clear lF' lN' rgX; intro D2 C2 m2 ys2 z2 s2 J2 G2 Os2 cF2 cN2 hns2 hC2 hD2 hCL2 hDL2 hCD2 off2; (try dsimp only at Os2); (k_dflt (refine cp_none hns2 cF2 cN2 hC2 hCL2 hCD2 (fun p hp => (off2 p hp).1) ?_)); clear hns2 cF2 cN2; intro h2 F2 N2; have d2b : D2 ≠ 100 := Ne.symm (off2 (100, tabObj #[]) (List.mem_append_right _ (.tail _ (.tail _ (.tail _ (.head _)))))).2; obtain ⟨p1, N2⟩ := tb_split N2; obtain ⟨I2, ok2⟩ := J2; (try k_fold)))))
  (k_with "pyIter ref" => (
    k_here
    (rename Fr _ _ _ _ => lF'); (rename News _ _ _ _ => lN'); (with_reducible rename IsRange _ _ 1 _ _ _ _ _ => rgX)
    (k_dflt first | have lN2 := news_front (pre := [_, _]) (x := (100, tabObj #[])) lN' | have lN2 := news_front (pre := [_, _, _]) (x := (100, tabObj #[])) lN' | have lN2 := news_front (pre := [_, _, _, _]) (x := (100, tabObj #[])) lN' | have lN2 := news_front (pre := [_, _, _, _, _]) (x := (100, tabObj #[])) lN')
    (simp only [List.cons_append, List.nil_append] at lN2)
    (k_dflt refine' my_compG (σ := Array Value) (a := 1) (RR := compPost _ _ _ none _) (fun ps => (100, tabObj ps) :: _) (fun i ys ps => IntsAre ys (((rangeKs 1 i).filter (muP few)).map mob) ∧ tbMOk moPos ps) #[] rfl rgX rfl (small_one (by omega) (by omega) (by omega) (by omega)) (rangeSize_nat _ _) (by (rw [PySem.sizeLine_eq]; omega)) lF' lN2 G2 ⟨.nil, Or.inl rfl⟩ (fun i ys z h => rm_len h.1) (by decide) rfl rfl ?turn3 ?fin3)
    (case' turn3 => (clear lF' lN' lN2 rgX; intro mi mk mt mI moI mC moC mD mm2 mys mps ms mE mkEq mLt mJ mNs mx mG mOs mF mN mOff mNe mMk; obtain ⟨mInt, mOk⟩ := mJ; (try dsimp only at mOs); (try k_fold)))
    (case' fin3 => (clear lF' lN' rgX; intro D3 C3 m3 ys3 z3 s3 J3 G3 Os3 cF3 cN3 hns3 hC3 hD3 hCL3 hDL3 hCD3 off3; (try dsimp only at Os3); (k_dflt (refine cp_none hns3 cF3 cN3 hC3 hCL3 hCD3 (fun p hp => (off3 p hp).1) ?_)); (k_dflt have d3b : D3 ≠ 100 := Ne.symm (off3 (100, tabObj z3) List.mem_cons_self).2); clear hns3 cF3 cN3; intro h3 F3 N3; obtain ⟨I3, ok3⟩ := J3; (try k_fold)))))
  (k_with "CEnd cons" => (
    k_here
    (rename Fr _ _ _ _ => eF); (rename News _ _ _ _ => eN); (rename List.all _ _ = _ => eA)
    (k_dflt refine' c_end eF eN ?sub1 cK cG cOs ?j1)
    (case j1 => k_dflt first | exact rf_yes cJ kEq ((prB_eq ck).symm.trans eA) | exact rf_no cJ kEq ((prB_eq ck).symm.trans eA))
    (case sub1 => k_dflt kcf_all)))
  (k_with "binaryOp Mod int int" => (k_here; refine mod_int (by omega) ?_))
  (k_with "GEnd" => (
    k_here
    (rename Fr _ _ _ _ => eF); (rename News _ _ _ _ => eN)
    (k_dflt refine' g_end pz eF eN (off_tb gOff pNew) gG gOs ⟨?j2, pOk⟩)
    (case j2 => k_dflt first | exact rf_yes gInt gkEq (by with_reducible assumption) | exact rf_no gInt gkEq (by with_reducible assumption))))
  (k_with "GEnd" => (
    k_here
    (rename Fr _ _ _ _ => eF); (rename News _ _ _ _ => eN)
    (k_dflt refine' g_end ups eF eN mOff uG (uOs.trans mOs) ⟨?j3, uOk⟩)
    (case j3 => k_dflt exact rm_yes mInt mkEq (decide_eq_true (by with_reducible assumption)))))
  (k_with "GEnd" => (
    k_here
    (rename Fr _ _ _ _ => eF); (rename News _ _ _ _ => eN)
    (k_dflt refine' g_end mps eF eN mOff mG mOs ⟨?j4, mOk⟩)
    (case j4 => k_dflt exact rm_no mInt mkEq (decide_eq_false (by with_reducible assumption)))))
  (k_with "call ref cons nil" => (
    k_here
    (with_reducible show wpAny _ _ (call (Value.ref 98) _) _ _ _)
    (rename Fr _ _ _ _ => eF); (rename News _ _ _ _ => eN)
    (k_dflt refine' ClP.use (c_isp _ _ gz) ?p1 eF ?p3 (news_tb eN) gOk (oo_off gOff g93 ?p6) ?p7 ?p8 ?p9 ?p10 ?p11 ?p12 ?p13)
    (case p1 => k_asm)
    (case p3 => k_asm)
    (case p6 => k_dflt exact oo_cons (by refine (?_ : @Ne Nat _ _); omega) (oo_cons d1a (oo_cons (by refine (?_ : @Ne Nat _ _); omega) (oo_cons ne100 hO93))))
    (case p7 => exact CodeHd.keeps (by assumption) (Fr.keep (by assumption)))
    (case p8 => k_asm)
    (case p9 => first | exact rfl | assumption)
    (case p10 => omega)
    (case p11 => k_room)
    (case p12 => k_units)
    (intro pt pz ph ptk pF pN pOk pNew; have pN3 := news_tb' pN; clear pN; (try dsimp only); (try k_fold))))
  (k_with "call ref cons nil" => (
    k_here
    (with_reducible show wpAny _ _ (call (Value.ref 105) _) _ _ _)
    (rename Fr _ _ _ _ => eF); (rename News _ _ _ _ => eN)
    (k_dflt refine' ClM.use (c_mob _ _) ?u1 eF ?u3 (news_front (pre := [_, _, _]) eN) mOk (oo_off (pre := [_]) mOff (.head _) ?u6) mG ?u8 ?u9 ?u10 ?u11 ?u12 ?u13 ?u14)
    (case u1 => k_asm)
    (case u3 => k_asm)
    (case u6 => k_dflt exact oo_cons d2b (oo_cons ne93 (oo_cons (by refine (?_ : @Ne Nat _ _); omega) (oo_cons d1b (oo_cons (by refine (?_ : @Ne Nat _ _); omega) hO100)))))
    (case u8 => exact CodeHd.keeps (by assumption) (Fr.keep (by assumption)))
    (case u9 => k_asm)
    (case u10 => first | exact rfl | assumption)
    (case u11 => omega)
    (case u12 => k_room)
    (case u13 => k_units)
    (intro ut ups us uF uN uOk uG uOs; have uN3 := news_back3 uN; clear uN; (try dsimp only at uOs); (try dsimp only); (try k_fold))))
  (k_with "call ref cons nil" => (
    k_here
    (with_reducible show wpAny _ _ (call (Value.ref 105) _) _ _ _)
    (rename Fr _ _ _ _ => eF); (rename News _ _ _ _ => eN)
    (k_dflt refine' ClM.use (c_mob _ _) ?v1 eF ?v3 (news_front (pre := [_]) eN) ok3 (oo_cons d3b ?v6) G3 ?v8 ?v9 ?v10 ?v11 ?v12 ?v13 ?v14)
    (case v1 => k_asm)
    (case v3 => k_asm)
    (case v6 => k_dflt exact oo_cons d2b (oo_cons ne93 (oo_cons (by refine (?_ : @Ne Nat _ _); omega) (oo_cons d1b (oo_cons (by refine (?_ : @Ne Nat _ _); omega) hO100)))))
    (case v8 => exact CodeHd.keeps (by assumption) (Fr.keep (by assumption)))
    (case v9 => k_asm)
    (case v10 => first | exact rfl | assumption)
    (case v11 => exact sq_bd (by omega) (by omega))
    (case v12 => k_room)
    (case v13 => k_units)
    (intro vt vps vs vF vN vOk vG vOs; (try dsimp only at vOs); (try simp only [List.cons_append, List.nil_append] at vN); (try dsimp only); (try k_fold))))
  (k_with "call ref cons nil" => (
    k_here
    (with_reducible show wpAny _ _ (call (Value.ref 105) _) _ _ _)
    (rename Fr _ _ _ _ => eF); (rename News _ _ _ _ => eN)
    (k_dflt refine' ClM.use (c_mob _ _) ?x1 eF ?x3 (news_front (pre := [_]) eN) ok3 (oo_cons d3b ?x6) G3 ?x8 ?x9 ?x10 ?x11 ?x12 ?x13 ?x14)
    (case x1 => k_asm)
    (case x3 => k_asm)
    (case x6 => k_dflt exact oo_cons d2b (oo_cons ne93 (oo_cons (by refine (?_ : @Ne Nat _ _); omega) (oo_cons d1b (oo_cons (by refine (?_ : @Ne Nat _ _); omega) hO100)))))
    (case x8 => exact CodeHd.keeps (by assumption) (Fr.keep (by assumption)))
    (case x9 => k_asm)
    (case x10 => first | exact rfl | assumption)
    (case x11 => exact sq_bd (by omega) (by omega))
    (case x12 => k_room)
    (case x13 => k_units)
    (intro vt vps vs vF vN vOk vG vOs; (try dsimp only at vOs); (try simp only [List.cons_append, List.nil_append] at vN); (try dsimp only); (try k_fold))))
  (k_with "call ref cons nil" => k_call_by "useL" (c_lp _ _))
  (k_with "LeaveK bool" => first
    | contradiction
    | exact absurd (mu_s1 (few := few) (by omega) (by omega) (by with_reducible assumption)) (by with_reducible assumption)
    | exact absurd (mu_s0 (few := few) (by omega) (by omega) (by with_reducible assumption)) (by with_reducible assumption)
    | exact absurd (ref_b (n := n) (by omega) (by omega)) (by with_reducible assumption)
    | (with_reducible (rename _ = prList n => hRL); exact absurd (ref_a (n := n) (by omega) (by omega) hRL) (by with_reducible assumption)))
  w_top off
  w_strict (refine wpAny_call ?_; (k_call_by "enterC" n); (repeat' (first | (k_unfold; (try dsimp only)) | (k_end; wrow_close) | ((with_reducible refine wp_st (by dsimp only; exact StEq.same _) ?_); walk1) | walk1 | (dsimp only; walk1) | (leave1; walk_say "STEP leave1"; try dsimp only) | fail "no step")); all_goals (first
    | ((rename Fr _ _ _ _ => eF); (rename News _ _ _ _ => eN); (k_dflt refine' pri_end (p1 := p1) (p2 := vps) hret ?e eF eN ?sub vG (vOs.trans (Os3.trans (Os2.trans Os1))));
       (case e => first | exact mu_q1 (by omega) (by omega) (by assumption) | exact mu_q0 (by omega) (by omega) (by assumption));
       (case sub => k_dflt kcf_all))))

end Mine
namespace Mine
local macro_rules | `(tactic| k_call_by "use" $g:term) => `(tactic| (k_here; k_dflt (refine' Cl.use $g ?k1 ?k2 ?k3 ?k4 ?k5 ?kK ?kp ?kd ?ku ?kR; (case k1 => k_asm); (case k2 => k_asm); (case k3 => k_asm); (case k4 => k_asm); (case k5 => k_asm); (case kK => first | exact rfl | assumption); (case kp => first | trivial | omega | ((try dsimp only); first | assumption | omega | l_fact)); (case kd => k_room); (case ku => k_units)); intro t9 h9 tk9 F9 N9; (try dsimp only); (try k_extra "fact use"); (try k_fold)))
local macro_rules | `(tactic| k_room) => `(tactic| ((simp only [depth_under_make, depth_under_kw, depth_in1, depth_deeper, depth_caller, recursionLimit] at *); omega))
local macro_rules | `(tactic| k_units) => `(tactic| ((have hcL9 := cLine_is); (simp only [units_in1, units_deeper, Around.mark_units, units_caller, cLine] at *); omega))
local macro_rules | `(tactic| walk_at "InvEndN") => `(tactic| first | k_extra "InvEndN" | k_dflt kst_close)
local macro_rules | `(tactic| walk_at "CompEnd") => `(tactic| k_dflt (refine LCg.CompEnd.intro (by assumption) (by assumption) _ (fun _ hp => hp) (by assumption) (by first | exact True.intro | exact Or.inl (Or.inl (by assumption)) | exact Or.inl (by assumption) | exact Or.inr ⟨_, .head _, rfl, _, rfl⟩ | exact Or.inr ⟨_, by k_mem, rfl, _, rfl⟩) ?_))
local macro_rules | `(tactic| k_call_by "enterC" $_g:term) => `(tactic| (refine' code_defC ?k1 ?k2 ?k3 ?k4 ?k5 ?kA ?kF ?kK ?k6 ?k7 ?k8 ?k9 ?kB ?kD ?_ ?c2 ?c3 ?c4; (case kA => exact rfl); (case kF => exact rfl); (case kK => assumption); (case k1 => k_asm); (case k2 => k_asm); (case k3 => k_asm); (case k4 => k_asm); (case k5 => k_asm); (case k6 => k_is); (case k7 => k_is); (case k8 => k_room); (case k9 => exact BindsTo.of_eq rfl); (case kB => exact rfl); (case kD => decide +kernel); (case c2 => exact rfl); (case c3 => exact rfl); (case c4 => exact rfl); k_whole; intro g' L' h' tk' cells' FG' F' N' Y' B' X' T' l1; have hOc9 := ownOff_cells l1; have kMark9 := kstMark; (try k_lt l1); k_cells Y'; (try simp only [List.cons_append, List.nil_append] at N'); (try dsimp only); (try k_lift B'); (try k_fold)))
local macro_rules | `(tactic| k_call_by "om" $_g:term) => `(tactic| ((repeat (rename (_ ≠ _ ∧ _ ≠ _ ∧ _ ≠ _) ∧ _ => o9; clear o9)); (repeat (rename _ ≠ _ ∧ _ ≠ _ ∧ _ ≠ _ => o9; clear o9)); (repeat (rename @Ne Nat _ _ => o9; clear o9)); omega))
local macro_rules | `(tactic| k_call_by "item" $h:term) => `(tactic| (k_here; (with_reducible rename News _ _ _ _ => myN9); k_dflt (refine' item_list_ints (News.isList (by with_reducible exact myN9) ?hm) $h ?h0 ?h1 ?h2 (fun tI9 => ?hQ)); (case hm => k_dflt k_mem); (case h0 => k_call_by "om" 0); (case h1 => k_call_by "om" 0); (case h2 => k_call_by "om" 0); (try k_fold)))
local macro_rules | `(tactic| k_call_by "enterD" $_g:term) => `(tactic| (refine' code_def ?k1 ?k2 ?k3 ?k4 ?k5 ?kA ?kF ?kK ?k6 ?k7 ?k8 ?k9 ?kB ?_ ?c2 ?c3 ?c4 ?c5; (case kA => exact rfl); (case kF => exact rfl); (case kK => assumption); (case k1 => k_asm); (case k2 => k_asm); (case k3 => k_asm); (case k4 => k_asm); (case k5 => k_asm); (case k6 => k_is); (case k7 => k_is); (case k8 => k_room); (case k9 => first | exact binds_K (by k_in) rfl (by k_is) rfl rfl rfl | exact BindsTo.of_eq rfl); (case c5 => decide); (case kB => exact locs rfl); (case c2 => exact rfl); (case c3 => exact rfl); (case c4 => exact rfl); k_whole; intro g' L' h' FG' F' N' B' X' T'; (try dsimp only); (try k_lift B'); (try k_fold)))
local macro_rules | `(tactic| k_call_by "itemN" $h:term) => `(tactic| (k_here; (with_reducible rename News _ _ _ _ => myN9); k_dflt (refine' item_list_ints_neg (News.isList (by with_reducible exact myN9) ?hm) $h ?h0 ?h1 ?h2 (fun tI9 => ?hQ)); (case hm => k_dflt k_mem); (case h0 => k_call_by "om" 0); (case h1 => k_call_by "om" 0); (case h2 => k_call_by "om" 0); (try k_fold)))

local macro_rules | `(tactic| k_call_by "useL" $g:term) => `(tactic| (k_here; k_dflt (refine' ClL.use $g ?k1 ?k2 ?k3 ?k4 ?k5 ?kK ?kp ?kd ?ku ?kR; (case k1 => k_asm); (case k2 => k_asm); (case k3 => k_asm); (case k4 => k_asm); (case k5 => k_asm); (case kK => first | exact rfl | assumption); (case kp => first | trivial | omega | ((try dsimp only); first | assumption | omega | l_fact)); (case kd => k_room); (case ku => k_units)); intro D9 ws9 ns9 nn9 h9 tk9 F9 N9 l9 hI9 hR9; (try simp only [AllLt, LCg.Off1, and_true] at l9); (try dsimp only); (try k_extra "fact useL"); (try k_fold)))

/-- a value that the law has laid aside -/
def GenMark (_ : Str) (_ : Int) : Prop := True
theorem ClT.use {D : Nat} {f : Addr} {vs : List Value} {pre : Prop} {R : Tok → Value} (h : ClT D f vs pre R) {w : World} {p : Program} {loose : List Str} {mean : ExcName → Option Value} {mg mb : Str → Option Value} {news : List (Addr × Obj)} {dp un : Nat} {gd : Option (List Code)} {cn : Str} {cs : Scope} {a : Addr} {ccd : Value} {A₀ : Around} {base h₀ : Heap} {L : Addr} {m : Str → Option Value} {s : Shared} {Q E : Value → Shared → Prop}
    (k1 : Below A₀ base [] h₀) (k2 : Fr h₀ L s.heap m) (k3 : (hd.heap_39 w.params).In h₀) (k4 : News h₀ L s.heap news) (k5 : Top p loose mean mg mb h₀) (j1 : (hd.heap_39 w.params).In base) (j2 : Top p loose mean mg mb base) (k6 : cs.kind = .function) (k7 : pre) (k8 : dp + D < recursionLimit) (k9 : un + 8 * D < cLine) (k10 : CbRet h₀ L m news s Q R) :
    wpAny (model PySem.Challenge.rw_ah5004_01.row.prog w) { handled := none, depth := dp, frames := some [envOf cn cs L a ccd], guards := gd, units := un } (call (.ref f) vs) Q E s :=
  h w p loose mean mg mb news dp un gd cn cs a ccd A₀ base h₀ L m s Q E k1 k2 k3 k4 k5 j1 j2 k6 k7 k8 k9 k10
section
variable {M : Model} {A : Around} {E : Value → Shared → Prop} {s : Shared} {env : Env} {y : Str} {v : Int} {t : Tok} {Q : Unit → Shared → Prop}
theorem st_gen (h : ∀ x : Int, GenMark y x → wpAny M A (storeName env y (.int x t)) Q E s) : wpAny M A (storeName env y (.int v t)) Q E s := h v True.intro
theorem st_genP (h0 : 0 ≤ v) (h : ∀ x : Int, GenMark y x → 0 ≤ x → wpAny M A (storeName env y (.int x t)) Q E s) : wpAny M A (storeName env y (.int v t)) Q E s := h v True.intro h0
end
theorem mix_pos {u d : Prop} {x a b q p : Int} [Decidable (u ∧ q ≤ x)] [Decidable d] (hq : 0 ≤ q) (hp : 0 < p) : 0 ≤ (if u ∧ q ≤ x then x else if d then a.fmod p else b.fmod p) := by
  split
  · omega
  · split
    · rw [Int.fmod_eq_emod_of_nonneg _ (by omega)]; exact Int.emod_nonneg _ (by omega)
    · rw [Int.fmod_eq_emod_of_nonneg _ (by omega)]; exact Int.emod_nonneg _ (by omega)
theorem ClPr.use {D : Nat} {f : Addr} {vs : List Value} {pre : Prop} {R : Tok → Value} (h : ClPr D f vs pre R) {w : World} {p : Program} {loose : List Str} {mean : ExcName → Option Value} {mg mb : Str → Option Value} {rest : List (Addr × Obj)} {dp un : Nat} {gd : Option (List Code)} {cn : Str} {cs : Scope} {a : Addr} {ccd : Value} {cl : List (Str × Addr)} {outer : List Env} {A₀ : Around} {base h₀ : Heap} {L : Addr} {m : Str → Option Value} {s : Shared} {Q E : Value → Shared → Prop}
    (k1 : Below A₀ base outer h₀) (k2 : Fr h₀ L s.heap m) (k3 : (hd.heap_39 w.params).In h₀) (k4 : News h₀ L s.heap ((93, tabObj #[]) :: (100, tabObj #[]) :: rest)) (k5 : OwnOff rest [93]) (k6 : OwnOff rest [100]) (k7 : AllBare s.gens) (k8 : CodeHd h₀ 97 93) (k9 : CodeHd h₀ 104 100) (k10 : Top p loose mean mg mb h₀) (k11 : cs.kind = .function) (k12 : pre) (k13 : dp + D < recursionLimit) (k14 : un + 8 * D < cLine)
    (k15 : ∀ (t : Tok) (p1 p2 : Array Value) (s' : Shared), Fr h₀ L s'.heap m → News h₀ L s'.heap ((93, tabObj p1) :: (100, tabObj p2) :: rest) → AllBare s'.gens → s'.os = s.os → Q (R t) s') :
    wpAny (model PySem.Challenge.rw_ah5004_01.row.prog w) (ktrTop dp un gd cn cs L a ccd cl outer) (call (.ref f) vs) Q E s :=
  h w p loose mean mg mb rest dp un gd cn cs a ccd cl outer A₀ base h₀ L m s Q E k1 k2 k3 k4 k5 k6 k7 k8 k9 k10 k11 k12 k13 k14 k15
/-- the end of law: True, all old things as they were but for the code tables -/
def GoodT (tabs : List (Addr × Addr)) (s₁ : Shared) (r : Result) (s' : Shared) : Prop :=
  r = .ok (.ret (.bool true)) ∧ (∀ b o, (ghostOf s₁.heap tabs).get? b = some o → s'.heap.get? b = some o) ∧ s'.os = s₁.os ∧ AllBare s'.gens ∧ GrownAll tabs s'.heap
theorem my_post {M : Model} {A : Around} {cd : Code} {s s₁ : Shared} {cw : ClaimW} {cl : Str → Option Addr} {mean : ExcName → Option Value} {args : List WData} {tabs : List (Addr × Addr)} (hT : TabsAt tabs s₁.heap) (hr : ∀ a x, cw.raises a x = false)
    (hp : cw.post args (.bool true) args = true) (h : codeAny M A cd (GoodT tabs s₁) s) : codeAny M A cd (GoodWG cw cl mean args s₁) s := by
  refine codeAny_mono h fun r s' hg => ?_
  obtain ⟨e, keep, hos, hb, hgr⟩ := hg
  have split : ∀ b o, s₁.heap.get? b = some o → s'.heap.get? b = some o ∨ (isCodeTable s₁.heap b ∧ o = tabObj #[] ∧ ∃ ps, s'.heap.get? b = some (tabObj ps)) := fun b o eb => by
    by_cases hm : b ∈ tabs.map (·.2)
    · obtain ⟨q, hq, rfl⟩ := List.mem_map.mp hm
      obtain ⟨hc, h2⟩ := hT q hq
      have eo : o = tabObj #[] := by rw [h2] at eb; exact (Option.some.inj eb).symm
      exact .inr ⟨(hc.tab h2).isCodeTable, eo, hgr.get q hq⟩
    · exact .inl (keep b o (ghost_ne eb hm))
  refine ⟨.inl ⟨_, .bool true, [], e, fun c => hr args c, .bool true, hp, fun _ => ⟨.nil, fun _ hm => nomatch hm⟩⟩, ⟨fun b o eb => ?_, fun b o eb => ?_⟩, hos, hb⟩
  · rcases split b o eb with k | ⟨k1, k2, ps, k3⟩
    · exact .inl k
    · subst k2
      exact .inr (.inl ⟨k1, rfl, #[], ps, rfl, by rw [Array.empty_append]; exact k3⟩)
  · rcases split b o eb with k | ⟨_, _, ps, k3⟩
    · exact ⟨_, k⟩
    · exact ⟨_, k3⟩
theorem good_t {h : Heap} {s₁ s' : Shared} {L : Addr} {m : Str → Option Value} {all : List (Addr × Obj)} {p1 p2 : Array Value} {x1 x2 : Addr} (F : Fr (ghostOf s₁.heap [(x1, 93), (x2, 100)]) L s'.heap m) (N : News h L s'.heap all) (h1 : (93, tabObj p1) ∈ all) (h2 : (100, tabObj p2) ∈ all)
    (hos : s'.os = s₁.os) (G : AllBare s'.gens) : GoodT [(x1, 93), (x2, 100)] s₁ (.ok (.ret (.bool true))) s' :=
  ⟨rfl, F.keep, hos, G, ⟨_, (N _ h1).1⟩, ⟨_, (N _ h2).1⟩, True.intro⟩
theorem fmod_bd (a : Int) {b : Int} (hb : 0 < b) : 0 ≤ a.fmod b ∧ a.fmod b < b := by
  rw [Int.fmod_eq_emod_of_nonneg _ (by omega)]
  exact ⟨Int.emod_nonneg _ (by omega), Int.emod_lt_of_pos _ hb⟩
theorem top : PySem.Challenge.rw_ah5004_01.Holds := hd (by
  k_with_none
  (k_with "storeName int" => (k_here; (fail_if_success (with_reducible rename GenMark (PySem.Str.ofString "first") _ => q9)); (k_dflt (refine' st_gen (y := PySem.Str.ofString "first") ?_)); intro first firstM; (try k_fold)))
  (k_with "storeName int" => (k_here; (fail_if_success (with_reducible rename GenMark (PySem.Str.ofString "rich") _ => q9)); (k_dflt (refine' st_genP (y := PySem.Str.ofString "rich") ?gp ?_)); (case gp => exact mix_pos (by decide) (by decide)); intro rich richM rich0; have rb5 := fmod_bd rich (b := 5) (by decide); have rb7 := fmod_bd rich (b := 7) (by decide); have rb13 := fmod_bd rich (b := 13) (by decide); have rb61 := fmod_bd (rich.fdiv 13) (b := 61) (by decide); have rb40 := fmod_bd (rich.fdiv 13) (b := 40) (by decide); have rb120 := fmod_bd (rich.fdiv 13) (b := 120) (by decide); have rb30 := fmod_bd (rich.fdiv 1000) (b := 30) (by decide); have rb17 := fmod_bd (rich.fdiv 17) (b := 61) (by decide); (try k_fold)))
  (k_with "call ref cons nil" => (
    k_here
    (with_reducible show wpAny _ _ (call (Value.ref 143) _) _ _ _)
    (k_dflt refine' ClT.use (c_ref _ _ _ _ _) ?k1 ?k2 ?k3 ?k4 ?k5 ?j1 ?j2 ?kK ?kp ?kd ?ku ?kR)
    (case k1 => k_asm)
    (case k2 => k_asm)
    (case k3 => k_asm)
    (case k4 => k_asm)
    (case k5 => k_asm)
    (case j1 => k_asm)
    (case j2 => k_asm)
    (case kK => first | exact rfl | assumption)
    (case kp => omega)
    (case kd => first | k_room | exact (by decide))
    (case ku => first | k_units | exact (by decide))
    (intro t9 h9 tk9 F9 N9; (try dsimp only); (try k_fold))))
  (k_with "call ref cons nil" => (
    k_here
    (with_reducible show wpAny _ _ (call (Value.ref 143) _) _ _ _)
    (k_dflt refine' ClT.use (c_ref _ _ _ _ _) ?zk1 ?zk2 ?zk3 ?zk4 ?zk5 ?zj1 ?zj2 ?zkK ?zkp ?zkd ?zku ?zkR)
    (case zk1 => k_asm)
    (case zk2 => k_asm)
    (case zk3 => k_asm)
    (case zk4 => k_asm)
    (case zk5 => k_asm)
    (case zj1 => k_asm)
    (case zj2 => k_asm)
    (case zkK => first | exact rfl | assumption)
    (case zkp => omega)
    (case zkd => first | k_room | exact (by decide))
    (case zku => first | k_units | exact (by decide))
    (intro t9 h9 tk9 F9 N9; (try dsimp only); (try k_fold))))
  (k_with "call ref cons nil" => ((with_reducible show wpAny _ _ (call (Value.ref 136) _) _ _ _); k_call_by "use" (l_stir _ _)))
  (k_with "call ref cons nil" => ((with_reducible show wpAny _ _ (call (Value.ref 148) _) _ _ _); k_call_by "use" (l_eul _ _)))
  (k_with "call ref cons nil" => ((with_reducible show wpAny _ _ (call (Value.ref 155) _) _ _ _); k_call_by "use" (l_prod _ _)))
  (k_with "call ref cons nil" => ((with_reducible show wpAny _ _ (call (Value.ref 162) _) _ _ _); k_call_by "use" (l_sum _ _)))
  (k_with "call ref cons nil" => (
    k_here
    (with_reducible show wpAny _ _ (call (Value.ref 167) _) _ _ _)
    (rename Fr _ _ _ _ => eF); (rename News _ _ _ _ => eN)
    (k_dflt refine' ClPr.use (rest := []) (l_pri _ _ _ _) ?pA ?pB ?pC (cb_drop eN ?pD) (fun _ h => nomatch h) (fun _ h => nomatch h) (AllBare.of_eq hg) cH1 cH2 ?pE ?pF ?pG ?pH ?pI ?pJ)
    (case pA => k_asm)
    (case pB => k_asm)
    (case pC => k_asm)
    (case pD => k_dflt kcf_all)
    (case pE => k_asm)
    (case pF => first | exact rfl | assumption)
    (case pG => omega)
    (case pH => first | k_room | exact (by decide))
    (case pI => first | k_units | exact (by decide))
    (intro pt p1 p2 ps pFr pNw pBare pOs; (try dsimp only at pOs); (try dsimp only); (try k_fold))))
  (k_with "call ref cons nil" => (
    k_here
    (with_reducible show wpAny _ _ (call (Value.ref 167) _) _ _ _)
    (rename Fr _ _ _ _ => eF); (rename News _ _ _ _ => eN)
    (k_dflt refine' ClPr.use (rest := []) (l_pri _ _ _ _) ?qA ?qB ?qC (cb_drop eN ?qD) (fun _ h => nomatch h) (fun _ h => nomatch h) (AllBare.of_eq hg) cH1 cH2 ?qE ?qF ?qG ?qH ?qI ?qJ)
    (case qA => k_asm)
    (case qB => k_asm)
    (case qC => k_asm)
    (case qD => k_dflt kcf_all)
    (case qE => k_asm)
    (case qF => first | exact rfl | assumption)
    (case qG => omega)
    (case qH => first | k_room | exact (by decide))
    (case qI => first | k_units | exact (by decide))
    (intro pt p1 p2 ps pFr pNw pBare pOs; (try dsimp only at pOs); (try dsimp only); (try k_fold))))
  (k_with "call ref cons nil" => ((with_reducible show wpAny _ _ (call (Value.ref 172) _) _ _ _); k_call_by "use" (l_shi _ _ _ _ _ _)))
  (k_with "GoodT" => (
    (rename Fr _ _ _ _ => eF); (rename News _ _ _ _ => eN)
    (k_dflt refine' good_t eF eN ?g1 ?g2 ?gos ?gG)
    (case g1 => k_dflt k_mem)
    (case g2 => k_dflt k_mem)
    (case gos => exact pOs)
    (case gG => exact pBare)))
  (k_with "GoodT" => (
    (rename Fr _ _ _ _ => eF); (rename News _ _ _ _ => eN)
    (k_dflt refine' good_t eF eN ?h1 ?h2 ?os ?G)
    (case h1 => k_dflt k_mem)
    (case h2 => k_dflt k_mem)
    (case os => exact rfl)
    (case G => exact AllBare.of_eq hg)))
  w_strict (
  k_fill
  intro w s₀ s₁ mg mb G Y fa o pm cd doc dV kV ho hd9 hcd hD hmg hg args vals as hpre hlay hrd hwl hlo
  have KX := km_in_of Y
  have hT8 := km_tabs_of Y
  have X := (Ground.X G).1
  have V := (Ground.X G).2
  refine Ground.open G ?_
  intro T B D TE TW
  (try (refine guard_noD D (by decide +kernel) ?_; clear D))
  have hT9 : TabsAt ([(97, 93), (104, 100)] : List (Addr × Addr)) _ := List.forall_mem_cons.mpr ⟨⟨codeHd_of_K (c := 97) (P := 93) KX (by kernel_rfl), hT8 93 (by k_mem)⟩, List.forall_mem_cons.mpr ⟨tab_of (x := PySem.Str.ofString "moebius") (c := 104) (P := 100) T KX rfl (by kernel_rfl), fun _ h => nomatch h⟩⟩
  clear hmg
  wrow_args hpre hlay hrd hwl hlo
  all_goals (
    (first | refine callC_kw (enter_call ?_) | refine enter_call ?_)
    w_top on
    refine my_post hT9 (fun _ _ => rfl) (by first | kc_post | wrow_post) ?_
    w_call any ho hd9 hcd hD T F
    clear hd9
    (
    rename News _ _ _ _ => N
    rename Heap.IsList _ _ _ => hL9
    have hL' := ghost_list hT9 hL9
    have l0 := ghost_lt hT9 F
    have C' := ghost_code hT9; obtain ⟨cH1, cH2, _⟩ := C'
    have X' := ghost_K hT9 KX (by kernel_rfl)
    have T' := ghost_top hT9 T
    have K' := ghost_below hT9
    have N' := ghost_news hT9 F N
    have F' := ghost_fr hT9 F
    simp only [tabNews, List.map_cons, List.map_nil, List.nil_append, List.cons_append] at N'
    simp only [tabNews, List.map_cons, List.map_nil] at l0
    k_lt l0
    clear N KX F)
    k_drop)
  (all_goals try k_fold); (repeat' (first | (k_unfold; (try dsimp only)) | (k_end; wrow_close) | ((with_reducible refine wp_st (by dsimp only; exact StEq.same _) ?_); walk1) | walk1 | (dsimp only; walk1) | (leave1; walk_say "STEP leave1"; try dsimp only) | fail "no step")); (all_goals (try k_data)); (all_goals (first | done))))

end Mine
theorem PySem.Challenge.cw_ah5004_01_holds : PySem.Challenge.rw_ah5004_01.Holds :=
  Mine.top
