import PyProof.Rows.All
import Wide.All
import OpenK.AllK
import Wide.FinOn
import Lean
import PySem.Challenge.RW_sh0031_01
set_option Elab.async false
set_option maxRecDepth 100000
set_option maxHeartbeats 8000000
set_option compiler.extract_closed false
section
open PySem PySem.W PyProof.Rows
namespace Mine
theorem said : OpenLaw.wellSaid PySem.Challenge.rw_sh0031_01 = true := by decide +kernel
section
local macro_rules | `(tactic| o_law) => `(tactic| refine holds_law said fun said => ?_)
local macro_rules | `(tactic| refine $f:ident $args*) => do if f.getId == ``PySem.W.holds_open || f.getId == ``PySem.W.holds_openC then `(tactic| (refine' $f:ident $args*; case hl => (intro w; kernel_rfl))) else Lean.Macro.throwUnsupported
open_top hd for PySem.Challenge.rw_sh0031_01
end
end Mine
end
section
open PySem PySem.W PyProof.Rows PySem.Spec PySem.Calls
namespace Mine
/-- a contract of a def of the text: called with vs where the ledger is news, it gives back a value and leaves a ledger that POST tells -/
def Does (w : World) (d : Nat) (f : Addr) (vs : List Value) (news : List (Addr × Obj)) (POST : Value → List (Addr × Obj) → Prop) : Prop :=
  ∀ (loose : List Str) (mean : ExcName → Option Value) (mg mb : Str → Option Value) (dp un : Nat) (gd : Option (List Code)) (cn : Str) (cs : Scope) (a : Addr) (ccd : Value) (cl : List (Str × Addr)) (outer : List Env) (A₀ : Around) (base h₀ : Heap) (L : Addr) (m : Str → Option Value) (s : Shared) (Q E : Value → Shared → Prop),
    Below A₀ base outer h₀ → Fr h₀ L s.heap m → (hd.heap_1 w.params).In h₀ → News h₀ L s.heap news → Top topProg loose mean mg mb h₀ → CodeHd base 117 113 → CodeHd base 35 31 → cs.kind = .function → dp + d < recursionLimit → un + 10 * d < cLine →
    (∀ (v : Value) (h' : Heap) (tk' : Nat) (news' : List (Addr × Obj)), POST v news' → Fr h₀ L h' m → News h₀ L h' news' → Q v { s with heap := h', toks := tk' }) →
    codeAny (model PySem.Challenge.rw_sh0031_01.row.prog w) (ktrTop dp un gd cn cs L a ccd cl outer) (.call (.ref f) ⟨vs, []⟩) (fun r s' => match r with | .ok (.ret v) => Q v s' | .ok _ => False | .error e => E e s') s
theorem Does.use {w : World} {d : Nat} {f : Addr} {vs : List Value} {news : List (Addr × Obj)} {POST : Value → List (Addr × Obj) → Prop} (D : Does w d f vs news POST)
    {loose : List Str} {mean : ExcName → Option Value} {mg mb : Str → Option Value} {dp un : Nat} {gd : Option (List Code)} {cn : Str} {cs : Scope} {a : Addr} {ccd : Value} {cl : List (Str × Addr)} {outer : List Env} {A₀ : Around} {base h₀ : Heap} {L : Addr} {m : Str → Option Value} {s : Shared} {Q E : Value → Shared → Prop}
    (B : Below A₀ base outer h₀) (F : Fr h₀ L s.heap m) (X : (hd.heap_1 w.params).In h₀) (N : News h₀ L s.heap news) (T : Top topProg loose mean mg mb h₀) (C1 : CodeHd base 117 113) (C2 : CodeHd base 35 31) (hk : cs.kind = .function) (h1 : dp + d < recursionLimit) (h2 : un + 10 * d < cLine)
    (ret : ∀ (v : Value) (h' : Heap) (tk' : Nat) (news' : List (Addr × Obj)), POST v news' → Fr h₀ L h' m → News h₀ L h' news' → Q v { s with heap := h', toks := tk' }) :
    wpAny (model PySem.Challenge.rw_sh0031_01.row.prog w) (ktrTop dp un gd cn cs L a ccd cl outer) (call (.ref f) vs) Q E s :=
  wpAny_call (D _ _ _ _ _ _ _ _ _ _ _ _ _ _ _ _ _ _ _ _ _ B F X N T C1 C2 hk h1 h2 ret)
/-- a def that leaves the ledger as it was -/
abbrev Pure (w : World) (d : Nat) (f : Addr) (vs : List Value) (R : Value → Prop) : Prop := ∀ news, Does w d f vs news (fun v news' => R v ∧ news' = news)
theorem int_end {i j : Int} {t : Tok} (e : i = j) : ∃ t', Value.int i t = Value.int j t' := ⟨t, by rw [e]⟩
theorem str_end {i j : Str} {t : Tok} (e : i = j) : ∃ t', Value.str i t = Value.str j t' := ⟨t, by rw [e]⟩
theorem flt_end {i j : UInt64} {t : Tok} (e : i = j) : ∃ t', Value.float i t = Value.float j t' := ⟨t, by rw [e]⟩
/-- a name of the frame that is known, written out -/
theorem Fr.see {h₀ h : Heap} {L : Addr} {m : Str → Option Value} {x : Str} {v : Value} (F : Fr h₀ L h m) (e : m x = some v) : Fr h₀ L h (fun y => if y = x then some v else m y) := by
  have : (fun y => if y = x then some v else m y) = m := by
    funext y
    by_cases h : y = x
    · rw [if_pos h, h, e]
    · rw [if_neg h]
  rw [this]; exact F
theorem Fr.seeL {h₀ h : Heap} {L : Addr} {m : Str → Option Value} (F : Fr h₀ L h m) (ps : List (Str × Value)) (e : ∀ p ∈ ps, m p.1 = some p.2) : Fr h₀ L h (kstB m ps) := by
  have : kstB m ps = m := by
    funext y
    exact kstB_eq e fun _ => rfl
  rw [this]; exact F
theorem AllLt.at {d : Addr} : ∀ {l : List (Addr × Obj)}, AllLt d l → ∀ {p : Addr × Obj}, p ∈ l → @LT.lt Nat _ p.1 d
  | [], _, _, h => nomatch h
  | _ :: _, x, p, h => by
    rcases List.mem_cons.mp h with rfl | h
    · exact x.1
    · exact AllLt.at x.2 h
theorem AllLt.mono {d e : Addr} (h : @LE.le Nat _ d e) : ∀ {l : List (Addr × Obj)}, AllLt d l → AllLt e l
  | [], _ => trivial
  | _ :: _, x => ⟨Nat.lt_of_lt_of_le x.1 h, AllLt.mono h x.2⟩
theorem News.pick {h₀ h : Heap} {L : Addr} {l l' : List (Addr × Obj)} (N : News h₀ L h l) (pre rest : List (Addr × Obj)) (idx : List Nat) (e1 : l = pre ++ rest) (e2 : l' = (idx.filterMap fun i => pre[i]?) ++ rest) : News h₀ L h l' := by
  subst e1; subst e2
  intro q hq
  rcases List.mem_append.mp hq with hq | hq
  · obtain ⟨i, _, hi⟩ := List.mem_filterMap.mp hq
    exact N q (List.mem_append_left _ (List.mem_of_getElem? hi))
  · exact N q (List.mem_append_right _ hq)
theorem at2 {p : Addr × Obj} {d : Addr} {l : List (Addr × Obj)} (h : p ∈ l) (a : AllLt d l) : @Ne Nat p.1 d := Nat.ne_of_lt (AllLt.at a h)
end Mine
end
open PySem PySem.W PyProof.Rows PySem.Spec PySem.Calls
local macro_rules | `(tactic| walk_at $s:str) => `(tactic| k_extra $s)
local macro_rules | `(tactic| krn_ne) => `(tactic| first | assumption | exact Nat.ne_of_lt (by assumption) | exact Nat.ne_of_gt (by assumption) | exact Mine.at2 (by assumption) (by assumption) | (rename _ ∧ _ => hq9; first | (simp only [hq9]; done) | exact Nat.ne_of_lt (by simp only [hq9]) | exact Nat.ne_of_gt (by simp only [hq9]) | exact Mine.at2 (by assumption) (by simp only [hq9]) | (clear hq9; krn_ne)))
local macro_rules | `(tactic| k_ne) => `(tactic| (refine neN ?_; (try dsimp only); first | krn_ne | omega))
local macro_rules | `(tactic| k_all) => `(tactic| (intro p9 hp9; (refine neN ?_); (try dsimp only); first | krn_ne | ((repeat (rename _ ∧ _ => hq9; cases hq9)); (repeat (first | (rename AllLt _ _ => hq9; have hz9 := Mine.AllLt.at hq9 hp9; clear hq9) | (rename AllLt _ _ => hq9; clear hq9))); omega)))
local macro_rules | `(tactic| k_room) => `(tactic| ktr_room)
local macro_rules | `(tactic| k_units) => `(tactic| ktr_units)
section
open PySem PySem.W PyProof.Rows PySem.Spec PySem.Calls
namespace Mine
def subF (a b : Str) : Int := if (a == b) = true then 0 else if (Txt.lower a == Txt.lower b) = true then 1 else 2
theorem sub_ok {w : World} (x y : Str) (tx ty : Tok) (hx : x.length ≤ 100) (hy : y.length ≤ 100) : Pure w 2 92 [.str x tx, .str y ty] (fun v => ∃ t, v = .int (subF x y) t) := by
  k_with_none; w_top off
  unfold Pure Does; k_fill
  intro news loose mean mg mb dp un gd cn cs a ccd cl outer A₀ base h₀ L m s Q E B F X N T C1 C2 hk hdp hun hret
  k_dflt cell_enter
  k_steps
  all_goals (refine hret _ _ _ _ ⟨int_end ?_, rfl⟩ (by k_asm) (by k_asm); (unfold subF; simp_all))
end Mine
end
section
open PySem PySem.W PyProof.Rows PySem.Spec PySem.Calls
namespace Mine
open PySem.Flt
def lv (a : Nat) : UInt64 := Float64.div (Float64.ofInt (a : Int)) 4625196817309499392
theorem lv_cmp : ∀ a, a < 17 → ∀ b, b < 17 → Float64.cmp (lv a) (lv b) = some (compare a b) := by decide +kernel
theorem lv_sum : ∀ a, a < 17 → ∀ b, b < 17 → a ≠ b → Float64.isZero (Float64.add (lv a) (lv b)) = false := by decide +kernel
theorem lv_dif : ∀ a, a < 17 → ∀ b, b < 17 → a ≠ b → Float64.isZero (Float64.sub (lv a) (lv b)) = false := by decide +kernel
theorem lv_two : ∀ a, a < 17 → ∀ b, b < 17 → a ≠ b → Float64.isZero (Float64.sub (Float64.sub 4611686018427387904 (lv a)) (lv b)) = false := by decide +kernel
theorem lv_fin : ∀ a, a < 17 → ∀ b, b < 17 → Float64.isFinite (Float64.mul 4629700416936869888 (Float64.div (Float64.add (lv a) (lv b)) 4611686018427387904)) = true := by decide +kernel
theorem lv_rnd : ∀ a, a < 17 → ∀ b, b < 17 → toInt Float64.nearestOf (Float64.mul 4629700416936869888 (Float64.div (Float64.add (lv a) (lv b)) 4611686018427387904)) = ((a + b : Nat) : Int) := by decide +kernel
theorem ltV_lv {a b : Nat} {t u : Tok} (ha : a < 17) (hb : b < 17) : ltV (.float (lv a) t) (.float (lv b) u) = decide (a < b) := by
  show (Float64.cmp (lv a) (lv b) == some Ordering.lt) = decide (a < b)
  rw [lv_cmp a ha b hb]
  rcases Nat.lt_trichotomy a b with h | h | h
  · rw [Nat.compare_eq_lt.mpr h]; simp [h]
  · subst h; simp
  · rw [Nat.compare_eq_gt.mpr h]; simp; omega
section
variable {prog : Program} {w : World} {A : Around} {E : Value → Shared → Prop} {s : Shared} {Q : Value → Shared → Prop}
theorem div16 {n : Nat} {t u : Tok} (hA : A.handled = none) (hn : n < 17) (h : Q (.float (lv n) s.toks) { s with toks := s.toks + 1 }) :
    wpAny (model prog w) A (binaryOp .Div (.int (n : Int) t) (.float 4625196817309499392 u)) Q E s :=
  truediv_if hA (fun o => absurd o (by simp only [Over]; omega)) (fun _ z => absurd z (by decide +kernel)) (fun _ _ => h)
theorem div_ok {x y : UInt64} {t u : Tok} (hA : A.handled = none) (hy : Float64.isZero y = false) (h : Q (.float (Float64.div x y) s.toks) { s with toks := s.toks + 1 }) :
    wpAny (model prog w) A (binaryOp .Div (.float x t) (.float y u)) Q E s :=
  truediv_float_or hA (fun e => absurd (hy.symm.trans e) (by decide)) (fun _ => h)
theorem eq_lv {a b : Nat} {t u : Tok} (ha : a < 17) (hb : b < 17) (h : Q (.bool (decide (a = b))) s) : wpAny (model prog w) A (compareOp .Eq (.float (lv a) t) (.float (lv b) u)) Q E s := by
  refine AutoFloatOps.eq_0 ?_
  have e : (Float64.cmp (lv a) (lv b) == some Ordering.eq) = decide (a = b) := by
    rw [lv_cmp a ha b hb]
    rcases Nat.lt_trichotomy a b with h | h | h
    · rw [Nat.compare_eq_lt.mpr h]; simp; omega
    · subst h; simp
    · rw [Nat.compare_eq_gt.mpr h]; simp; omega
  rw [e]; exact h
def max3 (a b c : Nat) : Nat := if a < b then (if b < c then c else b) else (if a < c then c else a)
def min3 (a b c : Nat) : Nat := if b < a then (if c < b then c else b) else (if c < a then c else a)
/-- three arguments laid in a tuple and walked: what max and min of three ask for -/
theorem three_walk {op : CmpOp} {bt : Nat → Nat → Bool} {vs : Array Value} (hh : A.handled = none) (h3 : vs.size = 3) (cmp : CmpOf prog w A.in1 op (fun i v => vs[i]? = some v) bt)
    (h : ∀ v h' tk, vs[argBest bt 2]? = some v → (∀ d o, s.heap.get? d = some o → h'.get? d = some o) → Q v { s with heap := h', toks := tk }) :
    wpAny (model prog w) A.in1 (pyIter (.ref s.heap.objs.size)) (fun it s₂ => ∃ I fp wr n P St bt, it = .ref I ∧ Walks prog w A.in1 I fp wr n P St ∧ St 0 s₂.heap ∧ (∀ b ∈ fp, b < s₂.heap.objs.size) ∧ 0 < n ∧ CmpOf prog w A.in1 op P bt ∧
      ∀ v h' tk, P (argBest bt (n - 1)) v → (∀ b o, b ∉ wr → s₂.heap.get? b = some o → h'.get? b = some o) → Q v { s₂ with heap := h', toks := tk }) E { s with heap := s.heap.push { cls := .type "tuple", data := .seq vs } } := by
  have tup : (s.heap.push { cls := .type "tuple", data := .seq vs }).IsTuple s.heap.objs.size vs := ⟨_, Heap.get?_push_size _ rfl, rfl, 0, rfl⟩
  have low : ∀ d : Nat, d ≤ s.heap.objs.size → d < (s.heap.push { cls := .type "tuple", data := .seq vs }).objs.size := fun d hd => by rw [Heap.size_push]; exact Nat.lt_succ_of_le hd
  have W := Walks.tuple (prog := prog) (w := w) (A := A.in1) hh (s.heap.push { cls := .type "tuple", data := .seq vs }).objs.size s.heap.objs.size (Nat.ne_of_lt (low _ (Nat.le_refl _))) vs
  refine wpAny_pyIter_tuple tup ⟨_, _, _, _, _, _, bt, rfl, W, ⟨⟨_, Heap.get?_push_size _ rfl, rfl, rfl⟩, tup.push _⟩, ?_, by rw [h3]; decide, cmp, fun v h' tk hP k => ?_⟩
  · simp only [List.forall_mem_cons, Heap.size_push]
    exact ⟨Nat.lt_succ_self _, Nat.lt_succ_of_lt (Nat.lt_succ_self _), fun _ hm => nomatch hm⟩
  · rw [h3] at hP
    exact h v h' tk hP fun d o e => k d o (fun hm => absurd (List.mem_singleton.mp hm) (Nat.ne_of_lt (low d (Nat.le_of_lt (Heap.lt_size e))))) (Heap.get?_push_of_some _ (Heap.get?_push_of_some _ e))
theorem three_num {x y z : Value} (hx : NumV x) (hy : NumV y) (hz : NumV z) : ∀ v ∈ #[x, y, z], NumV v := by
  simp only [List.mem_toArray, List.forall_mem_cons]; exact ⟨hx, hy, hz, fun _ hm => nomatch hm⟩
theorem max_lv {a b c : Nat} {t u x : Tok} {h₀ : Heap} {L : Addr} {m : Str → Option Value} {news : List (Addr × Obj)} (hh : A.handled = none) (ha : a < 17) (hb : b < 17) (hc : c < 17) (F : Fr h₀ L s.heap m) (N : News h₀ L s.heap news)
    (h : ∀ h' tk t', Fr h₀ L h' m → News h₀ L h' news → Q (.float (lv (max3 a b c)) t') { s with heap := h', toks := tk }) :
    wpAny (model prog w) A (call (.builtin "max") [.float (lv a) t, .float (lv b) u, .float (lv c) x]) Q E s := by
  refine call_max_three (three_walk hh rfl (cmpOf_gt _ (three_num (.float _ _) (.float _ _) (.float _ _))) fun v h' tk hP hold => ?_)
  have hv : ∃ t', v = .float (lv (max3 a b c)) t' := by
    have e1 := ltV_lv (t := t) (u := u) ha hb
    have e2 := ltV_lv (t := u) (u := x) hb hc
    have e3 := ltV_lv (t := t) (u := x) ha hc
    by_cases h1 : a < b
    · by_cases h2 : b < c
      · refine ⟨x, ?_⟩; simp [argBest, e1, e2, h1, h2] at hP; simp [max3, h1, h2, hP]
      · refine ⟨u, ?_⟩; simp [argBest, e1, e2, h1, h2] at hP; simp [max3, h1, h2, hP]
    · by_cases h2 : a < c
      · refine ⟨x, ?_⟩; simp [argBest, e1, e3, h1, h2] at hP; simp [max3, h1, h2, hP]
      · refine ⟨t, ?_⟩; simp [argBest, e1, e3, h1, h2] at hP; simp [max3, h1, h2, hP]
  obtain ⟨t', rfl⟩ := hv
  exact h h' tk t' (F.grownK hold) (N.grown hold)
theorem min_lv {a b c : Nat} {t u x : Tok} {h₀ : Heap} {L : Addr} {m : Str → Option Value} {news : List (Addr × Obj)} (hh : A.handled = none) (ha : a < 17) (hb : b < 17) (hc : c < 17) (F : Fr h₀ L s.heap m) (N : News h₀ L s.heap news)
    (h : ∀ h' tk t', Fr h₀ L h' m → News h₀ L h' news → Q (.float (lv (min3 a b c)) t') { s with heap := h', toks := tk }) :
    wpAny (model prog w) A (call (.builtin "min") [.float (lv a) t, .float (lv b) u, .float (lv c) x]) Q E s := by
  refine call_min_three (three_walk hh rfl (cmpOf_lt _ (three_num (.float _ _) (.float _ _) (.float _ _))) fun v h' tk hP hold => ?_)
  have hv : ∃ t', v = .float (lv (min3 a b c)) t' := by
    have e1 := ltV_lv (t := u) (u := t) hb ha
    have e2 := ltV_lv (t := x) (u := u) hc hb
    have e3 := ltV_lv (t := x) (u := t) hc ha
    by_cases h1 : b < a
    · by_cases h2 : c < b
      · refine ⟨x, ?_⟩; simp [argBest, e1, e2, h1, h2] at hP; simp [min3, h1, h2, hP]
      · refine ⟨u, ?_⟩; simp [argBest, e1, e2, h1, h2] at hP; simp [min3, h1, h2, hP]
    · by_cases h2 : c < a
      · refine ⟨x, ?_⟩; simp [argBest, e1, e3, h1, h2] at hP; simp [min3, h1, h2, hP]
      · refine ⟨t, ?_⟩; simp [argBest, e1, e3, h1, h2] at hP; simp [min3, h1, h2, hP]
  obtain ⟨t', rfl⟩ := hv
  exact h h' tk t' (F.grownK hold) (N.grown hold)
end
theorem max3_lt {a b c : Nat} (ha : a < 17) (hb : b < 17) (hc : c < 17) : max3 a b c < 17 := by unfold max3; split <;> split <;> assumption
theorem min3_lt {a b c : Nat} (ha : a < 17) (hb : b < 17) (hc : c < 17) : min3 a b c < 17 := by unfold min3; split <;> split <;> assumption
theorem rnd_ok {prog : Program} {w : World} {A : Around} {E : Value → Shared → Prop} {s : Shared} {Q : Value → Shared → Prop} {a b : Nat} {t : Tok} (hA : A.handled = none) (ha : a < 17) (hb : b < 17) (h : Q (.int ((a + b : Nat) : Int) s.toks) { s with toks := s.toks + 1 }) :
    wpAny (model prog w) A (call (.builtin "round") [.float (Float64.mul 4629700416936869888 (Float64.div (Float64.add (lv a) (lv b)) 4611686018427387904)) t]) Q E s := by
  have hf := lv_fin a ha b hb
  refine call_round_float hA (fun e => ?_) (fun e => ?_) (fun _ => by rw [lv_rnd a ha b hb]; exact h)
  · rw [not_nan_of_finite hf] at e; cases e
  · rw [not_inf_of_finite hf] at e; cases e
end Mine
end
section
open PySem PySem.W PyProof.Rows PySem.Spec PySem.Calls PySem.Flt
namespace Mine
section
inductive RgbPost (a b c : Nat) (news : List (Addr × Obj)) (v : Value) (news' : List (Addr × Obj)) : Prop
  | mk : ∀ p h s t1 t2 t3, v = .ref p → news' = (p, { cls := .type "tuple", data := .seq #[.float h t1, .float (Float64.div (Float64.add (lv (max3 a b c)) (lv (min3 a b c))) 4611686018427387904) t2, .float s t3] }) :: news → RgbPost a b c news v news'
theorem rgb_ok {w : World} (a b c : Nat) (ta tb tc : Tok) (ha : a < 17) (hb : b < 17) (hc : c < 17) (news : List (Addr × Obj)) :
    Does w 2 21 [.float (lv a) ta, .float (lv b) tb, .float (lv c) tc] news (fun v news' => RgbPost a b c news v news') := by
  k_with_none; w_top off
  k_with "call builtin:max" => ((with_reducible show wpAny _ _ (call _ [Value.float (lv _) _, Value.float (lv _) _, Value.float (lv _) _]) _ _ _); k_dflt (refine' max_lv ?k0 ?k1 ?k2 ?k3 ?k4 ?k5 ?_; (case k0 => rfl); (case k1 => assumption); (case k2 => assumption); (case k3 => assumption); (case k4 => k_asm); (case k5 => k_asm); k_whole); intro h' tk' t' F' N'; (try k_sweep))
  k_with "call builtin:min" => ((with_reducible show wpAny _ _ (call _ [Value.float (lv _) _, Value.float (lv _) _, Value.float (lv _) _]) _ _ _); k_dflt (refine' min_lv ?k0 ?k1 ?k2 ?k3 ?k4 ?k5 ?_; (case k0 => rfl); (case k1 => assumption); (case k2 => assumption); (case k3 => assumption); (case k4 => k_asm); (case k5 => k_asm); k_whole); intro h' tk' t' F' N'; (try k_sweep))
  k_with "compareOp Eq float float" => ((with_reducible show wpAny _ _ (compareOp _ (Value.float (lv _) _) (Value.float (lv _) _)) _ _ _); k_dflt (refine' eq_lv ?k1 ?k2 ?_; (case k1 => assumption); (case k2 => assumption); k_whole))
  k_with "binaryOp Div float float" => (k_dflt (refine' div_ok ?k1 ?k2 ?_; (case k1 => rfl); (case k2 => first | assumption | decide +kernel | exact lv_sum _ (by assumption) _ (by assumption) (by omega) | exact lv_dif _ (by assumption) _ (by assumption) (by omega) | exact lv_two _ (by assumption) _ (by assumption) (by omega)); k_whole); try dsimp only)
  unfold Does; k_fill
  intro loose mean mg mb dp un gd cn cs a' ccd cl outer A₀ base h₀ L m s Q E B F X N T C1 C2 hk hdp hun hret
  have hM := max3_lt ha hb hc
  have hm := min3_lt ha hb hc
  k_dflt cell_enter
  k_steps
  all_goals (refine hret _ _ _ _ ⟨_, _, _, _, _, _, rfl, rfl⟩ (by k_asm) (by k_asm))
end
section
theorem mid_ok {w : World} (a b c : Int) (ta tb tc : Tok) (ha : 0 ≤ a ∧ a < 17) (hb : 0 ≤ b ∧ b < 17) (hc : 0 ≤ c ∧ c < 17) :
    Pure w 4 125 [.int a ta, .int b tb, .int c tc] (fun v => ∃ t, v = .int (a + b + c - (max3 a.toNat b.toNat c.toNat + min3 a.toNat b.toNat c.toNat : Nat)) t) := by
  k_with_none
  k_with "binaryOp Div int float" => (k_dflt (refine' div16 ?k1 ?k2 ?_; (case k1 => rfl); (case k2 => assumption); k_whole))
  k_with "call builtin:round" => (k_dflt (refine' rnd_ok ?k1 ?k2 ?k3 ?_; (case k1 => rfl); (case k2 => assumption); (case k3 => assumption); k_whole))
  k_with "call ref" => ((with_reducible show wpAny _ _ (call (Value.ref 21) _) _ _ _); k_dflt (refine' (rgb_ok _ _ _ _ _ _ ?c1 ?c2 ?c3 _).use ?k1 ?k2 ?k3 ?k4 ?k5 ?k9 ?k10 ?k6 ?k7 ?k8 ?_; (case c1 => assumption); (case c2 => assumption); (case c3 => assumption); (case k1 => k_asm); (case k2 => k_asm); (case k3 => k_asm); (case k4 => k_asm); (case k5 => k_asm); (case k9 => assumption); (case k10 => assumption); (case k6 => first | assumption | rfl); (case k7 => ktr_room); (case k8 => ktr_units); k_whole); (rintro v' h' tk' news' ⟨p', h9, s9, t91, t92, t93, e1, e2⟩ F' N'); subst e1; subst e2; (try dsimp only); (try k_sweep); (try k_fold))
  obtain ⟨a', rfl⟩ := Int.eq_ofNat_of_zero_le ha.1
  obtain ⟨b', rfl⟩ := Int.eq_ofNat_of_zero_le hb.1
  obtain ⟨c', rfl⟩ := Int.eq_ofNat_of_zero_le hc.1
  simp only [Int.toNat_natCast]
  have ha := ha.2; have hb := hb.2; have hc := hc.2
  replace ha : a' < 17 := by omega
  replace hb : b' < 17 := by omega
  replace hc : c' < 17 := by omega
  have hM := max3_lt ha hb hc
  have hm := min3_lt ha hb hc
  unfold Pure Does; k_fill
  intro news loose mean mg mb dp un gd cn cs a ccd cl outer A₀ base h₀ L m s Q E B F X N T C1 C2 hk hdp hun hret
  k_dflt cell_enter
  k_steps
  all_goals (refine hret _ _ _ _ ⟨int_end ?_, rfl⟩ (by k_asm) (fun p hp => (by assumption : News _ _ _ (_ :: news)) p (List.mem_cons_of_mem _ hp)); rfl)
end
end Mine
end
section
open PySem PySem.W PyProof.Rows PySem.Spec PySem.Calls
open Builtin Builtin.ObjectAttr
namespace Mine
theorem slot_fn_ga : Slot "function" "__getattribute__" "object.__getattribute__" :=
  .of (owner := "object") (n := "__getattribute__") (by rw [typeLookup_type, builtinLookup_eq_fast]; kernel_rfl) (by decide +kernel) (by decide +kernel) (by decide +kernel)
    (by first | exact .inl (by decide +kernel) | exact .inr (by decide +kernel)) (by rw [isSubtype_type]; kernel_rfl)
theorem slot_fn_sa : Slot "function" "__setattr__" "object.__setattr__" :=
  .of (owner := "object") (n := "__setattr__") (by rw [typeLookup_type, builtinLookup_eq_fast]; kernel_rfl) (by decide +kernel) (by decide +kernel) (by decide +kernel)
    (by first | exact .inl (by decide +kernel) | exact .inr (by decide +kernel)) (by rw [isSubtype_type]; kernel_rfl)
theorem look_fn_hook : typeLookup (.type "function") "__getattr__" = pure none := by rw [typeLookup_type, builtinLookup_eq_fast]; kernel_rfl
theorem look_fn_read : typeLookup (.type "function") "read" = pure none := by rw [typeLookup_type, builtinLookup_eq_fast]; kernel_rfl
section
variable {prog : Program} {w : World} {A : Around} {E : Value → Shared → Prop} {h : Heap} {g : Array GenState} {d : Drawn} {t : Nat} {os : OsState}
theorem method_fn0 {f dx : Addr} {fd : FuncData} {sl : Array (Option Value)} {r : Addr} {tk : Tok} {Q : Value × List Value → Shared → Prop} {pl : Sem Bool}
    (hf : h.get? f = some (⟨.type "function", some dx, .func fd, sl⟩ : Obj)) (hd : h.get? dx = some (dictOf [⟨PyData.keyHash w.params "read", .str "read" tk, .ref r⟩] 1))
    (hq : ∀ t, Q (.ref r, []) ⟨h, g, d, t, os⟩) :
    wpAny (model prog w) A (getMethod (.ref f) "read" pl) Q E ⟨h, g, d, t, os⟩ := by
  have hT : ∀ t', (⟨h, g, d, t', os⟩ : Shared).TypeIs (.ref f) "function" := fun _ => ⟨_, hf, rfl⟩
  have h1 := look_fn_hook
  have h2 := look_fn_read
  have h3 := slot_fn_ga.lookup
  unfold getMethod
  refine wpAny_bind (wpAny_specialOf (hT _) slot_fn_ga.lookup ?_)
  ((with_reducible apply PySem.wpAny_ite_false); focus (rfl; done))
  with_reducible refine PySem.wpAny_bind ?_
  wp_delta
  with_reducible refine PySem.wpAny_bind ?_
  wp_delta
  with_reducible refine PySem.wpAny_bind ?_
  ((with_reducible apply PySem.wpAny_loadPart'); focus (heap_get; done))
  with_reducible refine PySem.wpAny_pure ?_
  with_reducible refine PySem.wpAny_of_eq (by assumption) ?_
  ((with_reducible apply PySem.wpAny_ite_false); focus (rfl; done))
  with_reducible refine PySem.wpAny_bind ?_
  wp_delta
  with_reducible refine PySem.wpAny_bind ?_
  wp_delta
  with_reducible refine PySem.wpAny_bind ?_
  ((with_reducible apply PySem.wpAny_loadPart'); focus (heap_get; done))
  with_reducible refine PySem.wpAny_pure ?_
  with_reducible refine PySem.wpAny_of_eq (by assumption) ?_
  with_reducible refine PySem.wpAny_bind ?_
  wp_delta
  with_reducible refine PySem.wpAny_bind ?_
  wp_delta
  with_reducible refine PySem.wpAny_bind ?_
  with_reducible refine PySem.wpAny_fresh' ?_
  with_reducible refine PySem.wpAny_pure ?_
  wp_delta
  with_reducible refine PySem.wpAny_holding ?_
  with_reducible refine PySem.wpAny_bind ?_
  wp_delta
  with_reducible refine PySem.wpAny_bind ?_
  ((with_reducible apply PySem.wpAny_loadPart'); focus (heap_get; done))
  with_reducible refine PySem.wpAny_pure ?_
  with_reducible refine PySem.wpAny_bind ?_
  with_reducible refine PySem.wpAny_of_eq (by assumption) ?_
  ((with_reducible apply PySem.wpAny_ite_false); focus (rfl; done))
  wp_delta
  with_reducible refine PySem.wpAny_bind ?_
  wp_delta
  ((with_reducible apply PySem.wpAny_ite_false); focus (rfl; done))
  with_reducible refine PySem.wpAny_pure ?_
  with_reducible refine PySem.wpAny_bind ?_
  with_reducible refine PySem.wpAny_attempt ?_
  with_reducible refine PySem.wpAny_holding ?_
  wp_delta
  ((with_reducible apply PySem.wpAny_ite_false); focus (rfl; done))
  wp_delta
  with_reducible refine PySem.wpAny_bind ?_
  refine wpAny_of_eq (slot_fn_ga.bind _) ?_
  with_reducible refine PySem.wpAny_call ?_
  refine codeAny_call_builtin slot_fn_ga.plain F.entry_object_getattribute (slot_fn_ga.check _ _ _ _ _ _ _ _ (hT _) (F.args_object_getattribute_2 _ _) ?_)
  unfold Builtin.«object.__getattribute__»
  with_reducible refine PySem.wpAny_bind ?_
  wp_delta
  ((with_reducible apply PySem.wpAny_ite_false); focus (rfl; done))
  wp_delta
  ((with_reducible apply PySem.wpAny_ite_false); focus (rfl; done))
  with_reducible refine PySem.wpAny_pure ?_
  wp_delta
  with_reducible refine PySem.wpAny_bind ?_
  wp_delta
  with_reducible refine PySem.wpAny_pure ?_
  with_reducible refine PySem.wpAny_bind ?_
  wp_delta
  with_reducible refine PySem.wpAny_bind ?_
  ((with_reducible apply PySem.wpAny_loadPart'); focus (heap_get; done))
  with_reducible refine PySem.wpAny_pure ?_
  with_reducible refine PySem.wpAny_bind ?_
  wp_delta
  with_reducible refine PySem.wpAny_bind ?_
  with_reducible refine PySem.wpAny_of_eq (by assumption) ?_
  with_reducible refine PySem.wpAny_bind ?_
  wp_delta
  with_reducible refine PySem.wpAny_pure ?_
  with_reducible refine PySem.wpAny_bind ?_
  wp_delta
  with_reducible refine PySem.wpAny_pure ?_
  wp_delta
  wp_delta
  with_reducible refine PySem.wpAny_bind ?_
  wp_delta
  with_reducible refine PySem.wpAny_bind ?_
  wp_delta
  with_reducible refine PySem.wpAny_bind ?_
  wp_delta
  ((with_reducible apply PySem.wpAny_loadPart'); focus (heap_get; done))
  wp_delta
  wp_delta
  with_reducible refine PySem.wpAny_bind ?_
  ((with_reducible apply PySem.wpAny_loadPart'); focus (heap_get; done))
  with_reducible refine PySem.wpAny_pure ?_
  wp_delta
  wp_delta
  with_reducible refine PySem.wpAny_bind ?_
  ((with_reducible apply PySem.wpAny_loadPart'); focus (heap_get; done))
  wp_delta
  with_reducible refine PySem.wpAny_pure ?_
  with_reducible refine PySem.wpAny_bind ?_
  with_reducible refine PySem.wpAny_rule ?_
  with_reducible refine PySem.wpAny_pure ?_
  wp_delta
  wp_delta
  with_reducible refine PySem.wpAny_pure ?_
  wp_delta
  wp_delta
  with_reducible refine PySem.wpAny_pure ?_
  with_reducible refine PySem.wpAny_pure ?_
  exact hq _
theorem setattr_fn0 {f : Addr} {fd : FuncData} {sl : Array (Option Value)} {v : Value} {Q : Unit → Shared → Prop}
    (hf : h.get? f = some (⟨.type "function", none, .func fd, sl⟩ : Obj))
    (hq : ∀ h' tk tk', h'.get? f = some ⟨.type "function", some h.objs.size, .func fd, sl⟩ → h'.get? h.objs.size = some (dictOf [⟨PyData.keyHash w.params "read", .str "read" tk, v⟩] 1) →
      (∀ b o, b ≠ f → h.get? b = some o → h'.get? b = some o) → Q () ⟨h', g, d, tk', os⟩) :
    wpAny (model prog w) A (setAttr (.ref f) "read" v) Q E ⟨h, g, d, t, os⟩ := by
  have hT : ∀ t', (⟨h, g, d, t', os⟩ : Shared).TypeIs (.ref f) "function" := fun _ => ⟨_, hf, rfl⟩
  have h1 := look_fn_hook
  have h2 := look_fn_read
  have h3 := slot_fn_sa.lookup
  unfold setAttr
  with_reducible refine PySem.wpAny_bind ?_
  wp_delta
  with_reducible refine PySem.wpAny_bind ?_
  with_reducible refine PySem.wpAny_fresh' ?_
  with_reducible refine PySem.wpAny_pure ?_
  with_reducible refine PySem.wpAny_bind ?_
  wp_delta
  with_reducible refine PySem.wpAny_bind ?_
  wp_delta
  with_reducible refine PySem.wpAny_bind ?_
  wp_delta
  with_reducible refine PySem.wpAny_bind ?_
  ((with_reducible apply PySem.wpAny_loadPart'); focus (heap_get; done))
  with_reducible refine PySem.wpAny_pure ?_
  with_reducible refine PySem.wpAny_of_eq (by assumption) ?_
  with_reducible refine PySem.wpAny_holding ?_
  with_reducible refine PySem.wpAny_bind ?_
  refine wpAny_of_eq (slot_fn_sa.bind _) ?_
  with_reducible refine PySem.wpAny_bind ?_
  with_reducible refine PySem.wpAny_call ?_
  refine codeAny_call_builtin slot_fn_sa.plain F.entry_object_setattr (slot_fn_sa.check _ _ _ _ _ _ _ _ (hT _) (F.args_object_setattr_3 _ _ _) ?_)
  unfold Builtin.«object.__setattr__»
  ((with_reducible apply PySem.wpAny_ite_false); focus (rfl; done))
  wp_delta
  with_reducible refine PySem.wpAny_bind ?_
  wp_delta
  with_reducible refine PySem.wpAny_bind ?_
  wp_delta
  with_reducible refine PySem.wpAny_bind ?_
  ((with_reducible apply PySem.wpAny_loadPart'); focus (heap_get; done))
  with_reducible refine PySem.wpAny_pure ?_
  with_reducible refine PySem.wpAny_bind ?_
  wp_delta
  with_reducible refine PySem.wpAny_pure ?_
  with_reducible refine PySem.wpAny_bind ?_
  wp_delta
  wp_delta
  wp_delta
  wp_delta
  with_reducible refine PySem.wpAny_bind ?_
  ((with_reducible apply PySem.wpAny_ite_false); focus (rfl; done))
  ((with_reducible apply PySem.wpAny_ite_false); focus (rfl; done))
  with_reducible refine PySem.wpAny_bind ?_
  wp_delta
  with_reducible refine PySem.wpAny_pure ?_
  ((with_reducible apply PySem.wpAny_ite_false); focus (rfl; done))
  with_reducible refine PySem.wpAny_pure ?_
  wp_delta
  wp_delta
  with_reducible refine PySem.wpAny_bind ?_
  ((with_reducible apply PySem.wpAny_ite_false); focus (rfl; done))
  ((with_reducible apply PySem.wpAny_ite_false); focus (rfl; done))
  with_reducible refine PySem.wpAny_bind ?_
  wp_delta
  with_reducible refine PySem.wpAny_pure ?_
  ((with_reducible apply PySem.wpAny_ite_true); focus (rfl; done))
  ((with_reducible apply PySem.wpAny_ite_false); focus (rfl; done))
  with_reducible refine PySem.wpAny_pure ?_
  with_reducible refine PySem.wpAny_pure ?_
  with_reducible refine PySem.wpAny_pure ?_
  with_reducible refine PySem.wpAny_bind ?_
  wp_delta
  with_reducible refine PySem.wpAny_pure ?_
  with_reducible refine PySem.wpAny_bind ?_
  wp_delta
  with_reducible refine PySem.wpAny_bind ?_
  ((with_reducible apply PySem.wpAny_loadPart'); focus (heap_get; done))
  with_reducible refine PySem.wpAny_pure ?_
  with_reducible refine PySem.wpAny_bind ?_
  with_reducible refine PySem.wpAny_of_eq (by assumption) ?_
  with_reducible refine PySem.wpAny_bind ?_
  wp_delta
  with_reducible refine PySem.wpAny_pure ?_
  wp_delta
  wp_delta
  with_reducible refine PySem.wpAny_bind ?_
  wp_delta
  ((with_reducible apply PySem.wpAny_ite_false); focus (rfl; done))
  ((with_reducible apply PySem.wpAny_ite_false); focus (rfl; done))
  with_reducible refine PySem.wpAny_pure ?_
  ((with_reducible apply PySem.wpAny_ite_false); focus (rfl; done))
  with_reducible refine PySem.wpAny_bind ?_
  wp_delta
  wp_delta
  with_reducible refine PySem.wpAny_bind ?_
  ((with_reducible apply PySem.wpAny_loadPart'); focus (heap_get; done))
  ((with_reducible apply PySem.wpAny_ite_false); focus (rfl; done))
  with_reducible refine PySem.wpAny_bind ?_
  with_reducible refine PySem.wpAny_alloc' ?_
  with_reducible refine PySem.wpAny_bind ?_
  ((with_reducible apply PySem.wpAny_update'); focus (heap_get; done))
  wp_delta
  ((with_reducible apply PySem.wpAny_ite_false); focus (rfl; done))
  with_reducible refine PySem.wpAny_pure ?_
  wp_delta
  wp_delta
  with_reducible refine PySem.wpAny_bind ?_
  wp_delta
  with_reducible refine PySem.wpAny_pure ?_
  with_reducible refine PySem.wpAny_bind ?_
  wp_delta
  with_reducible refine PySem.wpAny_bind ?_
  wp_delta
  with_reducible refine PySem.wpAny_bind ?_
  have hfs : f ≠ h.objs.size := Nat.ne_of_lt (Heap.lt_size hf)
  have hgd : ((h.push { cls := .type "dict", data := .dict #[] }).update f fun o => { cls := o.cls, dict := some h.objs.size, data := o.data, slots := o.slots }).get? h.objs.size
          = some { cls := .type "dict", data := .dict #[] } :=
        (Heap.get?_update_ne _ _ _ _ hfs.symm).trans (Heap.get?_push_at rfl rfl)
  refine wpAny_askSetting ?_
  refine wpAny_pure ?_
  refine wpAny_bind (wpAny_mkText ?_)
  refine wpAny_bind (wpAny_loadPart hgd ?_)
  dsimp only
  ((with_reducible apply PySem.wpAny_ite_false); focus (rfl; done))
  ((with_reducible apply PySem.wpAny_updatePart'); focus (heap_get; done))
  with_reducible refine PySem.wpAny_bind ?_
  wp_delta
  with_reducible refine PySem.wpAny_bind ?_
  ((with_reducible apply PySem.wpAny_loadPart'); focus (heap_get; done))
  wp_delta
  with_reducible refine PySem.wpAny_pure ?_
  wp_delta
  with_reducible refine PySem.wpAny_pure ?_
  with_reducible refine PySem.wpAny_pure ?_
  with_reducible refine PySem.wpAny_pure ?_
  have hf1 : (h.push { cls := .type "dict", data := .dict #[] }).get? f = some (⟨.type "function", none, .func fd, sl⟩ : Obj) := Heap.get?_push_of_some _ hf
  refine hq _ (t + 1) _ ?_ ?_ ?_
  · refine (Heap.get?_update_ne _ _ _ _ hfs).trans ?_
    exact Heap.get?_update_self _ hf1 rfl
  · refine (Heap.get?_update_self _ hgd rfl).trans ?_
    rfl
  · intro b o hb e
    refine (Heap.get?_update_ne _ _ _ _ (Nat.ne_of_lt (Heap.lt_size e))).trans ((Heap.get?_update_ne _ _ _ _ hb).trans (Heap.get?_push_of_some _ e))
end
section
variable {prog : Program} {w : World} {A : Around} {E : Value → Shared → Prop} {s : Shared} {h₀ : Heap} {L : Addr} {m : Str → Option Value} {news : List (Addr × Obj)}
theorem setattr_fn {g : Obj → List (Addr × Obj)} {f : Addr} {fd : FuncData} {sl : Array (Option Value)} {v : Value} {Q : Unit → Shared → Prop} (F : Fr h₀ L s.heap m) (N : News h₀ L s.heap news)
    (U : UpdF f ⟨.type "function", none, .func fd, sl⟩ news g)
    (h : ∀ d t h' tk, Fr h₀ L h' m → News h₀ L h' ((d, dictOf [⟨PyData.keyHash w.params "read", .str "read" t, v⟩] 1) :: g ⟨.type "function", some d, .func fd, sl⟩) → (∀ p ∈ news, p.1 < d) → Q () { s with heap := h', toks := tk }) :
    wpAny (model prog w) A (setAttr (.ref f) "read" v) Q E s := by
  obtain ⟨own, rest, rfl, hgr, h1, h2⟩ := U.split
  have hm := N (f, _) (List.mem_append_right _ (.head _))
  obtain ⟨hp, gs, dr, tk, os⟩ := s
  refine setattr_fn0 hm.1 fun h' t' tk' e1 e2 e3 => ?_
  have hlt : ∀ p ∈ own ++ (f, (⟨.type "function", none, .func fd, sl⟩ : Obj)) :: rest, p.1 < hp.objs.size := fun p hp' => Heap.lt_size (N p hp').1
  refine h hp.objs.size t' h' tk' ⟨?_, fun b o e => ?_, F.above⟩ (fun p hp' => ?_) hlt
  · exact F.ns.extBut (fun b o hb e => e3 b o hb e) hm.2.1.symm
  · exact e3 b o (fun q => by rw [q, hm.2.2] at e; cases e) (F.keep b o e)
  · rcases List.mem_cons.mp hp' with rfl | hp'
    · exact ⟨e2, Nat.ne_of_gt F.ns.lt, Heap.get?_none_of_le (Nat.le_trans F.above (Nat.le_of_lt F.ns.lt))⟩
    · rw [hgr] at hp'
      rcases List.mem_append.mp hp' with hp' | hp'
      · have n := N p (List.mem_append_left _ hp')
        exact ⟨e3 _ _ (h1 p hp') n.1, n.2⟩
      · rcases List.mem_cons.mp hp' with rfl | hp'
        · exact ⟨e1, hm.2⟩
        · have n := N p (List.mem_append_right _ (.tail _ hp'))
          exact ⟨e3 _ _ (h2 p hp') n.1, n.2⟩
theorem method_fn {f d : Addr} {fd : FuncData} {sl : Array (Option Value)} {r : Addr} {t : Tok} {Q : Value × List Value → Shared → Prop} {pl : Sem Bool} (N : News h₀ L s.heap news)
    (h1 : (f, (⟨.type "function", some d, .func fd, sl⟩ : Obj)) ∈ news) (h2 : (d, dictOf [⟨PyData.keyHash w.params "read", .str "read" t, .ref r⟩] 1) ∈ news)
    (h : ∀ tk, Q (.ref r, []) { s with toks := tk }) :
    wpAny (model prog w) A (getMethod (.ref f) "read" pl) Q E s := by
  obtain ⟨hp, gs, dr, tk, os⟩ := s
  exact method_fn0 (N _ h1).1 (N _ h2).1 fun t => h t
end
end Mine
end
section
open PySem PySem.W PyProof.Rows PySem.Spec PySem.Calls
namespace Mine
/-- what _law_machine makes: the addresses, the tokens and the objects that nobody looks into -/
structure MV where
  (pl x d dR fS cS fR cR lA cAt cTx : Addr)
  (t1 t2 t3 t4 t5 t6 : Tok)
  (fdS fdR : FuncData)
  (ocS ocR oAt oTx : Obj)
  (na : Nat)
structure MV.Ok (V : MV) : Prop where
  (o1 : @LT.lt Nat _ 113 V.cTx) (o2 : @LT.lt Nat _ V.cTx V.cAt) (o3 : @LT.lt Nat _ V.cAt V.lA) (o4 : @LT.lt Nat _ V.lA V.cR) (o5 : @LT.lt Nat _ V.cR V.fR) (o6 : @LT.lt Nat _ V.fR V.cS) (o7 : @LT.lt Nat _ V.cS V.fS) (o8 : @LT.lt Nat _ V.fS V.dR) (o9 : @LT.lt Nat _ V.dR V.d) (o10 : @LT.lt Nat _ V.d V.x) (o11 : @LT.lt Nat _ V.x V.pl)
abbrev MV.adr (V : MV) : List Addr := [V.pl, V.x, V.d, V.dR, V.fS, V.cS, V.fR, V.cR, V.lA, V.cAt, V.cTx]
abbrev MV.led (V : MV) (w : World) (line : Int) (tl : Tok) (push : List Value) (pn : Nat) (p : Int) (tp : Tok) (rest : List (Addr × Obj)) : List (Addr × Obj) :=
  (V.pl, W.listOf push.toArray pn) :: (V.x, instObj 81 V.d) ::
  (V.d, dictOf [⟨PyData.keyHash w.params "lineno", .str "lineno" V.t1, .int line tl⟩, ⟨PyData.keyHash w.params "instream", .str "instream" V.t2, .ref V.fS⟩,
      ⟨PyData.keyHash w.params "whitespace", .str "whitespace" V.t3, .str "\n\t\r " V.t4⟩, ⟨PyData.keyHash w.params "pushback", .str "pushback" V.t5, .ref V.pl⟩] 4) ::
  (V.dR, dictOf [⟨PyData.keyHash w.params "read", .str "read" V.t6, .ref V.fR⟩] 1) :: (V.fS, (⟨.type "function", some V.dR, .func V.fdS, #[]⟩ : Obj)) :: (V.cS, V.ocS) ::
  (V.fR, (⟨.type "function", none, .func V.fdR, #[]⟩ : Obj)) :: (V.cR, V.ocR) :: (V.lA, W.listOf #[.int p tp] V.na) :: (V.cAt, V.oAt) :: (V.cTx, V.oTx) :: rest
/-- the sign of a text at a place, or none -/
def chAt (x : Str) (p : Nat) : Str := match x.cps[p]? with | some c => ⟨#[c]⟩ | none => ⟨#[]⟩
def Reads (w : World) (V : MV) (x : Str) : Prop :=
  ∀ (line : Int) (tl : Tok) (push : List Value) (pn : Nat) (p : Nat) (tp tz : Tok) (rest : List (Addr × Obj)), p ≤ x.length → OwnOff rest V.adr →
    Does w 2 V.fR [.int 1 tz] (V.led w line tl push pn p tp rest) (fun v news' => ∃ t tp', v = .str (chAt x p) t ∧ news' = V.led w line tl push pn ((p + (chAt x p).length : Nat) : Int) tp' rest)
theorem off_cons {V : MV} (hV : V.Ok) {a : Addr × Obj} {rest : List (Addr × Obj)} (h : @LT.lt Nat _ V.pl a.1) (r : OwnOff rest V.adr) : OwnOff (a :: rest) V.adr := by
  obtain ⟨o1, o2, o3, o4, o5, o6, o7, o8, o9, o10, o11⟩ := hV
  intro q hq b hb
  rcases List.mem_cons.mp hq with rfl | hq
  · simp only [MV.adr, List.mem_cons, List.not_mem_nil, or_false] at hb
    refine neN ?_
    rcases hb with rfl | rfl | rfl | rfl | rfl | rfl | rfl | rfl | rfl | rfl | rfl <;> omega
  · exact r q hq b hb
theorem led_off {w : World} {V : MV} (hV : V.Ok) {line : Int} {tl : Tok} {push : List Value} {pn : Nat} {p : Int} {tp : Tok} {rest : List (Addr × Obj)} {I : Addr} (h : @LT.lt Nat _ V.pl I) (hr : ∀ q ∈ rest, q.1 ≠ I) : ∀ q ∈ V.led w line tl push pn p tp rest, q.1 ≠ I := by
  obtain ⟨o1, o2, o3, o4, o5, o6, o7, o8, o9, o10, o11⟩ := hV
  intro q hq
  simp only [MV.led, List.mem_cons] at hq
  rcases hq with rfl | rfl | rfl | rfl | rfl | rfl | rfl | rfl | rfl | rfl | rfl | hq
  all_goals first
    | exact hr q hq
    | (refine neN ?_; dsimp only; omega)
end Mine
end
section
open PySem PySem.W PyProof.Rows PySem.Spec PySem.Calls
namespace Mine
section
theorem readch_ok {w : World} (V : MV) (hV : V.Ok) (x : Str) (hR : Reads w V x) (line : Int) (tl : Tok) (push : List Value) (pn p : Nat) (tp : Tok) (rest : List (Addr × Obj)) (hp : p ≤ x.length) (ho : OwnOff rest V.adr) :
    Does w 5 64 [.ref V.x] (V.led w line tl push pn p tp rest) (fun v news' => ∃ t tp' tl', v = .str (chAt x p) t ∧ news' = V.led w (if (chAt x p == Str.ofString "\n") = true then line + 1 else line) tl' push pn ((p + (chAt x p).length : Nat) : Int) tp' rest) := by
  k_with_none; w_top off
  k_with "getMethod ref" => (k_here; k_dflt (refine' method_fn ?N ?h1 ?h2 ?_; (case N => k_asm); (case h1 => k_mem); (case h2 => k_mem); k_whole); intro tk')
  k_with "call ref" => (k_here; (with_reducible show wpAny _ _ (call (Value.ref (MV.fR _)) _) _ _ _); (rename Reads _ _ _ => hR9); k_dflt (refine' (hR9 _ _ _ _ _ _ _ _ ?r1 ?r2).use ?k1 ?k2 ?k3 ?k4 ?k5 ?c1 ?c2 ?k6 ?k7 ?k8 ?_; (case k1 => k_asm); (case k2 => k_asm); (case k3 => k_asm); (case k4 => k_asm); (case r1 => assumption); (case r2 => assumption); (case k5 => k_asm); (case c1 => assumption); (case c2 => assumption); (case k6 => first | assumption | rfl); (case k7 => ktr_room); (case k8 => ktr_units); k_whole); (rintro v' h' tk' news' ⟨t', tp', e1, e2⟩ F' N'); subst e1; subst e2; (try dsimp only); (try k_sweep); (try k_fold))
  unfold Does; k_fill
  intro loose mean mg mb dp un gd cn cs a ccd cl outer A₀ base h₀ L m s Q E B F X N T C1 C2 hk hdp hun hret
  obtain ⟨o1, o2, o3, o4, o5, o6, o7, o8, o9, o10, o11⟩ := hV
  k_dflt cell_enter
  k_steps
  · refine' hret _ _ _ (V.led w (line + 1) ?tl push pn ?pp ?tp rest) ⟨?t1, ?t2, ?t3, ?e0, ?e⟩ ?f ?n
    (case f => k_asm); (case n => k_asm); (case e0 => rfl); (case e => rw [if_pos (by assumption)])
  · refine' hret _ _ _ (V.led w line ?tlb push pn ?ppb ?tpb rest) ⟨?t1b, ?t2b, ?t3b, ?e0b, ?eb⟩ ?fb ?nb
    (case fb => k_asm); (case nb => k_asm); (case e0b => rfl); (case eb => rw [if_neg (by simp_all)])
end
end Mine
end
section
open PySem PySem.W PyProof.Rows PySem.Spec PySem.Calls
open Builtin Builtin.SmallTypes
namespace Mine
theorem entry_iter : entryFor table "iter" = some Builtin.«iter» := entryFor_of_fast (by kernel_rfl)
theorem kind_iter : builtinKind "iter" = none := by decide +kernel
theorem plain_iter : plainId "iter" = true := by decide +kernel
theorem args_iter2 (a b : Value) : argsOk "iter" ⟨[a, b], []⟩ := by unfold argsOk; kernel_rfl
theorem slot_meth_call : Slot "method" "__call__" "method.__call__" :=
  .of (owner := "method") (n := "__call__") (by rw [typeLookup_type, builtinLookup_eq_fast]; kernel_rfl) (by decide +kernel) (by decide +kernel) (by decide +kernel)
    (by first | exact .inl (by decide +kernel) | exact .inr (by decide +kernel)) (by rw [isSubtype_type]; kernel_rfl)
theorem slot_ci_next : Slot "callable_iterator" "__next__" "callable_iterator.__next__" :=
  .of (owner := "callable_iterator") (n := "__next__") (by rw [typeLookup_type, builtinLookup_eq_fast]; kernel_rfl) (by decide +kernel) (by decide +kernel) (by decide +kernel)
    (by first | exact .inl (by decide +kernel) | exact .inr (by decide +kernel)) (by rw [isSubtype_type]; kernel_rfl)
theorem entry_ci_next : entryFor table "callable_iterator.__next__" = some Builtin.«callable_iterator.__next__» := entryFor_of_tree (by kernel_rfl)
theorem args_ci_next (a : Value) : argsOk "callable_iterator.__next__" ⟨[a], []⟩ := by unfold argsOk; kernel_rfl
theorem slot_ci_iter : Slot "callable_iterator" "__iter__" "callable_iterator.__iter__" :=
  .of (owner := "callable_iterator") (n := "__iter__") (by rw [typeLookup_type, builtinLookup_eq_fast]; kernel_rfl) (by decide +kernel) (by decide +kernel) (by decide +kernel)
    (by first | exact .inl (by decide +kernel) | exact .inr (by decide +kernel)) (by rw [isSubtype_type]; kernel_rfl)
theorem entry_ci_iter : entryFor table "callable_iterator.__iter__" = some Builtin.«dict_keyiterator.__iter__» :=
  entryFor_alias (id' := "dict_keyiterator.__iter__") (by kernel_rfl) rfl (by decide +kernel) (by kernel_rfl)
theorem args_ci_iter (a : Value) : argsOk "callable_iterator.__iter__" ⟨[a], []⟩ := by unfold argsOk; kernel_rfl
def itObj (f z : Value) (e : Bool) : Obj := { cls := .type "callable_iterator", data := .fields #[f, z, .bool e] }
section
variable {prog : Program} {w : World} {A : Around} {E : Value → Shared → Prop} {h : Heap} {g : Array GenState} {d : Drawn} {t : Nat} {os : OsState}
theorem iter_call0 {M : Addr} {f self : Value} {z : Value} {Q : Value → Shared → Prop} (hM : h.get? M = some (methodObj f self))
    (hq : Q (.ref h.objs.size) ⟨h.push (itObj (.ref M) z false), g, d, t, os⟩) :
    wpAny (model prog w) A (call (.builtin "iter") [.ref M, z]) Q E ⟨h, g, d, t, os⟩ := by
  have hT : (⟨h, g, d, t, os⟩ : Shared).TypeIs (.ref M) "method" := ⟨_, hM, rfl⟩
  refine call_function_tree kind_iter plain_iter entry_iter (args_iter2 _ _) ?_
  unfold Builtin.«iter»
  with_reducible refine PySem.wpAny_bind ?_
  wp_delta
  with_reducible refine PySem.wpAny_bind ?_
  wp_delta
  ((with_reducible apply PySem.wpAny_ite_true); focus (rfl; done))
  with_reducible refine PySem.wpAny_pure ?_
  with_reducible refine PySem.wpAny_bind ?_
  wp_delta
  ((with_reducible apply PySem.wpAny_ite_false); focus (rfl; done))
  ((with_reducible apply PySem.wpAny_ite_false); focus (rfl; done))
  ((with_reducible apply PySem.wpAny_ite_false); focus (rfl; done))
  with_reducible refine PySem.wpAny_pure ?_
  with_reducible refine PySem.wpAny_pure ?_
  with_reducible refine PySem.wpAny_bind ?_
  wp_delta
  with_reducible refine PySem.wpAny_bind ?_
  with_reducible refine PySem.wpAny_typeOf (by assumption) ?_
  refine wpAny_of_eq slot_meth_call.lookup ?_
  ((with_reducible apply PySem.wpAny_ite_false); focus (rfl; done))
  with_reducible refine PySem.wpAny_bind ?_
  with_reducible refine PySem.wpAny_rule ?_
  with_reducible refine PySem.wpAny_bind ?_
  wp_delta
  wp_delta
  ((with_reducible apply PySem.wpAny_ite_false); focus (rfl; done))
  wp_delta
  wp_delta
  with_reducible refine PySem.wpAny_bind ?_
  with_reducible refine PySem.wpAny_alloc' ?_
  with_reducible refine PySem.wpAny_pure ?_
  wp_delta
  with_reducible refine PySem.wpAny_pure ?_
  exact hq
theorem iter_ci {s : Shared} {I : Addr} {f z : Value} {e : Bool} {Q : Value → Shared → Prop} (hI : s.heap.get? I = some (itObj f z e)) (hq : Q (.ref I) s) :
    wpAny (model prog w) A (pyIter (.ref I)) Q E s := by
  have hT : s.TypeIs (.ref I) "callable_iterator" := ⟨_, hI, rfl⟩
  refine wpAny_pyIter_slot hT slot_ci_iter (wpAny_call_entry slot_ci_iter hT entry_ci_iter ?_ (args_ci_iter _))
  show wpAny _ _ (ret (.ref I)) _ _ s
  exact wpAny_pure ⟨_, rfl, "callable_iterator", _, hT, slot_ci_next.lookup, hq⟩
theorem call_borrowed {s : Shared} {f : Value} {Q : Value → Shared → Prop} (h : codeAny (model prog w) A (.call f ⟨[], []⟩) (fun r s' => match r with | .ok (.ret v) => Q v s' | .ok _ => False | .error e => E e s') s) :
    wpAny (model prog w) A (callBorrowed f []) Q E s := by
  intro Γ p hΓ
  have h2 := (wpAny_call h) Γ p hΓ
  unfold callBorrowed
  unfold call runValue run at h2
  rw [Sem.wp_call]
  rw [Sem.wp_bind'] at h2
  rw [Sem.wp_call] at h2
  refine wpCode_mono (fun r s' hr => ?_) h2
  rcases r with e | f
  · simpa using hr
  · cases f <;> simpa using hr
theorem next_ci {s : Shared} {I M fn : Addr} {self : Value} {z : Str} {tz : Tok} {Q : Option Value → Shared → Prop} (hh : A.handled = none)
    (hI : s.heap.get? I = some (itObj (.ref M) (.str z tz) false)) (hM : s.heap.get? M = some (methodObj (.ref fn) self)) (hF : FnAt fn s.heap)
    (hc : codeAny (model prog w) A.in1 (.call (.ref fn) ⟨[self], []⟩) (fun r s' => match r with
      | .ok (.ret v) => ∃ x t, v = .str x t ∧ s'.heap.get? I = some (itObj (.ref M) (.str z tz) false) ∧ s'.heap.get? M = some (methodObj (.ref fn) self) ∧ FnAt fn s'.heap ∧
          (x ≠ z → Q (some v) s') ∧ (x = z → ∀ h', h'.get? I = some (itObj .none .none true) → Heap.ExtBut I s'.heap h' → Q none { s' with heap := h' })
      | .ok _ => False | .error e => False) s) :
    wpAny (model prog w) A (pyNext (.ref I)) Q E s := by
  have hT : s.TypeIs (.ref I) "callable_iterator" := ⟨_, hI, rfl⟩
  unfold pyNext
  refine wpAny_bind (wpAny_attempt (wpAny_callSpecial?_slot (name := Str.ofString "__next__") hT slot_ci_next (wpAny_call_entry slot_ci_next hT entry_ci_next ?_ (args_ci_next _))))
  unfold Builtin.«callable_iterator.__next__»
  obtain ⟨oc, od, fd, sl, hfn⟩ := hF
  with_reducible refine PySem.wpAny_bind ?_
  wp_delta
  ((with_reducible apply PySem.wpAny_ite_false); focus (rfl; done))
  ((with_reducible apply PySem.wpAny_ite_false); focus (rfl; done))
  with_reducible refine PySem.wpAny_pure ?_
  with_reducible refine PySem.wpAny_bind ?_
  wp_delta
  with_reducible refine PySem.wpAny_bind ?_
  wp_delta
  with_reducible refine PySem.wpAny_bind ?_
  ((with_reducible apply PySem.wpAny_load'); focus (heap_get; done))
  wp_delta
  with_reducible refine PySem.wpAny_pure ?_
  wp_delta
  with_reducible refine PySem.wpAny_pure ?_
  ((with_reducible apply PySem.wpAny_ite_false); focus (rfl; done))
  with_reducible refine PySem.wpAny_bind ?_
  wp_delta
  with_reducible refine PySem.wpAny_bind ?_
  wp_delta
  with_reducible refine PySem.wpAny_bind ?_
  ((with_reducible apply PySem.wpAny_load'); focus (heap_get; done))
  wp_delta
  with_reducible refine PySem.wpAny_pure ?_
  wp_delta
  with_reducible refine PySem.wpAny_pure ?_
  with_reducible refine PySem.wpAny_bind ?_
  with_reducible refine PySem.wpAny_attempt ?_
  wp_delta
  with_reducible refine PySem.wpAny_bind ?_
  wp_delta
  with_reducible refine PySem.wpAny_bind ?_
  ((with_reducible apply PySem.wpAny_load'); focus (heap_get; done))
  ((with_reducible apply PySem.wpAny_ite_true); focus (rfl; done))
  wp_delta
  with_reducible refine PySem.wpAny_bind ?_
  ((with_reducible apply PySem.wpAny_load'); focus (heap_get; done))
  with_reducible refine PySem.wpAny_pure ?_
  ((with_reducible apply PySem.wpAny_ite_true); focus (rfl; done))
  wp_delta
  show wpAny _ _ (callBorrowed (.ref M) []) _ _ _
  refine call_borrowed (method_call hM (codeAny_mono hc fun r s' hr => ?_))
  rcases r with e | f
  · exact hr.elim
  · cases f with
    | ret v =>
      obtain ⟨x, t, rfl, hI', hM', ⟨oc', od', fd', sl', hfn'⟩, q1, q2⟩ := hr
      dsimp only
      obtain ⟨h', g', d', t', os'⟩ := s'
      dsimp only at hI' hM' hfn' q1 q2
      by_cases hx : x = z
      · subst hx
        with_reducible refine PySem.wpAny_bind ?_
        wp_delta
        with_reducible refine PySem.wpAny_bind ?_
        wp_delta
        with_reducible refine PySem.wpAny_bind ?_
        ((with_reducible apply PySem.wpAny_load'); focus (heap_get; done))
        wp_delta
        with_reducible refine PySem.wpAny_pure ?_
        wp_delta
        with_reducible refine PySem.wpAny_pure ?_
        ((with_reducible apply PySem.wpAny_ite_false); focus (rfl; done))
        with_reducible refine PySem.wpAny_bind ?_
        wp_delta
        with_reducible refine PySem.wpAny_bind ?_
        wp_delta
        with_reducible refine PySem.wpAny_bind ?_
        ((with_reducible apply PySem.wpAny_load'); focus (heap_get; done))
        wp_delta
        with_reducible refine PySem.wpAny_pure ?_
        wp_delta
        with_reducible refine PySem.wpAny_pure ?_
        with_reducible refine PySem.wpAny_bind ?_
        with_reducible refine PySem.wpAny_holding ?_
        wp_delta
        with_reducible refine PySem.wpAny_holding ?_
        refine wpAny_eqBool_str (a := x) (b := x) (t := tz) (u := t) ?_
        ((with_reducible apply PySem.wpAny_ite_false); focus (simp [*]; done))
        with_reducible refine PySem.wpAny_bind ?_
        with_reducible refine PySem.wpAny_rule ?_
        with_reducible refine PySem.wpAny_bind ?_
        wp_delta
        with_reducible refine PySem.wpAny_bind ?_
        wp_delta
        with_reducible refine PySem.wpAny_bind ?_
        wp_delta
        with_reducible refine PySem.wpAny_bind ?_
        ((with_reducible apply PySem.wpAny_load'); focus (heap_get; done))
        wp_delta
        with_reducible refine PySem.wpAny_pure ?_
        wp_delta
        with_reducible refine PySem.wpAny_pure ?_
        with_reducible refine PySem.wpAny_bind ?_
        wp_delta
        with_reducible refine PySem.wpAny_bind ?_
        wp_delta
        with_reducible refine PySem.wpAny_bind ?_
        ((with_reducible apply PySem.wpAny_load'); focus (heap_get; done))
        ((with_reducible apply PySem.wpAny_ite_true); focus (rfl; done))
        wp_delta
        with_reducible refine PySem.wpAny_bind ?_
        ((with_reducible apply PySem.wpAny_load'); focus (heap_get; done))
        with_reducible refine PySem.wpAny_pure ?_
        ((with_reducible apply PySem.wpAny_ite_true); focus (rfl; done))
        with_reducible refine PySem.wpAny_pure ?_
        with_reducible refine PySem.wpAny_bind ?_
        wp_delta
        wp_delta
        with_reducible refine PySem.wpAny_bind ?_
        ((with_reducible apply PySem.wpAny_load'); focus (heap_get; done))
        wp_delta
        ((with_reducible apply PySem.wpAny_ite_true); focus (rfl; done))
        ((with_reducible apply PySem.wpAny_update'); focus (heap_get; done))
        with_reducible refine PySem.wpAny_bind ?_
        wp_delta
        wp_delta
        with_reducible refine PySem.wpAny_bind ?_
        ((with_reducible apply PySem.wpAny_load'); focus (heap_get; done))
        wp_delta
        ((with_reducible apply PySem.wpAny_ite_true); focus (rfl; done))
        ((with_reducible apply PySem.wpAny_update'); focus (heap_get; done))
        wp_delta
        wp_delta
        with_reducible refine PySem.wpAny_bind ?_
        ((with_reducible apply PySem.wpAny_load'); focus (heap_get; done))
        wp_delta
        ((with_reducible apply PySem.wpAny_ite_true); focus (rfl; done))
        ((with_reducible apply PySem.wpAny_update'); focus (heap_get; done))
        wp_delta
        with_reducible refine PySem.wpAny_bind ?_
        wp_delta
        with_reducible refine PySem.wpAny_bind ?_
        wp_delta
        wp_delta
        ((with_reducible apply PySem.wpAny_ite_false); focus (rfl; done))
        wp_delta
        wp_delta
        with_reducible refine PySem.wpAny_bind ?_
        with_reducible refine PySem.wpAny_alloc' ?_
        with_reducible refine PySem.wpAny_pure ?_
        with_reducible refine PySem.wpAny_bind ?_
        wp_delta
        with_reducible refine PySem.wpAny_bind ?_
        with_reducible refine PySem.wpAny_pure ?_
        with_reducible refine PySem.wpAny_pure ?_
        wp_delta
        ((with_reducible apply PySem.wpAny_ite_false); focus (rfl; done))
        wp_delta
        wp_delta
        with_reducible refine PySem.wpAny_bind ?_
        with_reducible refine PySem.wpAny_alloc' ?_
        with_reducible refine PySem.wpAny_pure ?_
        simp only [raiseNew]
        refine wpAny_bind (wpAny_handled ?_)
        rw [show A.in1.handled = none from hh]
        refine wpAny_bind (wpAny_pure (wpAny_throw ?_))
        refine wpAny_bind (wpAny_isInstance (T := "StopIteration") (b := true) ⟨_, Heap.get?_push_size _ rfl, rfl⟩ isSubtype_stop ?_)
        have u1 := Heap.get?_update_self (Obj.mapFields fun x => x.setIfInBounds 0 Value.none) hI' rfl
        have u2 := Heap.get?_update_self (Obj.mapFields fun x => x.setIfInBounds 1 Value.none) u1 rfl
        have u3 := Heap.get?_update_self (Obj.mapFields fun x => x.setIfInBounds 2 (Value.bool true)) u2 rfl
        refine wpAny_pure (q2 rfl _ (Heap.get?_push_of_some _ (Heap.get?_push_of_some _ u3)) ?_)
        intro b o hb e
        exact Heap.get?_push_of_some _ (Heap.get?_push_of_some _ ((Heap.get?_update_ne _ _ _ _ hb).trans ((Heap.get?_update_ne _ _ _ _ hb).trans ((Heap.get?_update_ne _ _ _ _ hb).trans e))))
      · with_reducible refine PySem.wpAny_bind ?_
        wp_delta
        with_reducible refine PySem.wpAny_bind ?_
        wp_delta
        with_reducible refine PySem.wpAny_bind ?_
        ((with_reducible apply PySem.wpAny_load'); focus (heap_get; done))
        wp_delta
        with_reducible refine PySem.wpAny_pure ?_
        wp_delta
        with_reducible refine PySem.wpAny_pure ?_
        ((with_reducible apply PySem.wpAny_ite_false); focus (rfl; done))
        with_reducible refine PySem.wpAny_bind ?_
        wp_delta
        with_reducible refine PySem.wpAny_bind ?_
        wp_delta
        with_reducible refine PySem.wpAny_bind ?_
        ((with_reducible apply PySem.wpAny_load'); focus (heap_get; done))
        wp_delta
        with_reducible refine PySem.wpAny_pure ?_
        wp_delta
        with_reducible refine PySem.wpAny_pure ?_
        with_reducible refine PySem.wpAny_bind ?_
        with_reducible refine PySem.wpAny_holding ?_
        wp_delta
        with_reducible refine PySem.wpAny_holding ?_
        refine wpAny_eqBool_str (a := z) (b := x) (t := tz) (u := t) ?_
        rw [decide_eq_false (fun e => hx e.symm)]
        ((with_reducible apply PySem.wpAny_ite_true); focus (rfl; done))
        wp_delta
        with_reducible refine PySem.wpAny_pure ?_
        refine ⟨_, rfl, wpAny_pure (q1 hx)⟩
    | _ => exact hr.elim
theorem next_ended {s : Shared} {I : Addr} {Q : Option Value → Shared → Prop} (hh : A.handled = none)
    (hI : s.heap.get? I = some (itObj .none .none true)) (hq : ∀ h', (∀ b o, s.heap.get? b = some o → h'.get? b = some o) → Q none { s with heap := h' }) :
    wpAny (model prog w) A (pyNext (.ref I)) Q E s := by
  have hT : s.TypeIs (.ref I) "callable_iterator" := ⟨_, hI, rfl⟩
  unfold pyNext
  refine wpAny_bind (wpAny_attempt (wpAny_callSpecial?_slot (name := Str.ofString "__next__") hT slot_ci_next (wpAny_call_entry slot_ci_next hT entry_ci_next ?_ (args_ci_next _))))
  unfold Builtin.«callable_iterator.__next__»
  with_reducible refine PySem.wpAny_bind ?_
  wp_delta
  ((with_reducible apply PySem.wpAny_ite_false); focus (rfl; done))
  ((with_reducible apply PySem.wpAny_ite_false); focus (rfl; done))
  with_reducible refine PySem.wpAny_pure ?_
  with_reducible refine PySem.wpAny_bind ?_
  wp_delta
  with_reducible refine PySem.wpAny_bind ?_
  wp_delta
  with_reducible refine PySem.wpAny_bind ?_
  ((with_reducible apply PySem.wpAny_load'); focus (heap_get; done))
  wp_delta
  with_reducible refine PySem.wpAny_pure ?_
  wp_delta
  with_reducible refine PySem.wpAny_pure ?_
  ((with_reducible apply PySem.wpAny_ite_true); focus (rfl; done))
  with_reducible refine PySem.wpAny_bind ?_
  with_reducible refine PySem.wpAny_rule ?_
  with_reducible refine PySem.wpAny_bind ?_
  wp_delta
  with_reducible refine PySem.wpAny_bind ?_
  wp_delta
  with_reducible refine PySem.wpAny_bind ?_
  wp_delta
  wp_delta
  ((with_reducible apply PySem.wpAny_ite_false); focus (rfl; done))
  wp_delta
  wp_delta
  with_reducible refine PySem.wpAny_bind ?_
  with_reducible refine PySem.wpAny_alloc' ?_
  with_reducible refine PySem.wpAny_pure ?_
  with_reducible refine PySem.wpAny_bind ?_
  wp_delta
  with_reducible refine PySem.wpAny_bind ?_
  with_reducible refine PySem.wpAny_pure ?_
  with_reducible refine PySem.wpAny_pure ?_
  wp_delta
  ((with_reducible apply PySem.wpAny_ite_false); focus (rfl; done))
  wp_delta
  wp_delta
  with_reducible refine PySem.wpAny_bind ?_
  with_reducible refine PySem.wpAny_alloc' ?_
  with_reducible refine PySem.wpAny_pure ?_
  simp only [raiseNew]
  refine wpAny_bind (wpAny_handled ?_)
  rw [show A.in1.handled = none from hh]
  refine wpAny_bind (wpAny_pure (wpAny_throw ?_))
  refine wpAny_bind (wpAny_isInstance (T := "StopIteration") (b := true) ⟨_, Heap.get?_push_size _ rfl, rfl⟩ isSubtype_stop ?_)
  refine wpAny_pure (hq _ fun b o e => Heap.get?_push_of_some _ (Heap.get?_push_of_some _ e))
end
end Mine
end
section
open PySem PySem.W PyProof.Rows PySem.Spec PySem.Calls
namespace Mine
section
variable {prog : Program} {w : World} {A : Around} {E : Value → Shared → Prop} {s : Shared} {env : Env} {x : Str} {body : List Stmt} {Q : Flow → Shared → Prop}
/-- what a turn of a loop hands on -/
def TurnEnd (I : Nat → Shared → Prop) (n : Nat) (Q : Flow → Shared → Prop) (f : Flow) (s : Shared) : Prop := match f with
  | .ret v => Q (.ret v) s
  | .brk => Q .next s
  | .next => ∃ m, m < n ∧ I m s
  | .cont => ∃ m, m < n ∧ I m s
/-- a for over an iterator of any make: some invariant, some measure, each turn by hand -/
def Turns (prog : Program) (w : World) (A : Around) (E : Value → Shared → Prop) (env : Env) (x : Str) (body : List Stmt) (Q : Flow → Shared → Prop) (it : Value) (s₂ : Shared) : Prop :=
  ∃ (I : Nat → Shared → Prop) (n : Nat), I n s₂ ∧ ∀ n s', I n s' → wpAny (model prog w) A (pyNext it) (fun r s₁ => match r with
    | none => Q .next s₁
    | some v => wpAny (model prog w) A (storeName env x v) (fun _ s₃ => wpAny (model prog w) A (execs body env) (TurnEnd I n Q) E s₃) E s₁) E s'
theorem For_mine {px pos : Pos} {iter : Expr}
    (h : wpAny (model prog w) A (eval iter env) (fun xv s₁ => wpAny (model prog w) A (pyIter xv) (fun it s₂ => Turns prog w A E env x body Q it s₂) E s₁) E s)
    (hs : ∀ x, foldedSetIterable iter env x = pure x := by intro _; rfl)
    (hE : PassesOwn (model prog w) A env E := by passes_own) :
    wpAny (model prog w) A (exec (.For (.Name x px) iter body [] pos) env) Q E s := by
  refine wpAny_For (wpAny_mono h (fun xv s₁ h₁ => wpAny_mono h₁ (fun it s₂ h₂ => ?_) fun _ _ e => e) fun _ _ e => e) hs
  obtain ⟨I, n, h0, turn⟩ := h₂
  refine codeAny_forLoop I (fun n s' hI => ?_) n h0
  refine wpAny_mono (wpAny_passesOwn hE (turn n s' hI)) (fun r s₁ h₁ => ?_) fun _ _ e => e
  cases r with
  | none => exact wpAny_execs_nil h₁
  | some v =>
    refine wpAny_assign_Name (wpAny_mono (wpAny_passesOwn hE h₁) (fun _ s₃ h₃ => ?_) fun _ _ e => e)
    refine wpAny_mono (wpAny_passesOwn hE h₃) (fun f s₄ h₄ => ?_) fun _ _ e => e
    cases f <;> exact h₄
end
end Mine
end
section
open PySem PySem.W PyProof.Rows PySem.Spec PySem.Calls
namespace Mine
section
variable {prog : Program} {w : World} {A : Around} {E : Value → Shared → Prop} {s : Shared} {h₀ : Heap} {L : Addr} {m : Str → Option Value} {news : List (Addr × Obj)}
theorem iter_K {M : Addr} {f self z : Value} {Q : Value → Shared → Prop} (F : Fr h₀ L s.heap m) (N : News h₀ L s.heap news) (hM : (M, methodObj f self) ∈ news)
    (h : ∀ I h', Fr h₀ L h' m → News h₀ L h' ((I, itObj (.ref M) z false) :: news) → (∀ p ∈ news, p.1 < I) → Q (.ref I) { s with heap := h' }) :
    wpAny (model prog w) A (call (.builtin "iter") [.ref M, z]) Q E s := by
  obtain ⟨hp, gs, dr, tk, os⟩ := s
  exact iter_call0 (N _ hM).1 (h _ _ (F.push _) (N.push F _) fun p hp' => Heap.lt_size (N p hp').1)
theorem pyIter_K {I : Addr} {f z : Value} {e : Bool} {Q : Value → Shared → Prop} (N : News h₀ L s.heap news) (hI : (I, itObj f z e) ∈ news) (hq : Q (.ref I) s) :
    wpAny (model prog w) A (pyIter (.ref I)) Q E s := iter_ci (N _ hI).1 hq
end
/-- the lexer's frame between two signs -/
inductive LexSt (w : World) (V : MV) (rest : List (Addr × Obj)) (g' : Heap) (L' M I : Addr) (x : Str) (s0 : Shared) (io : Obj) (tok : Str) (line : Int) (p : Nat) (s' : Shared) : Prop
  | mk : ∀ h' tk m' tl tp t pn, s' = { s0 with heap := h', toks := tk } → Fr g' L' h' m' → m' "self" = some (.ref V.x) → m' "fiter" = some (.ref I) → m' "token" = some (.str tok t) →
    News g' L' h' ((I, io) :: (M, methodObj (.ref 64) (.ref V.x)) :: V.led w line tl [] pn p tp rest) → p ≤ x.length → tok.length ≤ p → LexSt w V rest g' L' M I x s0 io tok line p s'
section
variable {w : World} {A : Around} {E : Value → Shared → Prop} {A₀ : Around} {base g' : Heap} {outer : List Env} {dp un : Nat} {gd : Option (List Code)} {cn : Str} {cs : Scope} {L' M I a : Addr} {ccd : Value} {cl : List (Str × Addr)}
  {loose : List Str} {mean : ExcName → Option Value} {mg mb : Str → Option Value}
theorem lex_next {V : MV} (hV : V.Ok) {x : Str} (hR : Reads w V x) {rest : List (Addr × Obj)} (ho : OwnOff rest V.adr) {s0 s' : Shared} {tz : Tok} {tok : Str} {line : Int} {p : Nat} {Q : Option Value → Shared → Prop}
    (hoI : (@LT.lt Nat _ V.pl M) ∧ @LT.lt Nat _ M I ∧ AllLt M rest)
    (B : Below A₀ base outer g') (X : (hd.heap_1 w.params).In g') (T : Top topProg loose mean mg mb g') (C1 : CodeHd base 117 113) (C2 : CodeHd base 35 31) (hk : cs.kind = .function) (h1 : dp + 6 < recursionLimit) (h2 : un + 70 < cLine)
    (hf : FnAt 64 g') (S : LexSt w V rest g' L' M I x s0 (itObj (.ref M) (.str "" tz) false) tok line p s')
    (q1 : ∀ c t s'', x.cps[p]? = some c → LexSt w V rest g' L' M I x s0 (itObj (.ref M) (.str "" tz) false) tok (if c = 10 then line + 1 else line) (p + 1) s'' → Q (some (.str ⟨#[c]⟩ t)) s'')
    (q2 : ∀ s'', x.cps[p]? = none → LexSt w V rest g' L' M I x s0 (itObj .none .none true) tok line p s'' → Q none s'') :
    wpAny (model PySem.Challenge.rw_sh0031_01.row.prog w) (ktrTop dp un gd cn cs L' a ccd cl outer) (pyNext (.ref I)) Q E s' := by
  obtain ⟨h', tk, m', tl, tp, t, pn, rfl, F, e1, e2, e3, N, hp, ht⟩ := S
  have keepF : ∀ {h : Heap}, (∀ b o, g'.get? b = some o → h.get? b = some o) → FnAt 64 h := fun k => by obtain ⟨oc, od, fd, sl, e⟩ := hf; exact ⟨oc, od, fd, sl, k _ _ e⟩
  refine next_ci rfl (N _ (.head _)).1 (N _ (.tail _ (.head _))).1 (keepF F.keep) ?_
  have hoI1 := hoI.1; have hoI2 := hoI.2.1; have hoI3 := hoI.2.2
  obtain ⟨o1, o2, o3, o4, o5, o6, o7, o8, o9, o10, o11⟩ := id hV
  have D := readch_ok V hV x hR line tl [] pn p tp ((I, itObj (.ref M) (.str "" tz) false) :: (M, methodObj (.ref 64) (.ref V.x)) :: rest) hp (off_cons hV (Nat.lt_trans hoI1 hoI2) (off_cons hV hoI1 ho))
  have N2 : News g' L' h' (V.led w line tl [] pn p tp ((I, itObj (.ref M) (.str "" tz) false) :: (M, methodObj (.ref 64) (.ref V.x)) :: rest)) := News.pick N ((I, itObj (.ref M) (.str "" tz) false) :: (M, methodObj (.ref 64) (.ref V.x)) :: V.led w line tl [] pn p tp []) rest [2, 3, 4, 5, 6, 7, 8, 9, 10, 11, 12, 0, 1] rfl rfl
  refine D loose mean mg mb dp (un + 1) gd cn cs a ccd cl outer A₀ base g' L' m' { s0 with heap := h', toks := tk } _ (fun _ _ => False) B F X N2 T C1 C2 hk (by omega) (by omega) ?_
  rintro v h'' tk'' news'' ⟨t', tp', tl', rfl, rfl⟩ F'' N''
  have NI := (N'' (I, itObj (.ref M) (.str "" tz) false) (List.mem_of_getElem? (i := 11) rfl)).1
  have NM := (N'' (M, methodObj (.ref 64) (.ref V.x)) (List.mem_of_getElem? (i := 12) rfl)).1
  have hI0 : g'.get? I = none := (N _ (.head _)).2.2
  have hIL : I ≠ L' := (N _ (.head _)).2.1
  refine ⟨chAt x p, t', rfl, NI, NM, keepF F''.keep, fun hne => ?_, fun he hh hI hx => ?_⟩
  · cases hc : x.cps[p]? with
    | none => exact absurd (show chAt x p = Str.ofString "" by unfold chAt; rw [hc]; rfl) hne
    | some c =>
      have ec : chAt x p = ⟨#[c]⟩ := by unfold chAt; rw [hc]
      have hlt : p < x.length := by
        rcases Array.getElem?_eq_some_iff.mp hc with ⟨h, _⟩; exact h
      rw [ec] at N'' ⊢
      refine q1 c t' _ hc ⟨h'', tk'', m', tl', tp', t, pn, rfl, F'', e1, e2, e3, ?_, hlt, by omega⟩
      have e4 : (if ((⟨#[c]⟩ : Str) == Str.ofString "\n") = true then line + 1 else line) = if c = 10 then line + 1 else line := by
        by_cases h10 : c = 10
        · subst h10; rfl
        · rw [if_neg h10, if_neg]
          intro h
          have := beq_iff_eq.mp h
          have h3 : (#[c] : Array Nat) = #[10] := congrArg Str.cps this
          simp at h3; exact h10 h3
      have el : (⟨#[c]⟩ : Str).length = 1 := rfl
      rw [e4, el] at N''
      exact News.pick N'' (V.led w _ tl' [] pn _ tp' [(I, itObj (.ref M) (.str "" tz) false), (M, methodObj (.ref 64) (.ref V.x))]) rest [11, 12, 0, 1, 2, 3, 4, 5, 6, 7, 8, 9, 10] rfl rfl
  · have hc : x.cps[p]? = none := by
      cases hc : x.cps[p]? with
      | none => rfl
      | some c =>
        rw [show chAt x p = ⟨#[c]⟩ by unfold chAt; rw [hc]] at he
        have : (#[c] : Array Nat) = #[] := congrArg Str.cps he
        simp at this
    have ec : chAt x p = ⟨#[]⟩ := by unfold chAt; rw [hc]
    rw [ec] at N''
    have N3 : News g' L' h'' ((M, methodObj (.ref 64) (.ref V.x)) :: V.led w _ tl' [] pn _ tp' rest) := News.pick N'' (V.led w _ tl' [] pn _ tp' [(I, itObj (.ref M) (.str "" tz) false), (M, methodObj (.ref 64) (.ref V.x))]) rest [12, 0, 1, 2, 3, 4, 5, 6, 7, 8, 9, 10] rfl rfl
    refine q2 _ hc ⟨hh, tk'', m', tl', tp', t, pn, rfl, ?_, e1, e2, e3, ?_, hp, ht⟩
    · exact ⟨F''.ns.extBut hx hIL.symm, fun b o e => hx b o (fun q => by rw [q, hI0] at e; cases e) (F''.keep b o e), F''.above⟩
    · intro q hq
      rcases List.mem_cons.mp hq with rfl | hq
      · exact ⟨hI, hIL, hI0⟩
      · have n := N3 q hq
        refine ⟨hx _ _ ?_ n.1, n.2⟩
        rcases List.mem_cons.mp hq with rfl | hq
        · exact Nat.ne_of_lt hoI2
        · exact led_off hV (Nat.lt_trans hoI1 hoI2) (fun q hq => Nat.ne_of_lt (Nat.lt_trans (AllLt.at hoI3 hq) hoI2)) q hq
end
end Mine
end
section
open PySem PySem.W PyProof.Rows PySem.Spec PySem.Calls
namespace Mine
def isWs (c : Nat) : Bool := c == 10 || c == 9 || c == 13 || c == 32
def nl : List Nat → Int
  | [] => 0
  | c :: r => (if c = 10 then 1 else 0) + nl r
def qRun : List Nat → List Nat × List Nat
  | [] => ([], [])
  | c :: r => if c = 34 then ([], r) else (c :: (qRun r).1, (qRun r).2)
def wRun : List Nat → List Nat × List Nat
  | [] => ([], [])
  | c :: r => if isWs c = true then ([], r) else (c :: (wRun r).1, (wRun r).2)
def tokRun : List Nat → List Nat × List Nat
  | [] => ([], [])
  | c :: r => if isWs c = true then tokRun r else if c = 34 then qRun r else (c :: (wRun r).1, (wRun r).2)
abbrev dr (x : Str) (p : Nat) : List Nat := x.cps.toList.drop p
theorem dr_some {x : Str} {p c : Nat} (h : x.cps[p]? = some c) : dr x p = c :: dr x (p + 1) := by
  have h' : x.cps.toList[p]? = some c := by simpa using h
  obtain ⟨hl, e⟩ := List.getElem?_eq_some_iff.mp h'
  unfold dr
  rw [List.drop_eq_getElem_cons hl, e]
theorem dr_none {x : Str} {p : Nat} (h : x.cps[p]? = none) : dr x p = [] := by
  have h' : x.cps.size ≤ p := by simpa using h
  unfold dr
  exact List.drop_eq_nil_of_le (by simpa using h')
theorem ws_is (c : Nat) : (Builtin.Str.occurrences (Str.ofString "\n\t\x0d ") ⟨#[c]⟩ 0 (Str.ofString "\n\t\x0d ").length 1).isEmpty = !isWs c := by
  have h := StrLaws.found_one (Str.ofString "\n\t\x0d ") c
  have e : decide (c ∈ (Str.ofString "\n\t\x0d ").cps.toList) = isWs c := by
    have e2 : (Str.ofString "\n\t\x0d ").cps.toList = [10, 9, 13, 32] := by decide +kernel
    rw [e2]
    rw [Bool.eq_iff_iff]
    simp [isWs, or_assoc]
  rw [e] at h
  rw [← h, Bool.not_not]
theorem sign_eq {c k : Nat} {z : Str} (hz : z = ⟨#[k]⟩) : ((⟨#[c]⟩ : Str) == z) = decide (c = k) := by
  subst hz
  by_cases h : c = k
  · subst h; simp
  · rw [decide_eq_false h]
    rw [beq_eq_false_iff_ne]
    intro e
    have : (#[c] : Array Nat) = #[k] := congrArg Str.cps e
    simp at this; exact h this
theorem tok_ws {c : Nat} {r : List Nat} (h : isWs c = true) : tokRun (c :: r) = tokRun r := by simp [tokRun, h]
theorem tok_q {c : Nat} {r : List Nat} (h1 : isWs c = false) (h2 : c = 34) : tokRun (c :: r) = qRun r := by subst h2; rfl
theorem tok_w {c : Nat} {r : List Nat} (h1 : isWs c = false) (h2 : c ≠ 34) : tokRun (c :: r) = (c :: (wRun r).1, (wRun r).2) := by simp [tokRun, h1, h2]
theorem q_end {c : Nat} {r : List Nat} (h2 : c = 34) : qRun (c :: r) = ([], r) := by simp [qRun, h2]
/-- no backslash stands in the text -/
theorem no_back {x : Str} {c p : Nat} (z : ((⟨#[c]⟩ : Str) == Str.ofString "\\") = true) (hc : x.cps[p]? = some c) (hb : ∀ i : Nat, x.cps[i]? ≠ some 92) : False := by
  rw [sign_eq (k := 92) (by decide +kernel)] at z; exact hb _ (of_decide_eq_true z ▸ hc)
theorem q_go {c : Nat} {r : List Nat} (h2 : c ≠ 34) : qRun (c :: r) = (c :: (qRun r).1, (qRun r).2) := by simp [qRun, h2]
theorem w_end {c : Nat} {r : List Nat} (h2 : isWs c = true) : wRun (c :: r) = ([], r) := by simp [wRun, h2]
theorem w_go {c : Nat} {r : List Nat} (h2 : isWs c = false) : wRun (c :: r) = (c :: (wRun r).1, (wRun r).2) := by simp [wRun, h2]
section
inductive TokA (w : World) (V : MV) (rest : List (Addr × Obj)) (g' : Heap) (L' M I : Addr) (x : Str) (s : Shared) (tz : Tok) (p₀ : Nat) (line₀ : Int) (n : Nat) (s' : Shared) : Prop
  | mk : ∀ p line, LexSt w V rest g' L' M I x s (itObj (.ref M) (.str "" tz) false) (Str.ofString "") line p s' → tokRun (dr x p₀) = tokRun (dr x p) → line = line₀ + nl (dr x p₀) - nl (dr x p) → n = x.length - p + 1 → TokA w V rest g' L' M I x s tz p₀ line₀ n s'
inductive TokB (w : World) (V : MV) (rest : List (Addr × Obj)) (g' : Heap) (L' M I : Addr) (x : Str) (s : Shared) (p₀ : Nat) (line₀ : Int) (n : Nat) (s' : Shared) : Prop
  | mk : ∀ tok line p, LexSt w V rest g' L' M I x s (itObj .none .none true) tok line p s' → tokRun (dr x p₀) = (tok.cps.toList, []) → dr x p = [] → line = line₀ + nl (dr x p₀) → n = 0 → TokB w V rest g' L' M I x s p₀ line₀ n s'
inductive RunInv (run : List Nat → List Nat × List Nat) (w : World) (V : MV) (rest : List (Addr × Obj)) (g' : Heap) (L' M I : Addr) (x : Str) (s : Shared) (tz : Tok) (p₀ : Nat) (line₀ : Int) (n : Nat) (s' : Shared) : Prop
  | mk : ∀ tok p line, LexSt w V rest g' L' M I x s (itObj (.ref M) (.str "" tz) false) tok line p s' → tokRun (dr x p₀) = (tok.cps.toList ++ (run (dr x p)).1, (run (dr x p)).2) → line = line₀ + nl (dr x p₀) - nl (dr x p) → n = x.length - p + 1 → RunInv run w V rest g' L' M I x s tz p₀ line₀ n s'
inductive TokPost (w : World) (V : MV) (x : Str) (line₀ : Int) (p₀ : Nat) (rest : List (Addr × Obj)) (v : Value) (news' : List (Addr × Obj)) : Prop
  | mk : ∀ t tl' tp' pn' p', v = .str ⟨(tokRun (dr x p₀)).1.toArray⟩ t → p' ≤ x.length → dr x p' = (tokRun (dr x p₀)).2 → news' = V.led w (line₀ + nl (dr x p₀) - nl (dr x p')) tl' [] pn' p' tp' rest → TokPost w V x line₀ p₀ rest v news'
theorem tok_ok {w : World} (V : MV) (hV : V.Ok) (x : Str) (hR : Reads w V x) (hb : ∀ i : Nat, x.cps[i]? ≠ some 92) (hx : x.length ≤ 1000) (line₀ : Int) (tl : Tok) (pn p₀ : Nat) (tp : Tok) (rest : List (Addr × Obj)) (hp : p₀ ≤ x.length) (ho : OwnOff rest V.adr) :
    Does w 10 71 [.ref V.x] (V.led w line₀ tl [] pn p₀ tp rest) (fun v news' => TokPost w V x line₀ p₀ rest v news') := by
  k_with_none; w_top off
  k_with "getMethod ref" => (refine' (no_back ?z1 ?z2 ?z3).elim; (case z1 => assumption); (case z2 => assumption); (case z3 => assumption))
  k_with "call builtin:iter" => (k_here; k_dflt (refine' iter_K ?F ?N ?h1 ?_; (case F => k_asm); (case N => k_asm); (case h1 => k_mem); k_whole); intro I' h3' F' N' l2; (try k_lt l2); (try k_sweep))
  k_with "exec For" => (with_unfolding_all refine' For_mine ?_)
  k_with "pyIter ref" => ((with_reducible show wpAny _ _ (pyIter (Value.ref _)) (fun it s₂ => Turns _ _ _ _ _ _ _ _ it s₂) _ _); k_dflt (refine' pyIter_K ?N ?h1 ?_; (case N => k_asm); (case h1 => k_mem); k_whole))
  k_with "TurnEnd ret" => (dsimp only [TurnEnd])
  unfold Does; k_fill
  intro loose mean mg mb dp un gd cn cs a ccd cl outer A₀ base h₀ L m s Q E B F X N T C1 C2 hk hdp hun hret
  obtain ⟨o1, o2, o3, o4, o5, o6, o7, o8, o9, o10, o11⟩ := id hV
  have fin : ∀ {tok : Str} {t : Tok} {h' : Heap} {tk I M : Nat} {io mo : Obj} {tl' tp' : Tok} {pn' p' : Nat} {line' : Int}, Fr h₀ L h' m → News h₀ L h' ((I, io) :: (M, mo) :: V.led w line' tl' [] pn' p' tp' rest) → tokRun (dr x p₀) = (tok.cps.toList, dr x p') → p' ≤ x.length → line' = line₀ + nl (dr x p₀) - nl (dr x p') → Q (.str tok t) { s with heap := h', toks := tk } := by
    intro tok t h' tk I M io mo tl' tp' pn' p' line' F N e1 hp' e3
    refine hret _ _ _ _ ⟨t, _, _, _, _, ?_, hp', ?_, rfl⟩ F (e3 ▸ fun q hq => N q (.tail _ (.tail _ hq)))
    · rw [e1]
    · rw [e1]
  clear hret
  k_dflt cell_enter
  rename_i g' L' h1' FG' F1' N1' B' X' T'
  k_steps
  rename_i q' h2' l1 h4' F' N'
  have hf : FnAt 64 g' := ⟨_, _, _, _, X' _ _ (by k_is)⟩
  have hoI : (@LT.lt Nat _ V.pl q') ∧ @LT.lt Nat _ q' I' ∧ AllLt q' rest := ⟨by omega, by omega, by simp only [l1]⟩
  refine ⟨fun n s' => TokA w V rest g' L' q' I' x s _ p₀ line₀ n s' ∨ TokB w V rest g' L' q' I' x s p₀ line₀ n s',
    x.length - p₀ + 1, .inl ⟨p₀, line₀, ⟨_, _, _, _, _, _, _, rfl, F', by rfl, by rfl, by rfl, N', hp, Nat.zero_le _⟩, rfl, by omega, rfl⟩, ?_⟩
  rintro n s' (⟨p, line, S, e1, e2, rfl⟩ | ⟨tok, line, p, S, e1, e2, e3, rfl⟩)
  · k_dflt (refine' lex_next hV hR ho hoI B' X' T' C1 C2 ?k6 ?k7 ?k8 hf S ?q1 ?q2; (case k6 => rfl); (case k7 => ktr_room); (case k8 => ktr_units))
    · rintro c t s'' hc ⟨h9, tk9, m9, tl9, tp9, t9, pn9, rfl, F9, f1, f2, f3, N9, hp9, ht9⟩
      replace F9 := Fr.seeL F9 [(Str.ofString "token", _), (Str.ofString "fiter", _), (Str.ofString "self", _)] (List.forall_mem_cons.mpr ⟨f3, List.forall_mem_cons.mpr ⟨f2, List.forall_mem_cons.mpr ⟨f1, List.forall_mem_nil _⟩⟩⟩)
      dsimp only [kstB] at F9
      dsimp only
      k_steps
      · -- a quotation mark: the loop to the next one
        rename Fr _ _ _ _ => F'; rename News _ _ _ _ => N'; rename ((⟨#[c]⟩ : Str) == Str.ofString "\"") = true => z2; rename (Builtin.Str.occurrences _ _ _ _ _).isEmpty = true => z1
        have z1' : isWs c = false := by rw [ws_is] at z1; simpa using z1
        have z2' : c = 34 := by rw [sign_eq (k := 34) (by decide +kernel)] at z2; simpa using z2
        refine ⟨fun n s' => RunInv qRun w V rest g' L' q' I' x s _ p₀ line₀ n s',
          _, ⟨Str.ofString "", p + 1, if c = 10 then line + 1 else line, ⟨_, _, _, _, _, _, _, rfl, F', by rfl, by rfl, by rfl, N', hp9, Nat.zero_le _⟩, ?_, ?_, rfl⟩, ?_⟩
        · rw [e1, dr_some hc, tok_q z1' z2']; rfl
        · rw [e2, dr_some hc]; simp only [nl]; split <;> omega
        clear F' N' f1 f2 f3 S e1 e2 hc
        rintro n s' ⟨tok, p, line, S, e1, e2, rfl⟩
        have hlen : tok.length ≤ p := by cases id S; assumption
        k_dflt (refine' lex_next hV hR ho hoI B' X' T' C1 C2 ?k6 ?k7 ?k8 hf S ?_ ?_; (case k6 => rfl); (case k7 => ktr_room); (case k8 => ktr_units))
        · rintro c t s'' hc ⟨h9, tk9, m9, tl9, tp9, t9, pn9, rfl, F9, f1, f2, f3, N9, hp9, ht9⟩
          replace F9 := Fr.seeL F9 [(Str.ofString "token", _), (Str.ofString "fiter", _), (Str.ofString "self", _)] (List.forall_mem_cons.mpr ⟨f3, List.forall_mem_cons.mpr ⟨f2, List.forall_mem_cons.mpr ⟨f1, List.forall_mem_nil _⟩⟩⟩)
          dsimp only [kstB] at F9
          dsimp only
          k_steps
          · -- the end
            rename Fr h₀ _ _ _ => F'; rename News h₀ _ _ _ => N'; rename ((⟨#[c]⟩ : Str) == Str.ofString "\"") = true => z
            have z' : c = 34 := by rw [sign_eq (k := 34) (by decide +kernel)] at z; simpa using z
            refine fin F' N' (p' := p + 1) ?_ hp9 ?_
            · rw [e1, dr_some hc, q_end z']; simp
            · rw [e2, dr_some hc]; simp only [nl]; split <;> omega
          · rename Fr _ _ _ _ => F'; rename News _ _ _ _ => N'; rename ((⟨#[c]⟩ : Str) == Str.ofString "\"") = false => z
            have z' : c ≠ 34 := by rw [sign_eq (k := 34) (by decide +kernel)] at z; simpa using z
            refine ⟨_, Nat.lt_of_le_of_lt (Nat.le_refl _) ?_, _, p + 1, if c = 10 then line + 1 else line, ⟨_, _, _, _, _, _, _, rfl, F', by rfl, by rfl, by rfl, N', hp9, ?_⟩, ?_, ?_, rfl⟩
            · omega
            · have el : (tok ++ (⟨#[c]⟩ : Str)).length = tok.length + 1 := by rw [Str.length_append]; rfl
              omega
            · rw [e1, dr_some hc, q_go z']; simp [Str.cps_append]
            · rw [e2, dr_some hc]; simp only [nl]; split <;> omega
        · rintro s'' hc S
          dsimp only
          k_steps
          refine ⟨0, by omega, .inr ⟨tok, line, p, S, ?_, dr_none hc, ?_, rfl⟩⟩
          · rw [e1, dr_none hc]; simp [qRun]
          · rw [e2, dr_none hc]; simp [nl]
      · -- a sign: the loop to the next blank
        rename Fr _ _ _ _ => F'; rename News _ _ _ _ => N'; rename ((⟨#[c]⟩ : Str) == Str.ofString "\"") = false => z2; rename (Builtin.Str.occurrences _ _ _ _ _).isEmpty = true => z1
        have z1' : isWs c = false := by rw [ws_is] at z1; simpa using z1
        have z2' : c ≠ 34 := by rw [sign_eq (k := 34) (by decide +kernel)] at z2; simpa using z2
        refine ⟨fun n s' => RunInv wRun w V rest g' L' q' I' x s _ p₀ line₀ n s',
          _, ⟨Str.ofString "" ++ ⟨#[c]⟩, p + 1, if c = 10 then line + 1 else line, ⟨_, _, _, _, _, _, _, rfl, F', by rfl, by rfl, by rfl, N', hp9, ?_⟩, ?_, ?_, rfl⟩, ?_⟩
        · have el : (Str.ofString "" ++ (⟨#[c]⟩ : Str)).length = 0 + 1 := by rw [Str.length_append]; rfl
          omega
        · rw [e1, dr_some hc, tok_w z1' z2']; simp [Str.cps_append, show (Str.ofString "").cps = #[] from rfl]
        · rw [e2, dr_some hc]; simp only [nl]; split <;> omega
        clear F' N' f1 f2 f3 S e1 e2 hc
        rintro n s' ⟨tok, p, line, S, e1, e2, rfl⟩
        have hlen : tok.length ≤ p := by cases id S; assumption
        k_dflt (refine' lex_next hV hR ho hoI B' X' T' C1 C2 ?k6 ?k7 ?k8 hf S ?_ ?_; (case k6 => rfl); (case k7 => ktr_room); (case k8 => ktr_units))
        · rintro c t s'' hc ⟨h9, tk9, m9, tl9, tp9, t9, pn9, rfl, F9, f1, f2, f3, N9, hp9, ht9⟩
          replace F9 := Fr.seeL F9 [(Str.ofString "token", _), (Str.ofString "fiter", _), (Str.ofString "self", _)] (List.forall_mem_cons.mpr ⟨f3, List.forall_mem_cons.mpr ⟨f2, List.forall_mem_cons.mpr ⟨f1, List.forall_mem_nil _⟩⟩⟩)
          dsimp only [kstB] at F9
          dsimp only
          k_steps
          · rename Fr _ _ _ _ => F'; rename News _ _ _ _ => N'; rename (Builtin.Str.occurrences _ _ _ _ _).isEmpty = true => z
            have z' : isWs c = false := by rw [ws_is] at z; simpa using z
            refine ⟨_, Nat.lt_of_le_of_lt (Nat.le_refl _) ?_, _, p + 1, if c = 10 then line + 1 else line, ⟨_, _, _, _, _, _, _, rfl, F', by rfl, by rfl, by rfl, N', hp9, ?_⟩, ?_, ?_, rfl⟩
            · omega
            · have el : (tok ++ (⟨#[c]⟩ : Str)).length = tok.length + 1 := by rw [Str.length_append]; rfl
              omega
            · rw [e1, dr_some hc, w_go z']; simp [Str.cps_append]
            · rw [e2, dr_some hc]; simp only [nl]; split <;> omega
          · -- the end
            rename Fr h₀ _ _ _ => F'; rename News h₀ _ _ _ => N'; rename (Builtin.Str.occurrences _ _ _ _ _).isEmpty = false => z
            have z' : isWs c = true := by rw [ws_is] at z; simpa using z
            refine fin F' N' (p' := p + 1) ?_ hp9 ?_
            · rw [e1, dr_some hc, w_end z']; simp
            · rw [e2, dr_some hc]; simp only [nl]; split <;> omega
        · rintro s'' hc S
          dsimp only
          k_steps
          refine ⟨0, by omega, .inr ⟨tok, line, p, S, ?_, dr_none hc, ?_, rfl⟩⟩
          · rw [e1, dr_none hc]; simp [wRun]
          · rw [e2, dr_none hc]; simp [nl]
      · -- a blank
        rename Fr _ _ _ _ => F'; rename News _ _ _ _ => N'; rename _ = false => z
        rw [ws_is] at z
        have z' : isWs c = true := by simpa using z
        show TurnEnd _ _ _ .cont _
        refine ⟨x.length - (p + 1) + 1, by omega, .inl ⟨p + 1, if c = 10 then line + 1 else line, ⟨_, _, _, _, _, _, _, rfl, F', by rfl, by rfl, by rfl, N', hp9, Nat.zero_le _⟩, ?_, ?_, rfl⟩⟩
        · rw [e1, dr_some hc, tok_ws z']
        · rw [e2, dr_some hc]; simp only [nl]; split <;> omega
    · rintro s'' hc ⟨h9, tk9, m9, tl9, tp9, t9, pn9, rfl, F9, f1, f2, f3, N9, hp9, ht9⟩
      replace F9 := Fr.seeL F9 [(Str.ofString "token", _), (Str.ofString "fiter", _), (Str.ofString "self", _)] (List.forall_mem_cons.mpr ⟨f3, List.forall_mem_cons.mpr ⟨f2, List.forall_mem_cons.mpr ⟨f1, List.forall_mem_nil _⟩⟩⟩)
      dsimp only [kstB] at F9
      dsimp only
      k_steps
      rename Fr h₀ _ _ _ => F'; rename News h₀ _ _ _ => N'
      refine fin F' N' (p' := p) ?_ hp9 ?_
      · rw [e1, dr_none hc]; rfl
      · exact e2
  · obtain ⟨h9, tk9, m9, tl9, tp9, t9, pn9, rfl, F9, f1, f2, f3, N9, hp9, ht9⟩ := S
    refine next_ended rfl (N9 _ (.head _)).1 fun h8 hk8 => ?_
    replace N9 := N9.grown hk8
    replace F9 := F9.grownK hk8
    replace F9 := Fr.seeL F9 [(Str.ofString "token", _), (Str.ofString "fiter", _), (Str.ofString "self", _)] (List.forall_mem_cons.mpr ⟨f3, List.forall_mem_cons.mpr ⟨f2, List.forall_mem_cons.mpr ⟨f1, List.forall_mem_nil _⟩⟩⟩)
    dsimp only [kstB] at F9
    dsimp only
    k_steps
    rename Fr h₀ _ _ _ => F'; rename News h₀ _ _ _ => N'
    refine fin F' N' (p' := p) ?_ hp9 ?_
    · rw [e1, e2]
    · rw [e3, e2]; simp [nl]
end
end Mine
end
section
open PySem PySem.W PyProof.Rows PySem.Spec PySem.Calls
namespace Mine
theorem indices_clip {n : Nat} {i j : Int} (h : (n : Int) ≤ j) : Builtin.Str.strSliceIndices (some i) (some j) 1 n = Builtin.Str.strSliceIndices (some i) (some (n : Int)) 1 n := by
  have h0 : ¬ j < 0 := by omega
  have h1 : ¬ ((n : Int) < 0) := by omega
  have h2 : (1 : Int) > 0 := by decide
  simp only [Builtin.Str.strSliceIndices, h0, h1, h2, if_false, if_true, Int.min_eq_right h, Int.min_self]
theorem slice_ss {x : Str} {i j : Int} (h : 0 ≤ i ∧ i ≤ j ∧ j ≤ x.cps.toList.length) : Txt.slice x (some i) (some j) = ⟨((x.cps.toList.drop i.toNat).take (j - i).toNat).toArray⟩ := beq_iff_eq.mp (slice_closes h)
theorem slice_chAt {x : Str} {p : Nat} (hp : p ≤ x.length) : Txt.slice x (some (p : Int)) (some ((p : Int) + 1)) = chAt x p := by
  have hs : x.length = x.cps.toList.length := by simp [Str.length]
  by_cases h : p < x.length
  · rw [slice_ss (by omega)]
    have e1 : ((p : Int) + 1 - (p : Int)).toNat = 1 := by omega
    have hl : p < x.cps.toList.length := by omega
    rw [e1, Int.toNat_natCast, List.drop_eq_getElem_cons hl]
    unfold chAt
    have e2 : x.cps[p]? = some (x.cps.toList[p]) := by
      rw [← Array.getElem?_toList]; exact List.getElem?_eq_getElem hl
    rw [e2]; rfl
  · have e : p = x.length := by omega
    have e3 : Txt.slice x (some (p : Int)) (some ((p : Int) + 1)) = Txt.slice x (some (p : Int)) (some (x.length : Int)) := by
      unfold Txt.slice
      rw [indices_clip (n := x.length) (by omega)]
    rw [e3, slice_ss (by omega)]
    have e4 : ((x.length : Int) - (p : Int)).toNat = 0 := by omega
    rw [e4]
    unfold chAt
    have e5 : x.cps[p]? = none := by
      rw [Array.getElem?_eq_none]
      have : x.cps.size = x.length := rfl
      omega
    rw [e5]; rfl
inductive MachPost (w : World) (x : Str) (news : List (Addr × Obj)) (v : Value) (news' : List (Addr × Obj)) : Prop
  | mk : ∀ V tl pn tp ps, MV.Ok V → Reads w V x → AllLt V.cTx ((113, tabObj ps) :: news) → v = .ref V.x → news' = V.led w 1 tl [] pn (0 : Nat) tp ((113, tabObj ps) :: news) → MachPost w x news v news'
theorem mach_ok {w : World} (x : Str) (tx : Tok) (hx : x.length ≤ 100) (news : List (Addr × Obj)) (hoff : OwnOff news [113]) : Does w 4 118 [.str x tx] ((113, tabObj #[]) :: news) (fun v news' => MachPost w x news v news') := by
  k_with_none; w_top off
  k_with "setAttr ref" => ((with_reducible show wpAny _ _ (setAttr (Value.ref _) (PySem.Str.ofString "read") _) _ _ _); k_here; k_dflt (refine' setattr_fn ?F ?N ?U ?_; (case F => k_asm); (case N => k_asm); (case U => k_updF); k_whole); intro dw tw hw tkw Fw Nw lw; (try dsimp only at Nw); (try k_lt lw); (try k_sweep))
  k_with "getMethod ref" => ((with_reducible show wpAny _ _ (getMethod (Value.ref _) (PySem.Str.ofString "read") _) _ _ _); k_here; k_dflt (refine' method_fn ?N ?h1 ?h2 ?_; (case N => k_asm); (case h1 => k_mem); (case h2 => k_mem); k_whole); intro tk')
  unfold Does; k_fill
  intro loose mean mg mb dp un gd cn cs a ccd cl outer A₀ base h₀ L m s Q E B F X N T C1 C2 hk hdp hun hret
  k_dflt (refine' code_defC ?k1 ?k2 ?k3 ?k4 ?k5 ?kA ?kF ?kK ?k6 ?k7 ?k8 ?k9 ?kB ?kD ?_ ?c2 ?c3 ?c4; (case kA => exact rfl); (case kF => exact rfl); (case kK => assumption); (case k1 => k_asm); (case k2 => k_asm); (case k3 => k_asm); (case k4 => k_asm); (case k5 => k_asm); (case k6 => k_is); (case k7 => k_is); (case k8 => ktr_room); (case k9 => exact BindsTo.of_eq rfl); (case kB => exact rfl); (case kD => decide +kernel); (case c2 => exact rfl); (case c3 => exact rfl); (case c4 => exact rfl); k_whole; intro g' L' h' tk' cells' FG' F' N' Y' B' X' T' l1; (try k_lt l1); k_cells Y'; (try simp only [List.cons_append, List.nil_append] at N'); (try dsimp only); (try k_lift B'); (try k_fold))
  k_steps
  rename News h₀ _ _ _ => N'; rename Fr h₀ _ _ _ => F'
  refine' hret _ _ _ _ ⟨⟨_, _, _, _, _, _, _, _, _, _, _, _, _, _, _, _, _, _, _, _, _, _, _, _⟩, _, _, _, _, ?ok, ?rd, ?lt, rfl, ?eq⟩ F' N'
  case eq => rfl
  case ok => constructor <;> (dsimp only; omega)
  case lt => exact ⟨by dsimp only; omega, AllLt.mono (by dsimp only; omega) l1.2⟩
  case rd =>
    clear F' N' FG' B hret
    clear_value qk ek
    intro line2 tl2 push2 pn2 p2 tp2 tz2 rest2 hp2 ho2
    unfold Does
    intro loose mean mg mb dp un gd cn cs a ccd cl outer A₀ base h₀ L m s Q E B F X N T C1 C2 hk hdp hun hret
    dsimp only [MV.led, MV.adr] at N ho2
    dsimp only
    k_dflt (refine' code_nest ?k1 ?k2 ?k3 ?k4 ?k5 ?kA ?kF ?kK ?k6 ?k7 ?k8 ?k9 ?kB ?_ ?c2 ?c3 ?c4 ?c5; (case kA => exact rfl); (case kF => exact rfl); (case kK => assumption); (case k1 => k_asm); (case k2 => k_asm); (case k3 => k_asm); (case k4 => k_asm); (case k5 => k_asm); (case k6 => k_mem); (case k7 => exact codeRec_news (by k_asm) (by k_mem) (by assumption) (by assumption)); (case k8 => ktr_room); (case k9 => exact BindsTo.of_eq rfl); (case c5 => decide); (case kB => exact locs rfl); (case c2 => exact rfl); (case c3 => exact rfl); (case c4 => exact rfl); k_whole; intro g' L' h' FG' F' N' B' X' T'; (try dsimp only); (try k_lift B'); (try k_fold))
    k_steps
    rename News h₀ _ _ _ => N'; rename Fr h₀ _ _ _ => F'
    have e1 : (([(p2 : Int)] : List Int).getD (Int.toNat 0) 0) = (p2 : Int) := rfl
    rw [e1, slice_chAt hp2]
    rw [e1, slice_chAt hp2] at N'
    rw [show ((p2 : Int) + ((chAt x p2).length : Int)) = ((p2 + (chAt x p2).length : Nat) : Int) from (Int.natCast_add ..).symm] at N'
    refine' hret _ _ _ _ ⟨?ta, ?tb, rfl, ?ec⟩ F' N'
    case ec => rfl
end Mine
end
section
open PySem PySem.W PyProof.Rows PySem.Spec PySem.Calls
namespace Mine
section
theorem push_ok {w : World} (V : MV) (hV : V.Ok) (line : Int) (tl : Tok) (push : List Value) (pn p : Nat) (tp : Tok) (rest : List (Addr × Obj)) (ho : OwnOff rest V.adr) (t : Str) (tt : Tok) (hp : push.length ≤ 100) :
    Does w 4 78 [.ref V.x, .str t tt] (V.led w line tl push pn p tp rest) (fun v news' => ∃ pn', v = .none ∧ news' = V.led w line tl (push ++ [.str t tt]) pn' p tp rest) := by
  k_with_none; w_top off
  unfold Does; k_fill
  intro loose mean mg mb dp un gd cn cs a ccd cl outer A₀ base h₀ L m s Q E B F X N T C1 C2 hk hdp hun hret
  obtain ⟨o1, o2, o3, o4, o5, o6, o7, o8, o9, o10, o11⟩ := hV
  k_dflt cell_enter
  k_steps
  rename News h₀ _ _ _ => N'
  rw [List.push_toArray] at N'
  refine hret _ _ _ _ ⟨_, rfl, rfl⟩ (by k_asm) N'
end
end Mine
end
section
open PySem PySem.W PyProof.Rows PySem.Spec PySem.Calls
namespace Mine
section
theorem idx0 (v : Value) (l : List Value) : seqIndex? 0 (v :: l).toArray.size = some 0 := by
  unfold seqIndex?
  rw [List.size_toArray, List.length_cons]
  have h1 : (decide ((0 : Int) ≤ 0) && decide ((0 : Int) < ((l.length + 1 : Nat) : Int))) = true := by
    rw [Bool.and_eq_true, decide_eq_true_eq, decide_eq_true_eq]; omega
  show (if (decide ((0 : Int) ≤ 0) && decide ((0 : Int) < ((l.length + 1 : Nat) : Int))) = true then some (Int.toNat 0) else none) = some 0
  rw [if_pos h1]; rfl
theorem pop_ok {w : World} (V : MV) (hV : V.Ok) (line : Int) (tl : Tok) (t : Str) (tt : Tok) (push : List Value) (pn p : Nat) (tp : Tok) (rest : List (Addr × Obj)) (ho : OwnOff rest V.adr) (hp : push.length ≤ 100) :
    Does w 10 71 [.ref V.x] (V.led w line tl (.str t tt :: push) pn p tp rest) (fun v news' => ∃ pn', v = .str t tt ∧ news' = V.led w line tl push pn' p tp rest) := by
  k_with_none; w_top off
  k_with "call builtin:list.pop" => (k_here; (with_reducible show wpAny _ _ (call (Value.builtin _) [Value.ref _, Value.int _ _]) _ _ _); k_dflt (refine' kl_popAt (p := []) (k := 0) ?F ?N ?f ?k ?e ?U ?z ?_; (case F => k_asm); (case N => k_asm); (case U => k_upd); (case f => rfl); (case k => exact idx0 _ _); (case e => rfl); (case z => (show List.length (_ :: _) ≤ _; rw [List.length_cons, sizeLine_eq]; omega))); kl_rest)
  unfold Does; k_fill
  intro loose mean mg mb dp un gd cn cs a ccd cl outer A₀ base h₀ L m s Q E B F X N T C1 C2 hk hdp hun hret
  obtain ⟨o1, o2, o3, o4, o5, o6, o7, o8, o9, o10, o11⟩ := hV
  k_dflt cell_enter
  k_steps
  all_goals refine hret _ _ _ _ ⟨_, rfl, rfl⟩ (by k_asm) (by k_asm)
end
end Mine
end
section
open PySem PySem.W PyProof.Rows PySem.Spec PySem.Calls
namespace Mine
/-- keeps a statement shut before the walk -/
structure Hold (P : Prop) : Prop where
  h : P
section
variable {prog : Program} {w : World} {A : Around} {E : Value → Shared → Prop} {s : Shared} {env : Env} {test : Expr} {body : List Stmt} {Q : Flow → Shared → Prop}
def WTurns (prog : Program) (w : World) (A : Around) (E : Value → Shared → Prop) (env : Env) (test : Expr) (body : List Stmt) (Q : Flow → Shared → Prop) (s : Shared) : Prop :=
  ∃ (I : Nat → Shared → Prop) (n : Nat), I n s ∧ ∀ n s', I n s' → wpAny (model prog w) A (isTrue test env (eval test env)) (fun b s₂ =>
    if b = true then wpAny (model prog w) A (execs body env) (TurnEnd I n Q) E s₂ else Q .next s₂) E s'
theorem While_mine {pos : Pos} (h : WTurns prog w A E env test body Q s) (hE : PassesOwn (model prog w) A env E := by passes_own) :
    wpAny (model prog w) A (exec (.While test body [] pos) env) Q E s := by
  obtain ⟨I, n, h0, turn⟩ := h
  refine wpAny_While (codeAny_whileLoop I (fun n s' hI => ?_) n h0)
  refine wpAny_mono (turn n s' hI) (fun b s₂ h₂ => ?_) hE
  cases b with
  | false =>
    simp only [Bool.false_eq_true, if_false] at h₂ ⊢
    exact wpAny_execs_nil h₂
  | true =>
    simp only [if_true] at h₂ ⊢
    refine wpAny_mono h₂ (fun f s₃ h₃ => ?_) hE
    cases f <;> exact h₃
theorem WTurns.mono {R : Flow → Shared → Prop} (h : WTurns prog w A E env test body R s) (hR : ∀ f s', R f s' → Q f s') : WTurns prog w A E env test body Q s := by
  obtain ⟨I, n, h0, turn⟩ := h
  refine ⟨I, n, h0, fun n s' hI => ?_⟩
  refine wpAny_mono (turn n s' hI) (fun b s₂ h₂ => ?_) fun _ _ e => e
  cases b with
  | false => exact hR _ _ h₂
  | true =>
    refine wpAny_mono h₂ (fun f s₃ h₃ => ?_) fun _ _ e => e
    cases f with
    | ret v => exact hR _ _ h₃
    | brk => exact hR _ _ h₃
    | next => exact h₃
    | cont => exact h₃
theorem cut1 {st : Stmt} {rest : List Stmt} (R : Shared → Prop) (h1 : wpAny (model prog w) A (exec st env) (fun f s' => Hold (f = .next ∧ R s')) E s) (h2 : ∀ s', R s' → wpAny (model prog w) A (execs rest env) Q E s') : wpAny (model prog w) A (execs (st :: rest) env) Q E s :=
  wpAny_execs_cons (wpAny_mono h1 (fun f s' h => by obtain ⟨rfl, h⟩ := h; exact h2 s' h) fun _ _ e => e)
end
end Mine
end
section
open PySem PySem.W PyProof.Rows PySem.Spec PySem.Calls
namespace Mine
section
variable {prog : Program} {w : World} {A : Around} {E : Value → Shared → Prop} {s : Shared} {env : Env} {h₀ : Heap} {x : Str} {body : List Stmt} {Q : Flow → Shared → Prop} {I : Addr} {a : Int} {n : Nat} {m : Str → Option Value} {news : List (Addr × Obj)}
theorem UnrPost.mono {L : Addr} {s₁ : Shared} {it : Obj} {R R' : (Str → Option Value) → List (Addr × Obj) → Prop} {f : Flow} {s₂ : Shared} (h : UnrPost h₀ L s₁ I it R Q f s₂) (hR : ∀ m news, R m news → R' m news) : UnrPost h₀ L s₁ I it R' Q f s₂ := by
  cases f with
  | ret v => exact h
  | brk => exact h
  | next => obtain ⟨h', tk, m', news', e, F, N, o, r⟩ := h; exact ⟨h', tk, m', news', e, F, N, o, hR _ _ r⟩
  | cont => obtain ⟨h', tk, m', news', e, F, N, o, r⟩ := h; exact ⟨h', tk, m', news', e, F, N, o, hR _ _ r⟩
theorem range_ind (Inv : Nat → (Str → Option Value) → List (Addr × Obj) → Prop) (h0 : Inv 0 m news)
    (hs : ∀ i m news, i < n → Inv i m news → ∀ t h tk, Fr h₀ env.locals h (fun y => if y = x then some (.int (a + (i : Int)) t) else m y) → News h₀ env.locals h ((I, itR (a + ((i + 1 : Nat) : Int)) ((n : Int) - ((i + 1 : Nat) : Int))) :: news) →
      wpAny (model prog w) A (execs body env) (UnrPost h₀ env.locals { s with heap := h, toks := tk } I (itR (a + ((i + 1 : Nat) : Int)) ((n : Int) - ((i + 1 : Nat) : Int))) (fun m' news' => Hold (Inv (i + 1) m' news')) Q) E { s with heap := h, toks := tk })
    (hz : ∀ m news, Inv n m news → ∀ h tk, Fr h₀ env.locals h m → News h₀ env.locals h news → Q .next { s with heap := h, toks := tk }) :
    RangeRest prog w A E h₀ env x body Q s I a n n 0 m news := by
  have key : ∀ k i m news, k + i = n → Inv i m news → RangeRest prog w A E h₀ env x body Q s I a n k i m news := by
    intro k
    induction k with
    | zero =>
      intro i m news e hi
      obtain rfl : i = n := by omega
      exact RangeRest.zero (hz m news hi)
    | succ k ih =>
      intro i m news e hi
      refine RangeRest.succ fun t h tk F N => ?_
      exact wpAny_mono (hs i m news (by omega) hi t h tk F N) (fun f s₂ hp => UnrPost.mono hp fun m' news' r => ih (i + 1) m' news' (by omega) r.h) fun _ _ e => e
  exact key n 0 m news (by omega) h0
end
end Mine
end
section
open PySem PySem.W PyProof.Rows PySem.Spec PySem.Calls
namespace Mine
def preL : List Nat → List Nat → Nat
  | a :: r, b :: q => if a = b then preL r q + 1 else 0
  | _, _ => 0
theorem preL_nil (l : List Nat) : preL l [] = 0 := by cases l <;> rfl
theorem pre_go {xs ys : List Nat} {k : Nat} (h1 : k < xs.length) (h2 : k < ys.length) (e : xs.getD k 0 = ys.getD k 0) : preL (xs.drop k) (ys.drop k) = preL (xs.drop (k + 1)) (ys.drop (k + 1)) + 1 := by
  rw [List.drop_eq_getElem_cons h1, List.drop_eq_getElem_cons h2]
  rw [List.getD_eq_getElem?_getD, List.getD_eq_getElem?_getD, List.getElem?_eq_getElem h1, List.getElem?_eq_getElem h2] at e
  simp only [Option.getD_some] at e
  simp [preL, e]
theorem pre_end {xs ys : List Nat} {k : Nat} (h1 : k < xs.length) (h2 : k < ys.length) (e : xs.getD k 0 ≠ ys.getD k 0) : preL (xs.drop k) (ys.drop k) = 0 := by
  rw [List.drop_eq_getElem_cons h1, List.drop_eq_getElem_cons h2]
  rw [List.getD_eq_getElem?_getD, List.getD_eq_getElem?_getD, List.getElem?_eq_getElem h1, List.getElem?_eq_getElem h2] at e
  simp only [Option.getD_some] at e
  simp [preL, e]
theorem pre_end1 {xs ys : List Nat} {k : Nat} (h1 : xs.length ≤ k) : preL (xs.drop k) (ys.drop k) = 0 := by
  rw [List.drop_eq_nil_of_le h1]; rfl
theorem pre_end2 {xs ys : List Nat} {k : Nat} (h1 : ys.length ≤ k) : preL (xs.drop k) (ys.drop k) = 0 := by
  rw [List.drop_eq_nil_of_le h1]; exact preL_nil _
abbrev Cs (x : Str) : List Nat := x.cps.toList
theorem len_cs (x : Str) : x.length = (Cs x).length := by simp [Str.length, Cs]
theorem item_cs {x : Str} {k : Nat} (h : k < x.length) : Txt.item x (k : Int) = ⟨#[(Cs x).getD k 0]⟩ := by
  have := item_closes (x := x) (i := (k : Int)) ⟨by omega, by omega⟩
  rw [beq_iff_eq.mp this, Int.toNat_natCast]
  simp [Cs]
theorem item_rev {x : Str} {j : Nat} (h : j < x.length) : Txt.item x (-(j : Int) - 1) = ⟨#[(Cs x).reverse.getD j 0]⟩ := by
  have h' := len_cs x
  have := item_closes_neg (x := x) (i := -(j : Int) - 1) (j := ((x.length - 1 - j : Nat) : Int)) (by omega) (by omega) (by omega)
  rw [beq_iff_eq.mp this, Int.toNat_natCast]
  have e : (Cs x).reverse.getD j 0 = (Cs x).getD ((Cs x).length - 1 - j) 0 := by
    rw [List.getD_eq_getElem?_getD, List.getD_eq_getElem?_getD, List.getElem?_reverse (by omega)]
  rw [e, ← h']
  simp [Cs]
theorem one_eq {a b : Nat} : ((⟨#[a]⟩ : Str) == (⟨#[b]⟩ : Str)) = decide (a = b) := by
  by_cases h : a = b
  · subst h; simp
  · rw [decide_eq_false h, beq_eq_false_iff_ne]
    intro e
    have : (#[a] : Array Nat) = #[b] := congrArg Str.cps e
    simp at this; exact h this
theorem from_cs {x : Str} {k : Nat} (h : k ≤ x.length) : Cs (Txt.slice x (some (k : Int)) none) = (Cs x).drop k := by
  have h' := len_cs x
  have := slice_closes_from (x := x) (i := (k : Int)) ⟨by omega, by rw [← h']; omega⟩
  rw [beq_iff_eq.mp this]
  simp only [Cs, Int.toNat_natCast]
  rw [List.take_of_length_le (by rw [List.length_drop]; omega)]
theorem to_cs {x : Str} {j : Nat} (h0 : 0 < j) (h : j ≤ x.length) : Cs (Txt.slice x none (some (-(j : Int)))) = (Cs x).take ((Cs x).length - j) := by
  have h' := len_cs x
  have := slice_closes_to_neg (x := x) (j := -(j : Int)) (k := ((x.length - j : Nat) : Int)) (by omega) (by omega) (by omega)
  rw [beq_iff_eq.mp this]
  simp only [Cs]
  rw [← h', show (((x.length - j : Nat) : Int) - 0).toNat = x.length - j by omega]
  rfl
theorem all_sl (x : Str) : Txt.slice x none none = x := by
  have h' := len_cs x
  show StrLaws.sliceText x none none = x
  have e : StrLaws.sliceText x none none = StrLaws.sliceText x (some 0) none := by
    unfold StrLaws.sliceText; rw [StrLaws.sliceIdx_none_lo]
  rw [e]
  have := slice_closes_from (x := x) (i := 0) ⟨by omega, by omega⟩
  have t := beq_iff_eq.mp this
  refine t.trans ?_
  rw [show ((x.cps.toList.length : Int) - 0).toNat = x.cps.toList.length by omega]
  show (⟨(x.cps.toList.take x.cps.toList.length).toArray⟩ : Str) = x
  rw [List.take_length]
theorem sub_br : subF ⟨#[98]⟩ ⟨#[114]⟩ = 2 := by decide +kernel
theorem sub_rb : subF ⟨#[114]⟩ ⟨#[98]⟩ = 2 := by decide +kernel
theorem item_rev' {x : Str} {j : Nat} {i : Int} (h : j < x.length) (e : i = -(j : Int) - 1) : Txt.item x i = ⟨#[(Cs x).reverse.getD j 0]⟩ := e ▸ item_rev h
theorem to_len {x : Str} {j : Nat} (h0 : 0 < j) (h : j ≤ x.length) : (Txt.slice x none (some (-(j : Int)))).length = x.length - j := by
  have := len_cs x
  rw [len_cs, to_cs h0 h, List.length_take]; omega
theorem sub_dom {a b : Str} (h : ∀ c ∈ Cs a, ∀ d ∈ Cs b, (c = 98 ∧ d = 114) ∨ (c = 114 ∧ d = 98)) (i j : Int) (h1 : 0 ≤ i) (h2 : i < a.length) (h3 : 0 ≤ j) (h4 : j < b.length) : subF (Txt.item a i) (Txt.item b j) = 2 ∧ subF (Txt.item b j) (Txt.item a i) = 2 := by
  obtain ⟨i, rfl⟩ := Int.eq_ofNat_of_zero_le h1
  obtain ⟨j, rfl⟩ := Int.eq_ofNat_of_zero_le h3
  have la := len_cs a
  have lb := len_cs b
  have hi : i < (Cs a).length := by omega
  have hj : j < (Cs b).length := by omega
  rw [item_cs (by omega), item_cs (by omega)]
  rw [List.getD_eq_getElem?_getD, List.getD_eq_getElem?_getD, List.getElem?_eq_getElem hi, List.getElem?_eq_getElem hj, Option.getD_some, Option.getD_some]
  rcases h _ (List.getElem_mem hi) _ (List.getElem_mem hj) with ⟨e1, e2⟩ | ⟨e1, e2⟩
  · rw [e1, e2]; exact ⟨sub_br, sub_rb⟩
  · rw [e1, e2]; exact ⟨sub_rb, sub_br⟩
def lres (xs ys : List Nat) : List Nat × List Nat :=
  let a := xs.drop (preL xs ys)
  let b := ys.drop (preL xs ys)
  let k := preL a.reverse b.reverse
  (a.take (a.length - k), b.take (b.length - k))
def levF (xs ys : List Nat) : Int :=
  if (lres xs ys).1 = [] ∨ (lres xs ys).2 = [] then 2 * (((lres xs ys).1.length : Int) + ((lres xs ys).2.length : Int))
  else if (lres xs ys).1.length = 1 ∧ (lres xs ys).2.length = 1 then 2 else 3
theorem preL_self : ∀ l : List Nat, preL l l = l.length
  | [] => rfl
  | a :: r => by simp [preL, preL_self r]
theorem levF_self (l : List Nat) : levF l l = 0 := by
  have e : lres l l = ([], []) := by
    unfold lres
    simp [preL_self]
  unfold levF
  rw [e]; rfl
def LevDom (xs ys : List Nat) : Prop := (∀ c ∈ (lres xs ys).1, ∀ d ∈ (lres xs ys).2, (c = 98 ∧ d = 114) ∨ (c = 114 ∧ d = 98)) ∧ (lres xs ys).1.length ≤ 3 ∧ (lres xs ys).2.length ≤ 3
end Mine
end
section
open PySem PySem.W PyProof.Rows PySem.Spec PySem.Calls
namespace Mine
section
variable {prog : Program} {w : World} {A : Around} {E : Value → Shared → Prop} {s : Shared} {h₀ : Heap} {L : Addr} {m : Str → Option Value} {news : List (Addr × Obj)}
theorem sl_none {value slice : Expr} {x : Str} {t : Tok} {Q : Value → Shared → Prop} (hF : Fr h₀ L s.heap m) (hN : News h₀ L s.heap news) (h : ∀ h' t' k, Fr h₀ L h' m → News h₀ L h' news → Q (.str x t') { s with heap := h', toks := k })
    (hs : subscripted slice false (.str x t) (.ref s.heap.objs.size) = operate [.ref s.heap.objs.size, .str x t] (getItem (.str x t) (.ref s.heap.objs.size)) := by with_unfolding_all rfl)
    (ht : ∀ r, letTemporaryGo value (.str x t) r = pure () := by intro _; with_unfolding_all rfl) (hsz : x.length ≤ sizeLine := by size_fits) :
    wpAny (model prog w) A (subscriptTail value slice (.str x t) (.ref s.heap.objs.size)) Q E { s with heap := s.heap.push { cls := .type "slice", data := .fields #[.none, .none, .none] } } :=
  slice_strN_nn hF hN (fun h' t' k a b => by rw [all_sl]; exact h h' t' k a b) hs ht hsz
theorem truthy_nz {v : Int} {t : Tok} {Q : Bool → Shared → Prop} (h0 : v ≠ 0) (h : Q true s) : wpAny (model prog w) A (truthy (.int v t)) Q E s := by
  refine truthy_int ?_
  rw [show (v != 0) = true from by simpa using h0]; exact h
theorem range_n {f a c : Value} {b b' : Int} {t : Tok} {Q : Value → Shared → Prop} (e : b = b') (h : wpAny (model prog w) A (call f [a, .int b' t, c]) Q E s) : wpAny (model prog w) A (call f [a, .int b t, c]) Q E s := e ▸ h
theorem ints_step : ∀ (us : List Value) (n : Nat) (a c : Int), us.length = n → (∀ (j : Nat) (v : Value), us[j]? = some v → ∃ t, v = Value.int (a + (j : Int) * c) t) → IntsAre us ((List.range n).map fun j => a + ((j : Nat) : Int) * c) := by
  intro us
  induction us with
  | nil => intro n a c e _; subst e; exact IntsAre.nil
  | cons v r ih =>
    intro n a c e h
    subst e
    obtain ⟨t, ht⟩ := h 0 v rfl
    have hv : v = .int a t := by rw [ht]; simp
    subst hv
    rw [List.length_cons, List.range_succ_eq_map, List.map_cons, List.map_map]
    have e0 : a + ((0 : Nat) : Int) * c = a := by simp
    rw [e0]
    refine IntsAre.cons _ _ ?_
    have := ih r.length (a + c) c rfl fun j v hj => by
      obtain ⟨t', ht'⟩ := h (j + 1) v hj
      refine ⟨t', ht'.trans ?_⟩
      congr 1
      rw [Int.natCast_add, Int.add_mul]; simp; omega
    have e1 : ((fun j => a + ((j : Nat) : Int) * c) ∘ Nat.succ) = fun j => (a + c) + ((j : Nat) : Int) * c := by
      funext j
      show a + ((j + 1 : Nat) : Int) * c = _
      rw [Int.natCast_add, Int.add_mul]; simp; omega
    rw [e1]; exact this
theorem size_two (n : Nat) : Builtin.Range.rangeSize 2 (2 * ((n : Int) + 1)) 2 = n := by
  unfold Builtin.Range.rangeSize
  rw [if_pos (by decide)]
  split <;> omega
theorem small_two {n : Nat} (h : n ≤ 100) : Builtin.Range.small 2 (2 * ((n : Int) + 1)) 2 = true := by
  unfold Builtin.Range.small
  rw [size_two]
  have h1 : Builtin.Range.rangeFitsLong 2 = true := by decide
  have h2 : Builtin.Range.rangeFitsLong (2 * ((n : Int) + 1)) = true := by unfold Builtin.Range.rangeFitsLong; rw [Bool.and_eq_true, decide_eq_true_eq, decide_eq_true_eq]; omega
  have h3 : Builtin.Range.rangeFitsLong (n : Int) = true := by unfold Builtin.Range.rangeFitsLong; rw [Bool.and_eq_true, decide_eq_true_eq, decide_eq_true_eq]; omega
  have h4 : Builtin.Range.rangeFitsLong (2 * ((n : Int) + 1) + 1) = true := by unfold Builtin.Range.rangeFitsLong; rw [Bool.and_eq_true, decide_eq_true_eq, decide_eq_true_eq]; omega
  rw [h1, h2]
  simp
  exact ⟨h3, .inr h4⟩
theorem list_two {r : Addr} {t u v : Tok} {n : Nat} {Q : Value → Shared → Prop} (hh : A.handled = none) (F : Fr h₀ L s.heap m) (N : News h₀ L s.heap news)
    (hr : IsRange s.heap r 2 (2 * ((n : Int) + 1)) 2 t u v) (hlen : n ≤ 100)
    (h : ∀ us D c h' tk, Fr h₀ L h' m → News h₀ L h' ((D, W.listOf (List.toArray us) c) :: news) → (∀ p ∈ news, p.1 < D) → IntsAre us ((List.range n).map fun j => 2 + ((j : Nat) : Int) * 2) → Q (.ref D) { s with heap := h', toks := tk }) :
    wpAny (model prog w) A (call (.type "list") [.ref r]) Q E s := by
  refine call_list_range hh hr (small_two hlen) (size_two n) (by omega) fun h' tk acc c hk hD hI => ?_
  have hD' : h'.get? s.heap.objs.size = some (W.listOf (List.toArray acc.toList) c) := by rw [Array.toArray_toList]; exact hD
  exact h acc.toList _ c h' tk (F.keeps hk) (news_pushed F N hk hD' rfl) (fun p hp => Heap.lt_size (N p hp).1) (ints_step _ _ _ _ (by rw [Array.length_toList]; exact hI.1) fun j v hj => hI.2 j v (by rw [← hj, Array.getElem?_toList]))
theorem AllLt.of {d : Addr} : ∀ {l : List (Addr × Obj)}, (∀ p ∈ l, @LT.lt Nat _ p.1 d) → AllLt d l
  | [], _ => trivial
  | _ :: _, h => ⟨h _ (.head _), AllLt.of fun p hp => h p (.tail _ hp)⟩
theorem getD_set (l : List Int) (i j : Nat) (v : Int) (h : i < l.length) : (l.set i v).getD j 0 = if i = j then v else l.getD j 0 := by
  rw [List.getD_eq_getElem?_getD, List.getD_eq_getElem?_getD, List.getElem?_set]
  split
  · rfl
  · rfl
theorem len_is {x : Str} {t : Tok} {z : Int} {Q : Value → Shared → Prop} (hz : (x.length : Int) = z) (hfit : z ≤ 100) (h : ∀ t k, Q (.int z t) { s with toks := k }) : wpAny (model prog w) A (call (.builtin "len") [.str x t]) Q E s := by
  refine len_str (by omega) ?_
  rw [hz]; exact h _ _
theorem min_as {a b z : Int} {t u : Tok} {Q : Value → Shared → Prop} (hh : A.handled = none) (F : Fr h₀ L s.heap m) (N : News h₀ L s.heap news) (e : (if b < a then b else a) = z)
    (h : ∀ h' tk t', Fr h₀ L h' m → News h₀ L h' news → Q (.int z t') { s with heap := h', toks := tk }) : wpAny (model prog w) A (call (.builtin "min") [.int a t, .int b u]) Q E s :=
  min_two_N hh F N fun h' tk F' N' => e ▸ h h' tk _ F' N'
end
theorem from_len {x : Str} {k : Nat} (h : k ≤ x.length) : (Txt.slice x (some (k : Int)) none).length = x.length - k := by
  rw [len_cs, from_cs h, List.length_drop, ← len_cs]
theorem lt_sub0 {c n : Nat} (h : c < ((n : Int) - 0).toNat) : c < n := by omega
theorem mx_step (r j : Nat) : 2 * max (r : Int) (j : Int) + 2 = 2 * max ((r + 1 : Nat) : Int) ((j : Int) + 1) := by omega
theorem rs_end {r n : Nat} {rs : Int} (hn : 1 ≤ n) (e : rs = 2 * max (r : Int) (((((n : Int) - 0).toNat : Nat) : Int) - 1) + 2) (h : r + 1 = 1) : rs = 2 * (n : Int) := by omega
theorem nz_lt {n k : Nat} {z : Int} (q : n - k = 0 → z = 0) (h : z ≠ 0) : k < n := by
  rcases Nat.lt_or_ge k n with h1 | h1
  · exact h1
  · exact absurd (q (Nat.sub_eq_zero_of_le h1)) h
theorem sub_two {w : World} (x y : Str) (tx ty : Tok) (hx : x.length ≤ 100) (hy : y.length ≤ 100) (h2 : subF x y = 2) : Pure w 2 92 [.str x tx, .str y ty] (fun v => ∃ t, v = .int 2 t) := by
  have := @sub_ok w x y tx ty hx hy
  rw [h2] at this; exact this
inductive PreEnd (g' : Heap) (L' : Addr) (news : List (Addr × Obj)) (s : Shared) (x y : Str) (tx ty tc : Tok) (pn : Nat) (s' : Shared) : Prop
  | mk : ∀ h9 tk9 m9 t9, s' = { s with heap := h9, toks := tk9 } → Fr g' L' h9 m9 → News g' L' h9 news → m9 (Str.ofString "a") = some (.str x tx) → m9 (Str.ofString "b") = some (.str y ty) → m9 (Str.ofString "max_cost") = some (.int 2 tc) → m9 (Str.ofString "pre") = some (.int ((pn : Nat) : Int) t9) → pn ≤ x.length → pn ≤ y.length → PreEnd g' L' news s x y tx ty tc pn s'
inductive PreInv (g' : Heap) (L' : Addr) (news : List (Addr × Obj)) (s : Shared) (x y : Str) (tx ty tc : Tok) (pn : Nat) (n : Nat) (s' : Shared) : Prop
  | mk : ∀ h9 tk9 m9 t9 k, s' = { s with heap := h9, toks := tk9 } → Fr g' L' h9 m9 → News g' L' h9 news → m9 (Str.ofString "a") = some (.str x tx) → m9 (Str.ofString "b") = some (.str y ty) → m9 (Str.ofString "max_cost") = some (.int 2 tc) → m9 (Str.ofString "pre") = some (.int ((k : Nat) : Int) t9) → k ≤ x.length → k ≤ y.length → pn = k + preL ((Cs x).drop k) ((Cs y).drop k) → n = x.length - k → PreInv g' L' news s x y tx ty tc pn n s'
inductive PostEnd (g' : Heap) (L' : Addr) (news : List (Addr × Obj)) (s : Shared) (a1 b1 : Str) (tc : Tok) (kn : Nat) (s' : Shared) : Prop
  | mk : ∀ h9 tk9 m9 t9 ta tb, s' = { s with heap := h9, toks := tk9 } → Fr g' L' h9 m9 → News g' L' h9 news → m9 (Str.ofString "a") = some (.str a1 ta) → m9 (Str.ofString "b") = some (.str b1 tb) → m9 (Str.ofString "max_cost") = some (.int 2 tc) → m9 (Str.ofString "post") = some (.int (-((kn : Nat) : Int)) t9) → kn ≤ a1.length → kn ≤ b1.length → PostEnd g' L' news s a1 b1 tc kn s'
inductive PostInv (g' : Heap) (L' : Addr) (news : List (Addr × Obj)) (s : Shared) (a1 b1 : Str) (tc : Tok) (kn : Nat) (n : Nat) (s' : Shared) : Prop
  | mk : ∀ h9 tk9 m9 t9 ta tb k, s' = { s with heap := h9, toks := tk9 } → Fr g' L' h9 m9 → News g' L' h9 news → m9 (Str.ofString "a") = some (.str a1 ta) → m9 (Str.ofString "b") = some (.str b1 tb) → m9 (Str.ofString "max_cost") = some (.int 2 tc) → m9 (Str.ofString "post") = some (.int (-((k : Nat) : Int)) t9) → k ≤ a1.length → k ≤ b1.length → kn = k + preL ((Cs a1).reverse.drop k) ((Cs b1).reverse.drop k) → n = a1.length - k → PostInv g' L' news s a1 b1 tc kn n s'
inductive CutA (g' : Heap) (L' : Addr) (news : List (Addr × Obj)) (s : Shared) (a1 b1 : Str) (tc : Tok) (kn : Nat) (s' : Shared) : Prop
  | mk : ∀ h9 tk9 m9 a2 t9 ta tb, s' = { s with heap := h9, toks := tk9 } → Fr g' L' h9 m9 → News g' L' h9 news → m9 (Str.ofString "a") = some (.str a2 ta) → m9 (Str.ofString "b") = some (.str b1 tb) → m9 (Str.ofString "max_cost") = some (.int 2 tc) → m9 (Str.ofString "post") = some (.int (-((kn : Nat) : Int)) t9) → Cs a2 = (Cs a1).take ((Cs a1).length - kn) → CutA g' L' news s a1 b1 tc kn s'
inductive CutB (g' : Heap) (L' : Addr) (news : List (Addr × Obj)) (s : Shared) (a2 b1 : Str) (tc : Tok) (kn : Nat) (s' : Shared) : Prop
  | mk : ∀ h9 tk9 m9 b2 ta tb, s' = { s with heap := h9, toks := tk9 } → Fr g' L' h9 m9 → News g' L' h9 news → m9 (Str.ofString "a") = some (.str a2 ta) → m9 (Str.ofString "b") = some (.str b2 tb) → m9 (Str.ofString "max_cost") = some (.int 2 tc) → Cs b2 = (Cs b1).take ((Cs b1).length - kn) → CutB g' L' news s a2 b1 tc kn s'
inductive CutC (g' : Heap) (L' : Addr) (news : List (Addr × Obj)) (s : Shared) (a2 b2 : Str) (tc : Tok) (s' : Shared) : Prop
  | mk : ∀ h9 tk9 m9 p q t1 t2, s' = { s with heap := h9, toks := tk9 } → Fr g' L' h9 m9 → News g' L' h9 news → m9 (Str.ofString "a") = some (.str p t1) → m9 (Str.ofString "b") = some (.str q t2) → m9 (Str.ofString "max_cost") = some (.int 2 tc) → 1 ≤ p.length → p.length ≤ q.length → q.length ≤ 3 → ((a2.length = 1 ∧ b2.length = 1) ↔ q.length = 1) → (∀ i j : Int, 0 ≤ i → i < q.length → 0 ≤ j → j < p.length → subF (Txt.item q i) (Txt.item p j) = 2) → CutC g' L' news s a2 b2 tc s'
inductive RowInv (news : List (Addr × Obj)) (D : Addr) (p q : Str) (r : Nat) (m₁ : Str → Option Value) (news₁ : List (Addr × Obj)) : Prop
  | mk : r ≤ 1 → ∀ us c ns rs t1 t2 t3 t5, news₁ = (D, W.listOf (List.toArray us) c) :: news → m₁ (Str.ofString "a") = some (.str p t1) → m₁ (Str.ofString "b") = some (.str q t2) → m₁ (Str.ofString "max_cost") = some (.int 2 t3) → m₁ (Str.ofString "row") = some (.ref D) → m₁ (Str.ofString "result") = some (.int rs t5) → IntsAre us ns → ns.length = p.length → (∀ j : Nat, j < p.length → ns.getD j 0 = 2 * max (r : Int) ((j : Int) + 1)) → (r = 1 → rs = 2 * (p.length : Int)) → RowInv news D p q r m₁ news₁
inductive ColInv (news : List (Addr × Obj)) (D I1 : Addr) (p q : Str) (r : Nat) (c : Nat) (m₁ : Str → Option Value) (news₁ : List (Addr × Obj)) : Prop
  | mk : ∀ us cc ns rs dist mn t1 t2 t3 t5 t6 t7 t8, news₁ = (I1, itR (0 + ((r + 1 : Nat) : Int)) ((((q.length : Int) - 0).toNat : Int) - ((r + 1 : Nat) : Int))) :: (D, W.listOf (List.toArray us) cc) :: news → m₁ (Str.ofString "a") = some (.str p t1) → m₁ (Str.ofString "b") = some (.str q t2) → m₁ (Str.ofString "max_cost") = some (.int 2 t3) → m₁ (Str.ofString "row") = some (.ref D) → m₁ (Str.ofString "result") = some (.int rs t5) → m₁ (Str.ofString "distance") = some (.int dist t6) → m₁ (Str.ofString "minimum") = some (.int mn t7) → m₁ (Str.ofString "bchar") = some (.str (Txt.item q (0 + (r : Int))) t8) → IntsAre us ns → ns.length = p.length → dist = 2 * max (r : Int) (c : Int) → (c = 0 → rs = 2 * (r : Int)) → (0 < c → rs = 2 * max (r : Int) ((c : Int) - 1) + 2) → (c = 0 → mn = 9223372036854775807) → (0 < c → mn = 2 * (r : Int) + 2) → (∀ j : Nat, c ≤ j → j < p.length → ns.getD j 0 = 2 * max (r : Int) ((j : Int) + 1)) → (∀ j : Nat, j < c → j < p.length → ns.getD j 0 = 2 * max (r : Int) (j : Int) + 2) → ColInv news D I1 p q r c m₁ news₁
theorem rs_ge {r c : Nat} {rs : Int} (e2 : c = 0 → rs = 2 * (r : Int)) (e3 : 0 < c → rs = 2 * max (r : Int) ((c : Int) - 1) + 2) : 2 * max (r : Int) (c : Int) ≤ rs := by
  rcases Nat.eq_zero_or_pos c with hc | hc
  · rw [e2 hc]; clear e2 e3; omega
  · rw [e3 hc]; clear e2 e3; omega
theorem lev_min {r c : Nat} {rs dist nv : Int} (e1 : dist = 2 * max (r : Int) (c : Int)) (hr : 2 * max (r : Int) (c : Int) ≤ rs) (hv : nv = 2 * max (r : Int) ((c : Int) + 1)) : (if dist + 2 < (if nv < rs then nv else rs) + 2 then dist + 2 else (if nv < rs then nv else rs) + 2) = 2 * max (r : Int) (c : Int) + 2 := by
  have h : max (r : Int) (c : Int) ≤ max (r : Int) ((c : Int) + 1) := by clear hv hr e1; omega
  subst e1; subst hv
  generalize max (r : Int) (c : Int) = M at *
  generalize max (r : Int) ((c : Int) + 1) = K at *
  have h2 : 2 * M ≤ (if 2 * K < rs then 2 * K else rs) := by split <;> omega
  generalize (if 2 * K < rs then 2 * K else rs) = Z at *
  clear hr h
  split <;> omega
theorem mn_step {r c : Nat} {mn z : Int} (hr : r ≤ 1) (e4 : c = 0 → mn = 9223372036854775807) (e5 : 0 < c → mn = 2 * (r : Int) + 2) (h : (2 * max (r : Int) (c : Int) + 2 < mn ∧ z = 2 * max (r : Int) (c : Int) + 2) ∨ (¬ 2 * max (r : Int) (c : Int) + 2 < mn ∧ z = mn)) : z = 2 * (r : Int) + 2 := by
  have hm : (r : Int) ≤ max (r : Int) (c : Int) := Int.le_max_left _ _
  rcases Nat.eq_zero_or_pos c with hc | hc
  · have e := e4 hc
    subst hc
    have h0 : max (r : Int) ((0 : Nat) : Int) = r := Int.max_eq_left (Int.natCast_nonneg r)
    rw [h0] at h
    clear e4 e5 hm h0
    rcases h with ⟨_, h⟩ | ⟨h, _⟩
    · exact h
    · exfalso; omega
  · have e := e5 hc
    clear e4 e5 hr
    generalize max (r : Int) (c : Int) = M at *
    rcases h with ⟨h, _⟩ | ⟨_, h⟩
    · exfalso; omega
    · exact h.trans e
section
theorem lev_ok {w : World} (x y : Str) (tx ty tc : Tok) (hx : x.length ≤ 5) (hy : y.length ≤ 5) (hd : LevDom (Cs x) (Cs y)) : Pure w 5 99 [.str x tx, .str y ty, .int 2 tc] (fun v => ∃ t, v = .int (levF (Cs x) (Cs y)) t) := by
  k_with_none; w_top off
  k_with "exec While" => (with_unfolding_all refine' While_mine ?_)
  k_with "exec While BoolOp" => (with_unfolding_all refine' While_mine ?_)
  k_with "TurnEnd ret" => (dsimp only [TurnEnd])
  k_with "subscriptTail Name Slice str ref" => ((with_reducible show wpAny _ _ (subscriptTail _ (Expr.Slice none (some _) none _) _ _) _ _ _); (with_reducible rename Fr _ _ _ _ => F'); (with_reducible rename News _ _ _ _ => N'); (refine sl_none (hsz := ?hsz) (s := ⟨_, _, _, _, _⟩) F' N' ?_); (case hsz => size_fits); intro _ _ _ _ _)
  k_with "truthy int" => (k_dflt (refine' truthy_nz ?h ?_; (case h => omega)))
  k_with "call ref" => ((with_reducible show wpAny _ _ (call (Value.ref 92) _) _ _ _); (rename ∀ i j : Int, 0 ≤ i → _ => hS8); k_dflt (refine' (sub_two _ _ _ _ ?c1 ?c2 ?c3 _).use ?k1 ?k2 ?k3 ?k4 ?k5 ?k9 ?k10 ?k6 ?k7 ?k8 ?_; (case c1 => omega); (case c2 => omega); (case c3 => exact hS8 _ _ (by omega) (by omega) (by omega) (by omega)); (case k1 => k_asm); (case k2 => k_asm); (case k3 => k_asm); (case k4 => k_asm); (case k5 => k_asm); (case k9 => assumption); (case k10 => assumption); (case k6 => first | assumption | rfl); (case k7 => ktr_room); (case k8 => ktr_units); k_whole); (rintro vw hw tkw nww ⟨⟨tw, e1w⟩, e2w⟩ Fw Nw); subst e1w; subst e2w; (try dsimp only); (try k_sweep); (try k_fold))
  k_with "call type:list" => (k_here; (rename IsRange _ _ _ _ _ _ _ _ => rgX); k_dflt (refine' list_two ?k0 ?k1 ?k2 rgX ?k6 ?_; (case k0 => rfl); (case k1 => k_asm); (case k2 => k_asm); (case k6 => omega); k_whole); intro us D cD h3 tk3 Fw Nw l1 hIw; (try dsimp only at Nw); (try k_lt l1); (try k_sweep))
  k_with "execs cons" => ((with_reducible show wpAny _ _ (execs (Stmt.If (Expr.Compare (Expr.Call _ _ _ _) [CmpOp.Lt] _ _) _ _ _ :: _) _) _ _ _); refine Hold.h ?_)
  k_with "pyIter ref" => ((with_reducible show wpAny _ _ (pyIter (Value.ref _)) (fun it s₂ => LoopAtV _ _ _ _ _ _ _ _ _ it s₂) _ _); (rename IsRange _ _ _ _ _ _ _ _ => rgX); k_dflt (refine' iter_rangeUnr ?k0 rgX ?k1 ?k2 ?k3 ?k4 ?_; (case k0 => rfl); (case k1 => exact small_one (by omega) (by omega) (by omega) (by omega)); (case k2 => exact rangeSize_nat _ _); (case k3 => k_asm); (case k4 => k_asm); k_whole); intro iw lw; (try k_lt lw))
  k_with "eval Subscript" => (rename (_ → _) ∧ (_ → _) => hq9; clear hq9)
  k_with "execs cons" => ((with_reducible show wpAny _ _ (execs (Stmt.AugAssign _ _ _ _ :: _) _) _ _ _); dsimp only)
  k_with "call builtin:min" => ((with_reducible show wpAny _ _ (call (Value.builtin _) [Value.int _ _, Value.int _ _]) _ _ _); (with_reducible rename News _ _ _ _ => N'); (with_reducible rename Fr _ _ _ _ => F'); k_dflt (refine' min_as ?hh F' N' ?e ?_; (case hh => rfl); (case e => first | exact hmn1 | exact hres); k_whole); clear N'; intro _ _ _ _ _)
  unfold Pure Does; k_fill
  intro news loose mean mg mb dp un gd cn cs a ccd cl outer A₀ base h₀ L m s Q E B F X N T C1 C2 hk hdp hun hret
  have hx' := len_cs x
  have hy' := len_cs y
  k_dflt cell_enter
  k_steps
  · refine hret _ _ _ _ ⟨int_end ?_, rfl⟩ (by k_asm) (by k_asm)
    rename (x == y) = true => z
    rw [beq_iff_eq.mp z]; exact (levF_self _).symm
  rename_i g' L' h1' FG' B' X' T' hne h2' F' N'
  generalize hpn : preL (Cs x) (Cs y) = pn
  refine WTurns.mono (R := fun f s' => Hold (f = .next ∧ PreEnd g' L' news s x y tx ty tc pn s')) ?_ ?_
  · refine ⟨fun n s' => PreInv g' L' news s x y tx ty tc pn n s', _, ⟨_, _, _, _, 0, by rfl, F', by assumption, by rfl, by rfl, by rfl, by rfl, Nat.zero_le _, Nat.zero_le _, by rw [← hpn]; simp, by rfl⟩, ?_⟩
    clear F' N'
    rintro n s' ⟨h9, tk9, m9, t9, k, rfl, F9, N9, f1, f2, f3, f4, hk0, hk1, e1, rfl⟩
    replace F9 := Fr.seeL F9 [(Str.ofString "pre", _), (Str.ofString "b", _), (Str.ofString "a", _), (Str.ofString "max_cost", _)] (List.forall_mem_cons.mpr ⟨f4, List.forall_mem_cons.mpr ⟨f2, List.forall_mem_cons.mpr ⟨f1, List.forall_mem_cons.mpr ⟨f3, List.forall_mem_nil _⟩⟩⟩⟩)
    dsimp only [kstB] at F9
    have q1 := from_len hk0
    have q2 := from_len hk1
    k_steps
    all_goals (repeat (rename (_ → _) ∧ (_ → _) => hq9; clear hq9))
    · rename Fr g' _ _ _ => F'; rename News g' _ _ _ => N'
      rename (Txt.item x _ == Txt.item y _) = true => z
      have hka : k < x.length := by omega
      have hkb : k < y.length := by omega
      rw [item_cs (by omega), item_cs (by omega), one_eq] at z
      have z' := of_decide_eq_true z
      dsimp only [TurnEnd]
      refine ⟨_, Nat.lt_of_le_of_lt (Nat.le_refl _) ?_, _, _, _, _, k + 1, rfl, F', N', by rfl, by rfl, by rfl, by rfl, by omega, by omega, ?_, rfl⟩
      · exact Nat.sub_succ_lt_self _ _ hka
      · rw [e1, pre_go (by omega) (by omega) z']; omega
    · rename Fr g' _ _ _ => F'; rename News g' _ _ _ => N'
      rename (Txt.item x _ == Txt.item y _) = false => z
      have hka : k < x.length := by omega
      have hkb : k < y.length := by omega
      rw [item_cs (by omega), item_cs (by omega), one_eq] at z
      have z' := of_decide_eq_false z
      have e2 := pre_end (by omega) (by omega) z'
      have e3 : pn = k := by omega
      subst e3
      exact ⟨by trivial, _, _, _, _, rfl, F', N', by rfl, by rfl, by rfl, by rfl, hk0, hk1⟩
    · rename Fr g' _ _ _ => F'; rename News g' _ _ _ => N'
      have e2 := pre_end2 (xs := Cs x) (ys := Cs y) (k := k) (by omega)
      have e3 : pn = k := by omega
      subst e3
      exact ⟨by trivial, _, _, _, _, rfl, F', N', by rfl, by rfl, by rfl, by rfl, hk0, hk1⟩
    · rename Fr g' _ _ _ => F'; rename News g' _ _ _ => N'
      have e2 := pre_end1 (xs := Cs x) (ys := Cs y) (k := k) (by omega)
      have e3 : pn = k := by omega
      subst e3
      exact ⟨by trivial, _, _, _, _, rfl, F', N', by rfl, by rfl, by rfl, by rfl, hk0, hk1⟩
  clear F' N' h2'
  rintro f s' ⟨⟨rfl, h9, tk9, m9, t9, rfl, F9, N9, f1, f2, f3, f4, hk0, hk1⟩⟩
  dsimp only
  replace F9 := Fr.seeL F9 [(Str.ofString "pre", _), (Str.ofString "b", _), (Str.ofString "a", _), (Str.ofString "max_cost", _)] (List.forall_mem_cons.mpr ⟨f4, List.forall_mem_cons.mpr ⟨f2, List.forall_mem_cons.mpr ⟨f1, List.forall_mem_cons.mpr ⟨f3, List.forall_mem_nil _⟩⟩⟩⟩)
  dsimp only [kstB] at F9
  k_steps
  rename Fr g' L' _ _ => F'; rename News g' L' _ _ => N'
  have ea := from_cs hk0
  have eb := from_cs hk1
  generalize Txt.slice x (some (pn : Int)) none = a1 at *
  generalize Txt.slice y (some (pn : Int)) none = b1 at *
  have la := len_cs a1
  have lb := len_cs b1
  have la5 : a1.length ≤ 5 := by rw [la, ea, List.length_drop]; omega
  have lb5 : b1.length ≤ 5 := by rw [lb, eb, List.length_drop]; omega
  have lar : (Cs a1).reverse.length = a1.length := by rw [List.length_reverse]; omega
  have lbr : (Cs b1).reverse.length = b1.length := by rw [List.length_reverse]; omega
  generalize hkn : preL (Cs a1).reverse (Cs b1).reverse = kn
  refine WTurns.mono (R := fun f s' => Hold (f = .next ∧ PostEnd g' L' news s a1 b1 tc kn s')) ?_ ?_
  · refine ⟨fun n s' => PostInv g' L' news s a1 b1 tc kn n s', _, ⟨_, _, _, _, _, _, 0, by rfl, F', by assumption, by rfl, by rfl, by rfl, by rfl, Nat.zero_le _, Nat.zero_le _, by rw [← hkn]; simp, by rfl⟩, ?_⟩
    clear F' N'
    rintro n s' ⟨h9, tk9, m9, t9, ta, tb, k, rfl, F9, N9, f1, f2, f3, f4, hj0, hj1, e1, rfl⟩
    replace F9 := Fr.seeL F9 [(Str.ofString "post", _), (Str.ofString "b", _), (Str.ofString "a", _), (Str.ofString "max_cost", _)] (List.forall_mem_cons.mpr ⟨f4, List.forall_mem_cons.mpr ⟨f2, List.forall_mem_cons.mpr ⟨f1, List.forall_mem_cons.mpr ⟨f3, List.forall_mem_nil _⟩⟩⟩⟩)
    dsimp only [kstB] at F9
    rcases Nat.eq_zero_or_pos k with hk00 | hk00
    · subst hk00
      k_steps
      all_goals (repeat (rename (_ → _) ∧ (_ → _) => hq9; clear hq9))
      · rename Fr g' _ _ _ => F'; rename News g' _ _ _ => N'
        rename (Txt.item a1 _ == Txt.item b1 _) = true => z
        have hka : 0 < a1.length := by omega
        have hkb : 0 < b1.length := by omega
        rw [item_rev' (x := a1) (j := 0) (by omega) (by omega), item_rev' (x := b1) (j := 0) (by omega) (by omega), one_eq] at z
        have z' := of_decide_eq_true z
        dsimp only [TurnEnd]
        refine ⟨_, Nat.lt_of_le_of_lt (Nat.le_refl _) ?_, _, _, _, _, _, _, 0 + 1, rfl, F', N', by rfl, by rfl, by rfl, (by show some _ = some _; congr 2 <;> omega), by omega, by omega, ?_, rfl⟩
        · exact Nat.sub_succ_lt_self _ _ hka
        · rw [e1, pre_go (by omega) (by omega) z']; omega
      · rename Fr g' _ _ _ => F'; rename News g' _ _ _ => N'
        rename (Txt.item a1 _ == Txt.item b1 _) = false => z
        have hka : 0 < a1.length := by omega
        have hkb : 0 < b1.length := by omega
        rw [item_rev' (x := a1) (j := 0) (by omega) (by omega), item_rev' (x := b1) (j := 0) (by omega) (by omega), one_eq] at z
        have z' := of_decide_eq_false z
        have e2 := pre_end (by omega) (by omega) z'
        have e3 : kn = 0 := by omega
        subst e3
        exact ⟨by trivial, _, _, _, _, _, _, rfl, F', N', by rfl, by rfl, by rfl, by rfl, hj0, hj1⟩
      · rename Fr g' _ _ _ => F'; rename News g' _ _ _ => N'
        have e2 := pre_end2 (xs := (Cs a1).reverse) (ys := (Cs b1).reverse) (k := 0) (by omega)
        have e3 : kn = 0 := by omega
        subst e3
        exact ⟨by trivial, _, _, _, _, _, _, rfl, F', N', by rfl, by rfl, by rfl, by rfl, hj0, hj1⟩
      · rename Fr g' _ _ _ => F'; rename News g' _ _ _ => N'
        have e2 := pre_end1 (xs := (Cs a1).reverse) (ys := (Cs b1).reverse) (k := 0) (by omega)
        have e3 : kn = 0 := by omega
        subst e3
        exact ⟨by trivial, _, _, _, _, _, _, rfl, F', N', by rfl, by rfl, by rfl, by rfl, hj0, hj1⟩
    · have q1 := to_len hk00 hj0
      have q2 := to_len hk00 hj1
      k_steps
      all_goals (repeat (rename (_ → _) ∧ (_ → _) => hq9; clear hq9))
      · rename Fr g' _ _ _ => F'; rename News g' _ _ _ => N'
        rename (Txt.item a1 _ == Txt.item b1 _) = true => z
        have hka : k < a1.length := by omega
        have hkb : k < b1.length := by omega
        rw [item_rev' (x := a1) (j := k) (by omega) (by omega), item_rev' (x := b1) (j := k) (by omega) (by omega), one_eq] at z
        have z' := of_decide_eq_true z
        dsimp only [TurnEnd]
        refine ⟨_, Nat.lt_of_le_of_lt (Nat.le_refl _) ?_, _, _, _, _, _, _, k + 1, rfl, F', N', by rfl, by rfl, by rfl, (by show some _ = some _; congr 2 <;> omega), by omega, by omega, ?_, rfl⟩
        · exact Nat.sub_succ_lt_self _ _ hka
        · rw [e1, pre_go (by omega) (by omega) z']; omega
      · rename Fr g' _ _ _ => F'; rename News g' _ _ _ => N'
        rename (Txt.item a1 _ == Txt.item b1 _) = false => z
        have hka : k < a1.length := by omega
        have hkb : k < b1.length := by omega
        rw [item_rev' (x := a1) (j := k) (by omega) (by omega), item_rev' (x := b1) (j := k) (by omega) (by omega), one_eq] at z
        have z' := of_decide_eq_false z
        have e2 := pre_end (by omega) (by omega) z'
        have e3 : kn = k := by omega
        subst e3
        exact ⟨by trivial, _, _, _, _, _, _, rfl, F', N', by rfl, by rfl, by rfl, by rfl, hj0, hj1⟩
      · rename Fr g' _ _ _ => F'; rename News g' _ _ _ => N'
        have e2 := pre_end2 (xs := (Cs a1).reverse) (ys := (Cs b1).reverse) (k := k) (by omega)
        have e3 : kn = k := by omega
        subst e3
        exact ⟨by trivial, _, _, _, _, _, _, rfl, F', N', by rfl, by rfl, by rfl, by rfl, hj0, hj1⟩
      · rename Fr g' _ _ _ => F'; rename News g' _ _ _ => N'
        have e2 := pre_end1 (xs := (Cs a1).reverse) (ys := (Cs b1).reverse) (k := k) (by omega)
        have e3 : kn = k := by omega
        subst e3
        exact ⟨by trivial, _, _, _, _, _, _, rfl, F', N', by rfl, by rfl, by rfl, by rfl, hj0, hj1⟩
  clear F' N'
  rintro f s' ⟨⟨rfl, h9, tk9, m9, t9, ta, tb, rfl, F9, N9, f1, f2, f3, f4, hj0, hj1⟩⟩
  dsimp only
  replace F9 := Fr.seeL F9 [(Str.ofString "post", _), (Str.ofString "b", _), (Str.ofString "a", _), (Str.ofString "max_cost", _)] (List.forall_mem_cons.mpr ⟨f4, List.forall_mem_cons.mpr ⟨f2, List.forall_mem_cons.mpr ⟨f1, List.forall_mem_cons.mpr ⟨f3, List.forall_mem_nil _⟩⟩⟩⟩)
  dsimp only [kstB] at F9
  have cutA : ∀ {v : Str} (hv : kn ≤ v.length) , True := fun _ => trivial
  refine cut1 (R := fun s' => CutA g' L' news s a1 b1 tc kn s') ?_ ?_
  · rcases Nat.eq_zero_or_pos kn with hk00 | hk00
    · subst hk00
      k_steps
      rename Fr g' _ _ _ => F'; rename News g' _ _ _ => N'
      exact ⟨by trivial, _, _, _, _, _, _, _, rfl, F', N', by rfl, by rfl, by rfl, by rfl, by rw [Nat.sub_zero, List.take_length]⟩
    · k_steps
      rename Fr g' _ _ _ => F'; rename News g' _ _ _ => N'
      exact ⟨by trivial, _, _, _, _, _, _, _, rfl, F', N', by rfl, by rfl, by rfl, by rfl, to_cs hk00 hj0⟩
  rintro s' ⟨h8, tk8, m8, a2, t8, ta8, tb8, rfl, F8, N8, f1, f2, f3, f4, ea2⟩
  clear F9 N9
  replace F8 := Fr.seeL F8 [(Str.ofString "post", _), (Str.ofString "b", _), (Str.ofString "a", _), (Str.ofString "max_cost", _)] (List.forall_mem_cons.mpr ⟨f4, List.forall_mem_cons.mpr ⟨f2, List.forall_mem_cons.mpr ⟨f1, List.forall_mem_cons.mpr ⟨f3, List.forall_mem_nil _⟩⟩⟩⟩)
  dsimp only [kstB] at F8
  refine cut1 (R := fun s' => CutB g' L' news s a2 b1 tc kn s') ?_ ?_
  · rcases Nat.eq_zero_or_pos kn with hk00 | hk00
    · subst hk00
      k_steps
      rename Fr g' _ _ _ => F'; rename News g' _ _ _ => N'
      exact ⟨by trivial, _, _, _, _, _, _, rfl, F', N', by rfl, by rfl, by rfl, by rw [Nat.sub_zero, List.take_length]⟩
    · k_steps
      rename Fr g' _ _ _ => F'; rename News g' _ _ _ => N'
      exact ⟨by trivial, _, _, _, _, _, _, rfl, F', N', by rfl, by rfl, by rfl, to_cs hk00 hj1⟩
  rintro s' ⟨h7, tk7, m7, b2, ta7, tb7, rfl, F7, N7, f1, f2, f3, eb2⟩
  clear F8 N8
  replace F7 := Fr.seeL F7 [(Str.ofString "b", _), (Str.ofString "a", _), (Str.ofString "max_cost", _)] (List.forall_mem_cons.mpr ⟨f2, List.forall_mem_cons.mpr ⟨f1, List.forall_mem_cons.mpr ⟨f3, List.forall_mem_nil _⟩⟩⟩)
  dsimp only [kstB] at F7
  have r1 : (lres (Cs x) (Cs y)).1 = Cs a2 := by rw [ea2, ea, ← hkn, ea, eb, ← hpn]; rfl
  have r2 : (lres (Cs x) (Cs y)).2 = Cs b2 := by rw [eb2, eb, ← hkn, ea, eb, ← hpn]; rfl
  have la2 := len_cs a2
  have lb2 := len_cs b2
  obtain ⟨hd1, hd2, hd3⟩ := hd
  rw [r1] at hd1 hd2
  rw [r2] at hd1 hd3
  have la25 : a2.length ≤ 5 := by omega
  have lb25 : b2.length ≤ 5 := by omega
  have hl0 : levF (Cs x) (Cs y) = if a2.length = 0 ∨ b2.length = 0 then 2 * ((a2.length : Int) + b2.length) else if a2.length = 1 ∧ b2.length = 1 then 2 else 3 := by
    unfold levF
    rw [r1, r2, la2, lb2]
    simp only [List.length_eq_zero_iff]
  rw [hl0] at hret
  have hS1 : ∀ i j : Int, 0 ≤ i → i < a2.length → 0 ≤ j → j < b2.length → subF (Txt.item a2 i) (Txt.item b2 j) = 2 := fun i j p1 p2 p3 p4 => (sub_dom hd1 i j p1 p2 p3 p4).1
  have hS2 : ∀ i j : Int, 0 ≤ i → i < b2.length → 0 ≤ j → j < a2.length → subF (Txt.item b2 i) (Txt.item a2 j) = 2 := fun i j p1 p2 p3 p4 => (sub_dom hd1 j i p3 p4 p1 p2).2
  rw [← la2] at hd2; rw [← lb2] at hd3
  clear hl0 r1 r2 hd1 ea2 eb2 hkn hpn hne ea eb la lb lar lbr hx' hy' la2 lb2
  by_cases hz : a2.length = 0 ∨ b2.length = 0
  · rw [if_pos hz] at hret
    k_steps
    all_goals first
      | (exfalso; omega)
      | refine hret _ _ _ _ ⟨int_end (by omega), rfl⟩ (by k_asm) (by k_asm)
  rw [if_neg hz] at hret
  have ha1 : 1 ≤ a2.length := by omega
  have hb1 : 1 ≤ b2.length := by omega
  clear hz la5 lb5 la25 lb25 hx hy hk0 hk1 hj0 hj1
  k_steps
  rotate_left
  all_goals try (exfalso; omega)
  rename Fr g' _ _ _ => F'; rename News g' _ _ _ => N'
  refine ⟨?_⟩
  refine cut1 (R := fun s' => CutC g' L' news s a2 b2 tc s') ?_ ?_
  · k_steps
    · rename Fr g' _ _ _ => F'; rename News g' _ _ _ => N'
      exact ⟨by trivial, _, _, _, _, _, _, _, rfl, F', fun z hz => N' z (.tail _ hz), by rfl, by rfl, by rfl, by omega, by omega, by omega, by omega, hS1⟩
    · rename Fr g' _ _ _ => F'; rename News g' _ _ _ => N'
      exact ⟨by trivial, _, _, _, _, _, _, _, rfl, F', N', by rfl, by rfl, by rfl, by omega, by omega, by omega, by omega, hS2⟩
  clear F' N'
  rintro s' ⟨h6, tk6, m6, p, q, t16, t26, rfl, F6, N6, f1, f2, f3, hp1, hpq, hq3, hiff, hS⟩
  replace F6 := Fr.seeL F6 [(Str.ofString "b", _), (Str.ofString "a", _), (Str.ofString "max_cost", _)] (List.forall_mem_cons.mpr ⟨f2, List.forall_mem_cons.mpr ⟨f1, List.forall_mem_cons.mpr ⟨f3, List.forall_mem_nil _⟩⟩⟩)
  dsimp only [kstB] at F6
  simp only [hiff] at hret
  clear hS1 hS2 ha1 hb1 hd2 hd3
  k_steps
  · refine hret _ _ _ _ ⟨int_end ?_, rfl⟩ (by k_asm) (by k_asm)
    rw [if_neg (by omega)]; rfl
  rename Fr g' _ _ _ => F'; rename News g' _ _ _ => N'
  rename IntsAre _ _ => hI
  rename_i h2 h1 F1 N1 h0 tk1 t9 u9 v9 al
  obtain ⟨I1, eI1⟩ : ∃ I1, I1 = iw := ⟨_, rfl⟩
  subst eI1
  have l1i := lw
  clear lw
  have l1D : AllLt D news := AllLt.of l1
  clear l1
  refine range_ind (fun r m₁ news₁ => RowInv news D p q r m₁ news₁) ?_ ?_ ?_
  · refine ⟨by omega, us, cD, _, _, _, _, _, _, rfl, by rfl, by rfl, by rfl, by rfl, by rfl, hI, by simp, ?_, by omega⟩
    intro j hj
    rw [List.getD_eq_getElem?_getD, List.getElem?_map, List.getElem?_range hj]
    simp
    omega
  · clear F' N' hI F1 N1 rgX al
    rintro r m₁ news₁ hr ⟨hr1, us1, c1, ns, rs, t1, t2, t3, t5, rfl, f1, f2, f3, f4, f5, hI1, hl1, hf, hrr⟩ t h7 tk7 F7 N7
    have hrq : r < q.length := lt_sub0 hr
    replace F7 := Fr.seeL F7 [(Str.ofString "bindex", _), (Str.ofString "b", _), (Str.ofString "a", _), (Str.ofString "max_cost", _), (Str.ofString "row", _)] (List.forall_mem_cons.mpr ⟨by rfl, List.forall_mem_cons.mpr ⟨f2, List.forall_mem_cons.mpr ⟨f1, List.forall_mem_cons.mpr ⟨f3, List.forall_mem_cons.mpr ⟨f4, List.forall_mem_nil _⟩⟩⟩⟩⟩)
    dsimp only [kstB] at F7
    k_steps
    rename Fr g' _ _ _ => F'; rename News g' _ _ _ => N'
    refine range_ind (fun c m₁ news₁ => ColInv news D I1 p q r c m₁ news₁) ?_ ?_ ?_
    · exact ⟨us1, c1, ns, _, _, _, _, _, _, _, _, _, _, rfl, by rfl, by rfl, by rfl, by rfl, by rfl, by rfl, by rfl, by rfl, hI1, hl1, by omega, by omega, by omega, fun _ => rfl, by omega, fun j _ hj => hf j hj, fun j hj => absurd hj (Nat.not_lt_zero j)⟩
    · clear F' N' f1 f2 f3 f4 f5 hI1 hf hl1 hrr F7 N7
      rintro c m₁ news₁ hc ⟨us2, c2, ns2, rs2, dist, mn, t12, t22, t32, t52, t62, t72, t82, rfl, f1, f2, f3, f4, f5, f6, f7, f8, hI2, hl2, e1, e2, e3, e4, e5, e6, e7⟩ tt h5 tk5 F5 N5
      have hcp : c < p.length := lt_sub0 hc
      have hz : (0 + (c : Int)).toNat = c := by omega
      replace F5 := Fr.seeL F5 [(Str.ofString "index", _), (Str.ofString "b", _), (Str.ofString "a", _), (Str.ofString "max_cost", _), (Str.ofString "row", _), (Str.ofString "result", _), (Str.ofString "distance", _), (Str.ofString "minimum", _), (Str.ofString "bchar", _)] (List.forall_mem_cons.mpr ⟨by rfl, List.forall_mem_cons.mpr ⟨f2, List.forall_mem_cons.mpr ⟨f1, List.forall_mem_cons.mpr ⟨f3, List.forall_mem_cons.mpr ⟨f4, List.forall_mem_cons.mpr ⟨f5, List.forall_mem_cons.mpr ⟨f6, List.forall_mem_cons.mpr ⟨f7, List.forall_mem_cons.mpr ⟨f8, List.forall_mem_nil _⟩⟩⟩⟩⟩⟩⟩⟩⟩)
      dsimp only [kstB] at F5
      have hv : ns2.getD (0 + (c : Int)).toNat 0 = 2 * max (r : Int) ((c : Int) + 1) := by rw [hz]; exact e6 c (Nat.le_refl _) hcp
      obtain ⟨Z9, hmn1⟩ : ∃ Z, (if ns2.getD (0 + (c : Int)).toNat 0 < rs2 then ns2.getD (0 + (c : Int)).toNat 0 else rs2) = Z := ⟨_, rfl⟩
      have hres : (if dist + 2 < Z9 + 2 then dist + 2 else Z9 + 2) = 2 * max (r : Int) (c : Int) + 2 := hmn1 ▸ lev_min e1 (rs_ge e2 e3) hv
      k_steps
      all_goals
        rename Fr g' _ _ _ => F'; rename News g' _ _ _ => N'
        try (rename _ < mn => hlt)
        try (rename ¬ _ < mn => hlt)
        rename IntsAre _ (List.set _ _ _) => hI3
        clear hres hmn1
        refine UnrEnd.intro F' N' _ (fun _ hp9 => hp9) ?_ ⟨_, _, _, _, _, _, _, _, _, _, _, _, _, rfl, by rfl, by rfl, by rfl, by rfl, by rfl, by rfl, by rfl, by rfl, hI3, by rw [List.length_set]; exact hl2, ?_, ?_, ?_, ?_, ?_, ?_, ?_⟩
        · refine List.forall_mem_cons.mpr ⟨?_, List.forall_mem_cons.mpr ⟨?_, ?_⟩⟩
          · refine neN ?_; dsimp only; omega
          · refine neN ?_; dsimp only; omega
          · k_all
        · exact hv.trans (by rw [Int.natCast_add]; rfl)
        · intro h9; exact absurd h9 (Nat.succ_ne_zero c)
        · intro h9; rw [Int.natCast_add, Int.natCast_one, Int.add_sub_cancel]
        · intro h9; exact absurd h9 (Nat.succ_ne_zero c)
        · intro h9; exact mn_step hr1 e4 e5 (by first | exact .inl ⟨hlt, rfl⟩ | exact .inr ⟨hlt, rfl⟩)
        · intro j hj1 hj2
          rw [hz, getD_set _ _ _ _ (by omega), if_neg (by omega)]
          exact e6 j (by omega) hj2
        · intro j hj1 hj2
          rw [hz, getD_set _ _ _ _ (by omega)]
          by_cases hjc : c = j
          · rw [if_pos hjc, hjc]
          · rw [if_neg hjc]; exact e7 j (by omega) hj2
    · rintro m₁ news₁ ⟨us2, c2, ns2, rs2, dist, mn, t12, t22, t32, t52, t62, t72, t82, rfl, f1, f2, f3, f4, f5, f6, f7, f8, hI2, hl2, e1, e2, e3, e4, e5, e6, e7⟩ h5 tk5 F5 N5
      have e5' := e5 (by omega)
      have e3' := e3 (by omega)
      clear e2 e3 e4 e5
      replace F5 := Fr.seeL F5 [(Str.ofString "b", _), (Str.ofString "a", _), (Str.ofString "max_cost", _), (Str.ofString "row", _), (Str.ofString "result", _), (Str.ofString "minimum", _)] (List.forall_mem_cons.mpr ⟨f2, List.forall_mem_cons.mpr ⟨f1, List.forall_mem_cons.mpr ⟨f3, List.forall_mem_cons.mpr ⟨f4, List.forall_mem_cons.mpr ⟨f5, List.forall_mem_cons.mpr ⟨f7, List.forall_mem_nil _⟩⟩⟩⟩⟩⟩)
      dsimp only [kstB] at F5
      k_steps
      · rename News h₀ L _ _ => kN
        refine hret _ _ _ _ ⟨int_end ?_, rfl⟩ (by k_asm) (fun z hz => kN z (.tail _ (.tail _ hz)))
        rw [if_neg (by omega)]; rfl
      · rename Fr g' _ _ _ => F'; rename News g' _ _ _ => N'
        refine UnrEnd.intro (by assumption) N' _ (fun _ hp9 => hp9) ?_ ⟨by omega, _, _, _, _, _, _, _, _, rfl, by rfl, by rfl, by rfl, by rfl, by rfl, hI2, hl2, ?_, ?_⟩
        · refine List.forall_mem_cons.mpr ⟨?_, ?_⟩
          · refine neN ?_; dsimp only; omega
          · k_all
        · intro j hj
          rw [e7 j (by omega) hj]; exact mx_step r j
        · intro hr9; exact rs_end hp1 e3' hr9
  · rintro m₁ news₁ ⟨hr1, us1, c1, ns, rs, t1, t2, t3, t5, rfl, f1, f2, f3, f4, f5, hI1, hl1, hf, hrr⟩ h7 tk7 F7 N7
    have hq1 : q.length = 1 := by clear hrr hret hf; omega
    replace F7 := Fr.seeL F7 [(Str.ofString "b", _), (Str.ofString "a", _), (Str.ofString "max_cost", _), (Str.ofString "row", _), (Str.ofString "result", _)] (List.forall_mem_cons.mpr ⟨f2, List.forall_mem_cons.mpr ⟨f1, List.forall_mem_cons.mpr ⟨f3, List.forall_mem_cons.mpr ⟨f4, List.forall_mem_cons.mpr ⟨f5, List.forall_mem_nil _⟩⟩⟩⟩⟩)
    dsimp only [kstB] at F7
    k_steps
    rename News h₀ L _ _ => kN
    refine hret _ _ _ _ ⟨int_end ?_, rfl⟩ (by k_asm) (fun z hz => kN z (.tail _ hz))
    rw [if_pos hq1]; clear hret; have h9 := hrr (by rw [hq1]; rfl); clear hrr hf; omega
end
end Mine
end
section
open PySem PySem.W PyProof.Rows PySem.Spec PySem.Calls
namespace Mine
/-- a contract that asks something of the heap below the frame of the caller -/
def DoesOn (P : Heap → Prop) (w : World) (d : Nat) (f : Addr) (vs : List Value) (news : List (Addr × Obj)) (POST : Value → List (Addr × Obj) → Prop) : Prop :=
  ∀ (loose : List Str) (mean : ExcName → Option Value) (mg mb : Str → Option Value) (dp un : Nat) (gd : Option (List Code)) (cn : Str) (cs : Scope) (a : Addr) (ccd : Value) (cl : List (Str × Addr)) (outer : List Env) (A₀ : Around) (base h₀ : Heap) (L : Addr) (m : Str → Option Value) (s : Shared) (Q E : Value → Shared → Prop),
    P h₀ → Below A₀ base outer h₀ → Fr h₀ L s.heap m → (hd.heap_1 w.params).In h₀ → News h₀ L s.heap news → Top topProg loose mean mg mb h₀ → CodeHd base 117 113 → CodeHd base 35 31 → cs.kind = .function → dp + d < recursionLimit → un + 10 * d < cLine →
    (∀ (v : Value) (h' : Heap) (tk' : Nat) (news' : List (Addr × Obj)), POST v news' → Fr h₀ L h' m → News h₀ L h' news' → Q v { s with heap := h', toks := tk' }) →
    codeAny (model PySem.Challenge.rw_sh0031_01.row.prog w) (ktrTop dp un gd cn cs L a ccd cl outer) (.call (.ref f) ⟨vs, []⟩) (fun r s' => match r with | .ok (.ret v) => Q v s' | .ok _ => False | .error e => E e s') s
end Mine
end
section
open PySem PySem.W PyProof.Rows PySem.Spec PySem.Calls
namespace Mine
def stockL : List Int := [9, 3, 12, 5, 14, 4, 1, 2, 11, 16]
def moreF (ns : List Int) (k : Nat) : Int := if k < ns.length then (ns.getD k 0).fmod 51 else 0
def lvlF (ns : List Int) (k : Nat) : Int := (stockL.getD k 0 + moreF ns k).fmod 17
def styF (ns : List Int) (k : Nat) : Int := ((k : Int) + (moreF ns k).fdiv 17).fmod 3
theorem ints_one {a b : Int} {t : Tok} (e : a = b) : IntsAre [.int a t] [b] := e ▸ .cons _ _ .nil
section
inductive DrawnInv (news : List (Addr × Obj)) (aS lK lL lS : Addr) (ns : List Int) (k : Nat) (m₁ : Str → Option Value) (news₁ : List (Addr × Obj)) : Prop
  | mk : ∀ us1 c1 us2 c2 us3 c3, news₁ = (lS, W.listOf (List.toArray us1) c1) :: (lL, W.listOf (List.toArray us2) c2) :: (lK, W.listOf (List.toArray us3) c3) :: news → m₁ (Str.ofString "script") = some (.ref aS) → m₁ (Str.ofString "stock") = some (.ref lK) → m₁ (Str.ofString "levels") = some (.ref lL) → m₁ (Str.ofString "styles") = some (.ref lS) → IntsAre us1 ((List.range k).map (styF ns)) → IntsAre us2 ((List.range k).map (lvlF ns)) → IntsAre us3 [9, 3, 12, 5, 14, 4, 1, 2, 11, 16] → DrawnInv news aS lK lL lS ns k m₁ news₁
inductive DrawnPost (ns : List Int) (news : List (Addr × Obj)) (v : Value) (news' : List (Addr × Obj)) : Prop
  | mk : ∀ T lL lS us1 c1 us2 c2, v = .ref T → news' = (T, { cls := .type "tuple", data := .seq #[.ref lL, .ref lS] }) :: (lS, W.listOf (List.toArray us1) c1) :: (lL, W.listOf (List.toArray us2) c2) :: news → IntsAre us1 ((List.range 10).map (styF ns)) → IntsAre us2 ((List.range 10).map (lvlF ns)) → @LT.lt Nat _ lL lS → @LT.lt Nat _ lS T → AllLt lL news → DrawnPost ns news v news'
theorem drawn_ok {w : World} (aS : Addr) (vs : List Value) (ns : List Int) (hI : IntsAre vs ns) (hn : ns.length ≤ 63) (news : List (Addr × Obj)) : DoesOn (fun h => h.IsList aS vs.toArray) w 4 106 [.ref aS] news (fun v news' => DrawnPost ns news v news') := by
  k_with_none; w_top off
  k_with "pyIter ref" => ((with_reducible show wpAny _ _ (pyIter (Value.ref _)) (fun it s₂ => LoopAtV _ _ _ _ _ _ _ _ _ it s₂) _ _); (rename IsRange _ _ _ _ _ _ _ _ => rgX); k_dflt (refine' iter_rangeUnr (n := 10) ?k0 rgX ?k1 ?k2 ?k3 ?k4 ?_; (case k0 => rfl); (case k1 => exact small_one (by omega) (by omega) (by omega) (by omega)); (case k2 => rfl); (case k3 => k_asm); (case k4 => k_asm); k_whole); intro iI l1i; (try k_lt l1i); refine Hold.h ?_)
  unfold DoesOn; k_fill
  intro loose mean mg mb dp un gd cn cs a ccd cl outer A₀ base h₀ L m s Q E hS B F X N T C1 C2 hk hdp hun hret
  k_dflt cell_enter
  k_steps
  refine ⟨?_⟩
  rename_i g' L' h7 FG' B' X' T' tk3 lK h6 l1a h5 tk2 lL h4 l1b h3 tk1 lS h2 l1c h1 F1 N1 h0 tk0 t9 u9 v9 F2 N2 al
  have hS' : g'.IsList aS vs.toArray := by
    obtain ⟨o, ho, hr⟩ := hS
    exact ⟨o, FG'.keep _ _ ho, hr⟩
  refine range_ind (fun k m₁ news₁ => DrawnInv news aS lK lL lS ns k m₁ news₁) ?_ ?_ ?_
  · exact ⟨[], _, [], _, [_, _, _, _, _, _, _, _, _, _], _, rfl, by rfl, by rfl, by rfl, by rfl, .nil, .nil, by repeat' constructor⟩
  · clear F1 N1 F2 N2 rgX al
    rintro k m₁ news₁ hk10 ⟨us1, c1, us2, c2, us3, c3, rfl, f1, f2, f3, f4, hI1, hI2, hI3⟩ t h8 tk8 F8 N8
    have hu1 : us1.length = k := by rw [hI1.length]; simp
    have hu2 : us2.length = k := by rw [hI2.length]; simp
    replace F8 := Fr.seeL F8 [(Str.ofString "k", _), (Str.ofString "script", _), (Str.ofString "stock", _), (Str.ofString "levels", _), (Str.ofString "styles", _)] (List.forall_mem_cons.mpr ⟨by rfl, List.forall_mem_cons.mpr ⟨f1, List.forall_mem_cons.mpr ⟨f2, List.forall_mem_cons.mpr ⟨f3, List.forall_mem_cons.mpr ⟨f4, List.forall_mem_nil _⟩⟩⟩⟩⟩)
    dsimp only [kstB] at F8
    k_steps
    all_goals
      rename Fr g' _ _ _ => F'; rename News g' _ _ _ => N'
      rw [List.push_toArray, List.push_toArray] at N'
      refine UnrEnd.intro F' N' _ (fun _ hp9 => hp9) ?_ ⟨_, _, _, _, _, _, rfl, by rfl, by rfl, by rfl, by rfl, ?_, ?_, hI3⟩
      · refine List.forall_mem_cons.mpr ⟨?_, List.forall_mem_cons.mpr ⟨?_, List.forall_mem_cons.mpr ⟨?_, ?_⟩⟩⟩
        · refine neN ?_; dsimp only; omega
        · refine neN ?_; dsimp only; omega
        · refine neN ?_; dsimp only; omega
        · k_all
      · rw [List.range_succ, List.map_append]
        refine IntsAre.append hI1 ?_
        refine ints_one ?_
        have hz : (0 + (k : Int)).toNat = k := by omega
        unfold styF moreF
        first
          | rw [if_pos (by omega), hz, Int.zero_add]
          | rw [if_neg (by omega), Int.zero_add]
      · rw [List.range_succ, List.map_append]
        refine IntsAre.append hI2 ?_
        refine ints_one ?_
        have hz : (0 + (k : Int)).toNat = k := by omega
        unfold lvlF moreF stockL
        first
          | rw [if_pos (by omega), hz]
          | rw [if_neg (by omega), hz]
  · clear F1 N1 F2 N2 rgX al
    rintro m₁ news₁ ⟨us1, c1, us2, c2, us3, c3, rfl, f1, f2, f3, f4, hI1, hI2, hI3⟩ h8 tk8 F8 N8
    replace F8 := Fr.seeL F8 [(Str.ofString "levels", _), (Str.ofString "styles", _)] (List.forall_mem_cons.mpr ⟨f3, List.forall_mem_cons.mpr ⟨f4, List.forall_mem_nil _⟩⟩)
    dsimp only [kstB] at F8
    k_steps
    rename News h₀ _ _ _ => N'
    refine hret _ _ _ _ ⟨_, lL, lS, us1, c1, us2, c2, rfl, rfl, hI1, hI2, by omega, by omega, by simp only [l1b]⟩ (by k_asm) ?_
    intro z hz
    refine N' z ?_
    simp only [List.mem_cons] at hz ⊢
    rcases hz with h | h | h | h
    · exact .inl h
    · exact .inr (.inl h)
    · exact .inr (.inr (.inl h))
    · exact .inr (.inr (.inr (.inr h)))
end
end Mine
end
section
open PySem PySem.W PyProof.Rows PySem.Spec PySem.Calls
open PyProof.Rows.LCg
namespace Mine
section
variable {h₀ h h' : Heap} {L I C D ch : Addr} {m mc : Str → Option Value} {oI oC : Obj} {ys : List Value} {y : Value} {led : List (Addr × Obj)}
/-- the places of a running comprehension (iterator, own frame, list): apart, and all made by the call -/
structure Place (h₀ : Heap) (L I C D : Addr) : Prop where
  i : I ≠ L ∧ h₀.get? I = none
  c : C ≠ L ∧ h₀.get? C = none
  d : D ≠ L ∧ h₀.get? D = none
  ic : I ≠ C
  id : I ≠ D
  cd : C ≠ D
theorem fr_only (F : Fr h₀ L h m) (n : ch ≠ L ∧ h₀.get? ch = none) (k : Heap.ExtBut ch h h') : Fr h₀ L h' m where
  ns := F.ns.extBut k n.1.symm
  keep b o e := k b o (by rintro rfl; simp [n.2] at e) (F.keep b o e)
  above := F.above
theorem nw_only (N : News h₀ L h led) (off : ∀ p ∈ led, p.1 ≠ ch) (k : Heap.ExtBut ch h h') : News h₀ L h' led :=
  fun p hp => (N p hp).imp (k _ _ (off p hp)) fun z => z
/-- the three objects of a comprehension ahead of its ledger -/
def full (I C D : Addr) (oI oC : Obj) (ys : List Value) (led : List (Addr × Obj)) : List (Addr × Obj) := (I, oI) :: (C, oC) :: (D, lst ys) :: led
theorem full_mk (P : Place h₀ L I C D) (eI : h.get? I = some oI) (eC : h.get? C = some oC) (eD : h.get? D = some (lst ys)) (N : News h₀ L h led) : News h₀ L h (full I C D oI oC ys led) := by
  simp only [full, News, List.forall_mem_cons]
  exact ⟨⟨eI, P.i⟩, ⟨eC, P.c⟩, ⟨eD, P.d⟩, N⟩
theorem full_un (N : News h₀ L h (full I C D oI oC ys led)) : h.get? I = some oI ∧ h.get? C = some oC ∧ h.get? D = some (lst ys) ∧ News h₀ L h led := by
  simp only [full, News, List.forall_mem_cons] at N
  exact ⟨N.1.1, N.2.1.1, N.2.2.1.1, N.2.2.2⟩
/-- the list grows by one -/
theorem full_app (P : Place h₀ L I C D) (off : Off3 I C D led) (N : News h₀ L h (full I C D oI oC ys led)) (k : Heap.ExtBut D h h') (e : h'.get? D = some (lst (ys ++ [y]))) : News h₀ L h' (full I C D oI oC (ys ++ [y]) led) :=
  let ⟨eI, eC, _, N'⟩ := full_un N
  full_mk P (k _ _ P.id eI) (k _ _ P.cd eC) e (nw_only N' (fun p hp => (off.mem p hp).2.2) k)
theorem two_pushed {a b : Obj} (fa : a.isFreed = false) (sb : Heap.SameBut (h.push a).objs.size ((h.push a).push b) h') :
    (∀ c o, h.get? c = some o → h'.get? c = some o) ∧ h'.get? h.objs.size = some a := by
  have nz : ∀ c : Nat, c ≤ h.objs.size → c ≠ (h.push a).objs.size := fun c hc => by rw [Heap.size_push]; exact Nat.ne_of_lt (Nat.lt_succ_of_le hc)
  exact ⟨fun c o e => sb.extBut c o (nz c (Nat.le_of_lt (Heap.lt_size e))) (Heap.get?_push_of_some b (Heap.get?_push_of_some a e)),
    sb.extBut _ _ (nz _ (Nat.le_refl _)) (Heap.get?_push_of_some b (Heap.get?_push_size h fa))⟩
end
section
variable {prog : Program} {w : World} {A : Around} {E : Value → Shared → Prop} {s : Shared} {h₀ : Heap} {L I C D : Addr} {m : Str → Option Value} {env : Env} {scope : Scope} {cl : List (Str × Addr)}
/-- a comprehension from its first source on -/
def CompAt (prog : Program) (w : World) (A : Around) (E : Value → Shared → Prop) (env : Env) (scope : Scope) (cl : List (Str × Addr)) (e : Expr) (RR : Value → Addr → Result → Shared → Prop) (it : Value) (s : Shared) : Prop :=
  wpAny (model prog w) A (newList []) (fun acc s₃ => wpAny (model prog w) A (newFunctionEnv scope env.globals cl [] env.qual none .none (some env)) (fun cenv s₄ =>
    codeAny (model prog w) A (.compStart e 0 it acc { cenv with scope := relabel scope env }) (RR acc cenv.locals) s₄) E s₃) E s
theorem CompAt.mk {e : Expr} {it : Value} {RR : Value → Addr → Result → Shared → Prop} {oI : Obj} {led : List (Addr × Obj)} (hcell : ∀ y ∈ scope.names, y.2 ≠ .cell) (hkind : scope.kind = .function)
    (F : Fr h₀ L s.heap m) (N : News h₀ L s.heap led) (eI : s.heap.get? I = some oI) (nI : I ≠ L ∧ h₀.get? I = none) (offI : ∀ p ∈ led, p.1 ≠ I)
    (next : ∀ C D h mc tk, s.heap.objs.size ≤ C → s.heap.objs.size ≤ D → Place h₀ L I C D → Off3 I C D led → (∀ b o, s.heap.get? b = some o → h.get? b = some o) → h.Ns C mc → h.get? D = some (lst []) →
      codeAny (model prog w) A (.compStart e 0 it (.ref D) (compEnvC scope cl C env)) (RR (.ref D) C) { s with heap := h, toks := tk }) :
    CompAt prog w A E env scope cl e RR it s := by
  refine wpAny_newObj_type (wpAny_newFunctionEnv hcell (fun _ hy => nomatch hy) (fun h₁ ns sb => ?_) hkind)
  obtain ⟨up, eD⟩ := two_pushed rfl sb
  have z : (s.heap.push { cls := .type "list", data := .seq ([] : List Value).toArray }).objs.size = s.heap.objs.size + 1 := Heap.size_push ..
  have fresh : ∀ a : Nat, s.heap.objs.size ≤ a → a ≠ L ∧ h₀.get? a = none := fun a ha =>
    ⟨Nat.ne_of_gt (Nat.lt_of_lt_of_le F.ns.lt ha), Heap.get?_none_of_le (Nat.le_trans F.above (Nat.le_trans (Nat.le_of_lt F.ns.lt) ha))⟩
  have apart : ∀ a : Nat, a < s.heap.objs.size → a ≠ s.heap.objs.size + 1 ∧ a ≠ s.heap.objs.size := fun a ha => ⟨Nat.ne_of_lt (Nat.lt_succ_of_lt ha), Nat.ne_of_lt ha⟩
  have ai := apart I (Heap.lt_size eI)
  rw [z] at ns
  have key := next (s.heap.objs.size + 1) _ h₁ _ (s.toks + 0) (Nat.le_succ _) (Nat.le_refl _) ⟨nI, fresh _ (Nat.le_succ _), fresh _ (Nat.le_refl _), ai.1, ai.2, Nat.succ_ne_self _⟩ (Off3.of fun p hp => ⟨offI p hp, apart _ (Heap.lt_size (N p hp).1)⟩) up ns eD
  rw [← z] at key
  exact key
/-- between two turns -/
inductive Runs (Dr : Drawn → Prop) (h₀ : Heap) (L : Addr) (m : Str → Option Value) (s : Shared) (St : Nat → Heap → Prop) (T : Nat → List Value → List (Addr × Obj) → Prop) (Mc : (Str → Option Value) → Prop) (I C D : Addr) (n k : Nat) : Shared → Prop
  | mk (i : Nat) (h : Heap) (dr : Drawn) (tk : Nat) (mc : Str → Option Value) (ys : List Value) (led : List (Addr × Obj)) (hk : i + k = n) (hd : Dr dr) (F : Fr h₀ L h m) (ns : h.Ns C mc) (eD : h.get? D = some (lst ys)) (N : News h₀ L h led)
      (off : Off3 I C D led) (st : St i h) (hT : T i ys led) (hM : Mc mc) : Runs Dr h₀ L m s St T Mc I C D n k { s with heap := h, drawn := dr, toks := tk }
variable {Dr : Drawn → Prop} {St : Nat → Heap → Prop} {T : Nat → List Value → List (Addr × Obj) → Prop} {Mc : (Str → Option Value) → Prop} {n : Nat} {Pv : Nat → Value → Prop} {fp : List Addr} {x : Str} {px : Pos}
/-- what the walker of a source must bear -/
structure Stays (h₀ : Heap) (L I : Addr) (T : Nat → List Value → List (Addr × Obj) → Prop) (St : Nat → Heap → Prop) : Prop where
  has : ∀ i h, St i h → ∃ o, h.get? I = some o
  kept : ∀ i h h' o ys led, St i h → h.get? I = some o → h'.get? I = some o → (∀ b o, h₀.get? b = some o → h'.get? b = some o) → News h₀ L h' led → T i ys led → St i h'
/-- one turn of a loop over a source: the item drawn, its name stored, the rest of the turn (B) by what is given -/
theorem Runs.turn {k : Nat} {s' : Shared} {E' N' : Value → Shared → Prop} {B Z : Shared → Prop} (W : Walks prog w A I fp [I] n Pv St) (Y : Stays h₀ L I T St) (P : Place h₀ L I C D) (hC : C ∉ fp) (hkind : scope.kind = .function) (hx : scope.names.lookup x = some .local)
    (hM : ∀ mc v, Mc mc → Mc fun z => if z = x then some v else mc z) (R : Runs Dr h₀ L m s St T Mc I C D n k s')
    (last : ∀ h dr tk mc ys led, Dr dr → Fr h₀ L h m → h.Ns C mc → h.get? D = some (lst ys) → News h₀ L h led → Off3 I C D led → T n ys led → Mc mc → Z { s with heap := h, drawn := dr, toks := tk })
    (turn : ∀ i ys led v oI oC mc h dr tk, i < n → T i ys led → Pv i v → NsObj oC mc → mc x = some v → Mc mc → Fr h₀ L h m → News h₀ L h (full I C D oI oC ys led) → Off3 I C D led → Dr dr →
      (∀ h' dr' tk' oC' mc' ys' led', NsObj oC' mc' → Mc mc' → Dr dr' → Fr h₀ L h' m → News h₀ L h' (full I C D oI oC' ys' led') → Off3 I C D led' → T (i + 1) ys' led' → ∃ j, j < k ∧ Runs Dr h₀ L m s St T Mc I C D n j { s with heap := h', drawn := dr', toks := tk' }) →
      B { s with heap := h, drawn := dr, toks := tk }) :
    wpAny (model prog w) A (pyNext (.ref I)) (fun r s₁ => match r with
      | none => Z s₁
      | some v => wpAny (model prog w) A (assign (.Name x px) (compEnvC scope cl C env) v) (fun _ s₂ => B s₂) N' s₁) E' s' := by
  obtain ⟨i, h, dr, tk, mc, ys, led, hk, hd, F, ns, eD, N, off, st, hT, hMc⟩ := R
  have ext : ∀ {g : Heap}, (∀ b o, b ∉ [I] → h.get? b = some o → g.get? b = some o) → Heap.ExtBut I h g := fun q b o hb => q b o (by simpa using hb)
  rcases Nat.lt_or_ge i n with lt | ge
  · refine W.item _ _ _ _ lt st fun v h₂ tk₂ pv st₂ q => ?_
    refine wpAny_assign_Name (wpAny_storeName_local (lookup_relabel_local hx) (ns.extBut (ext q) P.ic.symm) (fun h₃ ns₃ sb => ?_) (by simp [compEnvC, relabel, hkind]))
    have to : Heap.ExtBut C h₂ h₃ := sb.extBut
    have st₃ := W.frame _ _ h₃ st₂ fun b hb o e => to b o (fun z => hC (by rw [← z]; exact hb)) e
    obtain ⟨oI, eI⟩ := Y.has _ _ st₃
    obtain ⟨oC, eC, nC⟩ := ns_obj ns₃
    refine turn i ys led v oI oC _ h₃ dr _ lt hT pv nC (by simp) (hM _ _ hMc) (fr_only (fr_only F P.i (ext q)) P.c to)
      (full_mk P eI eC (to _ _ P.cd.symm (ext q _ _ P.id.symm eD)) (nw_only (nw_only N (fun p hp => (off.mem p hp).1) (ext q)) (fun p hp => (off.mem p hp).2.1) to)) off hd ?_
    intro h' dr' tk' oC' mc' ys' led' nC' hM' hd' F' N' off' hT'
    obtain ⟨eI', eC', eD', N''⟩ := full_un N'
    exact ⟨k - 1, by omega, .mk (i + 1) h' dr' tk' mc' ys' led' (by omega) hd' F' (nC'.ns eC') eD' N'' off' (Y.kept _ _ _ _ _ _ st₃ eI eI' F'.keep N'' hT') hT' hM'⟩
  · obtain rfl : i = n := by omega
    refine W.done _ _ _ st fun h₂ tk₂ q => ?_
    exact last h₂ dr tk₂ mc ys led hd (fr_only F P.i (ext q)) (ns.extBut (ext q) P.ic.symm) (ext q _ _ P.id.symm eD) (nw_only N (fun p hp => (off.mem p hp).1) (ext q)) off hT hMc
/-- the end of a turn of a comprehension: the ledger holds the iterator, the frame and the list as they stood -/
def CEnd (Dr : Drawn → Prop) (h₀ : Heap) (L : Addr) (m : Str → Option Value) (s₁ : Shared) (front : List (Addr × Obj)) (I C D : Addr) (T : Value → List (Addr × Obj) → Prop) (y : Value) (s₂ : Shared) : Prop :=
  ∃ h' dr' tk' news', Dr dr' ∧ s₂ = { s₁ with heap := h', drawn := dr', toks := tk' } ∧ Fr h₀ L h' m ∧ News h₀ L h' (front ++ news') ∧ Off3 I C D news' ∧ T y news'
/-- one turn, its tests with it -/
def TestTurn (Dr : Drawn → Prop) (prog : Program) (w : World) (A : Around) (h₀ : Heap) (L : Addr) (m : Str → Option Value) (env : Env) (elt : Expr) (ifs : List Expr) (x : Str) (scope : Scope) (cl : List (Str × Addr)) (s : Shared)
    (Pv : Nat → Value → Prop) (T : Nat → List Value → List (Addr × Obj) → Prop) (n : Nat) (I C D : Addr) : Prop :=
  ∀ i ys led v oI oC mc h dr tk (E' : Value → Shared → Prop), i < n → T i ys led → Pv i v → NsObj oC mc → mc x = some v → Fr h₀ L h m → News h₀ L h (full I C D oI oC ys led) → Off3 I C D led → Dr dr →
    wpAny (model prog w) A (forIn ifs true fun c r => if r = true then do let ok ← isTrue c (compEnvC scope cl C env) (eval c (compEnvC scope cl C env)); pure (ForInStep.yield ok) else pure (ForInStep.yield r)) (fun ok s₃ =>
      if ok = true then wpAny (model prog w) A (eval elt (compEnvC scope cl C env)) (CEnd Dr h₀ L m s (full I C D oI oC ys []) I C D fun y led' => T (i + 1) (ys ++ [y]) led') E' s₃
      else CEnd Dr h₀ L m s (full I C D oI oC ys []) I C D (fun _ led' => T (i + 1) ys led') .none s₃) E' { s with heap := h, drawn := dr, toks := tk }
theorem block {elt iter : Expr} {ifs : List Expr} {pos : Pos} {RR : Value → Addr → Result → Shared → Prop} {led : List (Addr × Obj)} (W : Walks prog w A I fp [I] n Pv St) (Y : Stays h₀ L I T St) (hfp : ∀ b ∈ fp, b < s.heap.objs.size)
    (hlen : ∀ i ys led, i ≤ n → T i ys led → ys.length ≤ sizeLine) (hcell : ∀ y ∈ scope.names, y.2 ≠ .cell) (hkind : scope.kind = .function) (hx : scope.names.lookup x = some .local)
    (F : Fr h₀ L s.heap m) (N : News h₀ L s.heap led) (nI : I ≠ L ∧ h₀.get? I = none) (offI : ∀ p ∈ led, p.1 ≠ I) (st : St 0 s.heap) (h0 : T 0 [] led) (hd : Dr s.drawn)
    (turn : ∀ C D, Place h₀ L I C D → TestTurn Dr prog w A h₀ L m env elt ifs x scope cl s Pv T n I C D)
    (last : ∀ C D h dr tk mc ys led, s.heap.objs.size ≤ D → Place h₀ L I C D → Dr dr → Fr h₀ L h m → h.Ns C mc → h.get? D = some (lst ys) → News h₀ L h led → Off3 I C D led → T n ys led → RR (.ref D) C (.ok .next) { s with heap := h, drawn := dr, toks := tk }) :
    CompAt prog w A E env scope cl (.ListComp elt [⟨.Name x px, iter, ifs, 0⟩] scope pos) RR (.ref I) s := by
  obtain ⟨oI, eI⟩ := Y.has _ _ st
  refine CompAt.mk hcell hkind F N eI nI offI fun C D h mc tk hC hD P off up ns eD => ?_
  have st' : St 0 h := W.frame _ _ _ st fun b _ o e => up b o e
  have go : codeAny (model prog w) A (.compLoop (.ListComp elt [⟨.Name x px, iter, ifs, 0⟩] scope pos) 0 (.ref I) (.ref D) (compEnvC scope cl C env)) (RR (.ref D) C) { s with heap := h, toks := tk } := by
    refine codeAny_compLoop_tests (fun k s' => Runs Dr h₀ L m s St T (fun _ => True) I C D n k s') (fun k s' H => ?_) n (.mk 0 h s.drawn tk mc [] led (Nat.zero_add n) hd (F.keeps up) ns eD (N.grown up) off st' h0 trivial)
    refine H.turn W Y P (fun hm => Nat.lt_irrefl _ (Nat.lt_of_lt_of_le (hfp _ hm) hC)) hkind hx (fun _ _ _ => trivial) (fun h dr tk mc ys led a b c d e f g _ => last C D h dr tk mc ys led hD P a b c d e f g) ?_
    intro i ys led v oI oC mc h dr tk hi hT pv nC ex _ F N off hd again
    refine wpAny_mono (turn C D P i ys led v oI oC mc h dr tk _ hi hT pv nC ex F N off hd) (fun ok s₄ h₄ => ?_) fun _ _ e => e
    cases ok with
    | false =>
      rw [if_neg Bool.false_ne_true] at h₄ ⊢
      obtain ⟨h', dr', tk', led', hd', rfl, F', N', off', hT'⟩ := h₄
      exact again h' dr' tk' oC mc ys led' nC trivial hd' F' N' off' hT'
    | true =>
      rw [if_pos rfl] at h₄ ⊢
      refine wpAny_mono h₄ (fun y s₅ h₅ => ?_) fun _ _ e => e
      obtain ⟨h', dr', tk', led', hd', rfl, F', N', off', hT'⟩ := h₅
      refine append_at (full_un (led := led') N').2.2.1 (fun g sb e => ?_) (by rw [List.size_toArray]; exact hlen _ _ _ (Nat.le_of_lt hi) hT)
      exact again g dr' tk' oC mc _ led' nC trivial hd' (F'.change sb P.d.1 P.d.2) (full_app P off' N' sb.extBut (e.trans (congrArg some (lst_snoc ys y)))) off' hT'
  exact codeAny_compStart_list go (W.self 0 _ _ _ st' go)
/-- the end of a comprehension: its frame is let go -/
theorem ends_eval {Q : Value → Shared → Prop} {h : Heap} {dr : Drawn} {tk : Nat} {mc : Str → Option Value} {ys : List Value} {led : List (Addr × Obj)} (P : Place h₀ L I C D) (F : Fr h₀ L h m) (ns : h.Ns C mc) (eD : h.get? D = some (lst ys)) (N : News h₀ L h led) (off : Off3 I C D led)
    (fin : ∀ h', Fr h₀ L h' m → News h₀ L h' ((D, lst ys) :: led) → Off1 D led → Q (.ref D) { s with heap := h', drawn := dr, toks := tk }) : compPost (model prog w) A E none Q (.ref D) C (.ok .next) { s with heap := h, drawn := dr, toks := tk } :=
  ⟨mc, ns, fun h' sb => fin h' (fr_only F P.c sb.extBut) (nw_only (List.forall_mem_cons.mpr ⟨⟨eD, P.d⟩, N⟩) (List.forall_mem_cons.mpr ⟨P.cd.symm, fun p hp => (off.mem p hp).2.1⟩) sb.extBut) off.one⟩
/-- .. and what it made is given a name -/
theorem ends_named {Q : Value → Shared → Prop} {h : Heap} {dr : Drawn} {tk : Nat} {mc : Str → Option Value} {ys : List Value} {led : List (Addr × Obj)} {y : Str} {py : Pos} (hy : env.kindOf y = some .local) (hp : (env.scope.kind == .class || (env.scope.kind == .module && env.locals != env.globals)) = false)
    (P : Place h₀ env.locals I C D) (F : Fr h₀ env.locals h m) (ns : h.Ns C mc) (eD : h.get? D = some (lst ys)) (N : News h₀ env.locals h led) (off : Off3 I C D led)
    (fin : ∀ h' tk', Fr h₀ env.locals h' (fun z => if z = y then some (.ref D) else m z) → News h₀ env.locals h' ((D, lst ys) :: led) → Off1 D led → Q .none { s with heap := h', drawn := dr, toks := tk' }) :
    compPost (model prog w) A E (some (assign (.Name y py) env)) Q (.ref D) C (.ok .next) { s with heap := h, drawn := dr, toks := tk } :=
  wpAny_assign_Name (wpAny_storeName_local hy F.ns (fun g ns' sb => by
    have N₁ : News h₀ env.locals g ((D, lst ys) :: led) := nw_only (List.forall_mem_cons.mpr ⟨⟨eD, P.d⟩, N⟩) (List.forall_mem_cons.mpr ⟨P.d.1, fun p hp => (N p hp).2.1⟩) sb.extBut
    exact ⟨mc, ns.sameBut sb P.c.1, fun g' sb' => fin g' _ (fr_only (F.set ns' sb) P.c sb'.extBut) (nw_only N₁ (List.forall_mem_cons.mpr ⟨P.cd.symm, fun p hp => (off.mem p hp).2.1⟩) sb'.extBut) off.one⟩) hp)
end
section
variable {prog : Program} {w : World} {A : Around} {E : Value → Shared → Prop} {s : Shared} {h₀ : Heap} {L : Addr} {m : Str → Option Value} {env : Env}
/-- one turn -/
def CTurn (Dr : Drawn → Prop) (prog : Program) (w : World) (A : Around) (h₀ : Heap) (L : Addr) (m : Str → Option Value) (env : Env) (elt : Expr) (x : Str) (scope : Scope) (cl : List (Str × Addr)) (s : Shared)
    (P : Nat → Value → Prop) (T : Nat → List Value → List (Addr × Obj) → Prop) (n : Nat) : Prop :=
  ∀ i ys news v I oI C oC D m₂ h dr tk (E' : Value → Shared → Prop), i < n → ys.length = i → T i ys news → P i v → NsObj oC m₂ → m₂ x = some v → Fr h₀ L h m → News h₀ L h ((I, oI) :: (C, oC) :: (D, lst ys) :: news) → Off3 I C D news →
    ((@Ne Nat I C) ∧ (@Ne Nat I D) ∧ (@Ne Nat C D)) → Dr dr →
      wpAny (model prog w) A (eval elt (compEnvC scope cl C env)) (CEnd Dr h₀ L m s [(I, oI), (C, oC), (D, lst ys)] I C D (fun y news' => T (i + 1) (ys ++ [y]) news')) E' { s with heap := h, drawn := dr, toks := tk }
theorem CTurn.test {Dr : Drawn → Prop} {elt : Expr} {x : Str} {scope : Scope} {cl : List (Str × Addr)} {Pv : Nat → Value → Prop} {T : Nat → List Value → List (Addr × Obj) → Prop} {n : Nat} {I C D : Addr} (t : CTurn Dr prog w A h₀ L m env elt x scope cl s Pv T n) (P : Place h₀ L I C D) :
    TestTurn Dr prog w A h₀ L m env elt [] x scope cl s Pv (fun i ys led => ys.length = i ∧ T i ys led) n I C D :=
  fun i ys led v oI oC mc h dr tk E' hi hT pv nC ex F N off hd => wpAny_tests_nil <| by
    rw [if_pos rfl]
    refine wpAny_mono (t i ys led v I oI C oC D mc h dr tk E' hi hT.1 hT.2 pv nC ex F N off ⟨P.ic, P.id, P.cd⟩ hd) (fun y s' h' => ?_) fun _ _ e => e
    obtain ⟨h', dr', tk', led', hd', rfl, F', N', off', hT'⟩ := h'
    exact ⟨h', dr', tk', led', hd', rfl, F', N', off', by rw [List.length_append, hT.1]; rfl, hT'⟩
/-- what is wanted behind a comprehension -/
def CFin (Dr : Drawn → Prop) (h₀ : Heap) (L : Addr) (m : Str → Option Value) (s₁ : Shared) (T : Nat → List Value → List (Addr × Obj) → Prop) (n : Nat) (Q : Value → Shared → Prop) : Prop :=
  ∀ ys news', ys.length = n → T n ys news' → ∀ D h dr tk, Dr dr → Fr h₀ L h m → News h₀ L h ((D, lst ys) :: news') → Off1 D news' → Q (.ref D) { s₁ with heap := h, drawn := dr, toks := tk }
/-- what stands behind the source of a comprehension -/
def CIterOf (prog : Program) (w : World) (A : Around) (E : Value → Shared → Prop) (env : Env) (scope : Scope) (cl : List (Str × Addr)) (e : Expr) (RR : Value → Addr → Result → Shared → Prop) (xv : Value) (s : Shared) : Prop :=
  wpAny (model prog w) A (pyIter xv) (CompAt prog w A E env scope cl e RR) E s
def CIter (prog : Program) (w : World) (A : Around) (E : Value → Shared → Prop) (env : Env) (elt iter : Expr) (x : Str) (px : Pos) (scope : Scope) (cl : List (Str × Addr)) (pos : Pos) (Q : Value → Shared → Prop) : Value → Shared → Prop :=
  CIterOf prog w A E env scope cl (.ListComp elt [⟨.Name x px, iter, [], 0⟩] scope pos) (compPost (model prog w) A E none Q)
theorem comp_eval {elt tgt iter : Expr} {ifs : List Expr} {gs : List Comprehension} {scope : Scope} {cl : List (Str × Addr)} {pos : Pos} {Q : Value → Shared → Prop} (hclos : closureFor scope env = pure cl) (hkind : scope.kind = .function)
    (hnames : ∀ y ∈ scope.names, y.2 = .local → scope.names.lookup y.1 = some .local) (h : wpAny (model prog w) A (eval iter env) (CIterOf prog w A E env scope cl (.ListComp elt (⟨tgt, iter, ifs, 0⟩ :: gs) scope pos) (compPost (model prog w) A E none Q)) E s)
    (hs : ∀ x, foldedSetIterable iter env x = pure x) : wpAny (model prog w) A (eval (.ListComp elt (⟨tgt, iter, ifs, 0⟩ :: gs) scope pos) env) Q E s := by
  rw [eval_ListComp]; exact wpAny_comprehension_free (use := none) rfl hs hclos hkind hnames h
theorem ListComp_mine {elt iter : Expr} {x : Str} {px : Pos} {scope : Scope} {cl : List (Str × Addr)} {pos : Pos} {Q : Value → Shared → Prop} (hclos : closureFor scope env = pure cl) (hkind : scope.kind = .function)
    (hnames : ∀ y ∈ scope.names, y.2 = .local → scope.names.lookup y.1 = some .local) (h : wpAny (model prog w) A (eval iter env) (CIter prog w A E env elt iter x px scope cl pos Q) E s)
    (hs : ∀ x, foldedSetIterable iter env x = pure x := by intro _; rfl) : wpAny (model prog w) A (eval (.ListComp elt [⟨.Name x px, iter, [], 0⟩] scope pos) env) Q E s :=
  comp_eval hclos hkind hnames h hs
section
variable {elt iter : Expr} {x : Str} {px : Pos} {scope : Scope} {cl : List (Str × Addr)} {pos : Pos} {Q : Value → Shared → Prop} {s₁ : Shared} {Dr : Drawn → Prop} {T : Nat → List Value → List (Addr × Obj) → Prop} {news : List (Addr × Obj)}
/-- an iterator newly made at the heap's end -/
theorem block_new {RR : Value → Addr → Result → Shared → Prop} {oI : Obj} {fp : List Addr} {n : Nat} {Pv : Nat → Value → Prop} {St : Nat → Heap → Prop} (W : Walks prog w A s₁.heap.objs.size fp [s₁.heap.objs.size] n Pv St) (Y : Stays h₀ L s₁.heap.objs.size (fun i ys led => ys.length = i ∧ T i ys led) St)
    (hfp : ∀ b ∈ fp, b ≤ s₁.heap.objs.size) (hsz : n ≤ sizeLine) (hcell : ∀ y ∈ scope.names, y.2 ≠ .cell) (hkind : scope.kind = .function) (hx : scope.names.lookup x = some .local) (F : Fr h₀ L s₁.heap m) (N : News h₀ L s₁.heap news) (st : St 0 (s₁.heap.push oI)) (h0 : T 0 [] news) (hd : Dr s₁.drawn)
    (turn : CTurn Dr prog w A h₀ L m env elt x scope cl s₁ Pv T n)
    (last : ∀ I C D h dr tk mc ys led, Place h₀ L I C D → Dr dr → Fr h₀ L h m → h.Ns C mc → h.get? D = some (lst ys) → News h₀ L h led → Off3 I C D led → ys.length = n → T n ys led → RR (.ref D) C (.ok .next) { s₁ with heap := h, drawn := dr, toks := tk }) :
    CompAt prog w A E env scope cl (.ListComp elt [⟨.Name x px, iter, [], 0⟩] scope pos) RR (.ref s₁.heap.objs.size) { s₁ with heap := s₁.heap.push oI } :=
  have up : ∀ b o, s₁.heap.get? b = some o → (s₁.heap.push oI).get? b = some o := fun _ _ e => Heap.get?_push_of_some _ e
  block (s := { s₁ with heap := s₁.heap.push oI }) W Y (fun b hb => by show b < (s₁.heap.push oI).objs.size; rw [Heap.size_push]; exact Nat.lt_succ_of_le (hfp b hb)) (fun i ys led hi hT => Nat.le_trans (hT.1 ▸ hi) hsz) hcell hkind hx
    (F.keeps up) (N.grown up) ⟨Nat.ne_of_gt F.ns.lt, next_is_new F⟩ (fun p hp => Nat.ne_of_lt (Heap.lt_size (N p hp).1)) st ⟨rfl, h0⟩ hd (fun C D P => CTurn.test turn P) (fun C D h dr tk mc ys led _ P a b c d e f g => last _ C D h dr tk mc ys led P a b c d e f g.1 g.2)
theorem CIter.list {ax : Addr} {its : Array Value} (hcell : ∀ y ∈ scope.names, y.2 ≠ .cell) (hkind : scope.kind = .function) (hx : scope.names.lookup x = some .local) (hh : A.handled = none) (F : Fr h₀ L s₁.heap m) (N : News h₀ L s₁.heap news) (hsz : its.size ≤ sizeLine)
    (hsrc : ∀ i ys nw, T i ys nw → SrcAt h₀ ax its nw) (h0 : T 0 [] news) (hDr : Dr s₁.drawn) (turn : CTurn Dr prog w A h₀ L m env elt x scope cl s₁ (fun i v => its[i]? = some v) T its.size) (fin : CFin Dr h₀ L m s₁ T its.size Q) :
    CIter prog w A E env elt iter x px scope cl pos Q (.ref ax) s₁ := by
  have hl := (hsrc _ _ _ h0).list F.keep N
  have lt : ax < s₁.heap.objs.size := hl.elim fun _ z => Heap.lt_size z.1
  exact wpAny_pyIter_list hl (block_new (T := T) (Walks.list hh _ ax (Nat.ne_of_lt lt) its) ⟨fun i h st => st.1.imp fun _ z => z.1, fun i h h' o ys led st e e' k N t => list_st i h h' o led st e e' k N (hsrc _ _ _ t.2)⟩
    (fun b hb => by simp only [List.mem_cons, List.not_mem_nil, or_false] at hb; exact hb.elim Nat.le_of_eq fun q => q ▸ Nat.le_of_lt lt) hsz hcell hkind hx F N ⟨⟨_, Heap.get?_push_size _ rfl, rfl, rfl⟩, hl.push _⟩ h0 hDr turn
    fun _ _ D _ dr tk _ ys led P hd F ns eD N off hl hT => ends_eval P F ns eD N off fun h' F' N' o1 => fin ys led hl hT D h' dr tk hd F' N' o1)
theorem CIter.str {y : Str} {t : Tok} (hcell : ∀ y ∈ scope.names, y.2 ≠ .cell) (hkind : scope.kind = .function) (hx : scope.names.lookup x = some .local) (hh : A.handled = none) (F : Fr h₀ L s₁.heap m) (N : News h₀ L s₁.heap news) (hsz : y.cps.size ≤ sizeLine)
    (h0 : T 0 [] news) (hDr : Dr s₁.drawn) (turn : CTurn Dr prog w A h₀ L m env elt x scope cl s₁ (SignAt y) T y.cps.size) (fin : CFin Dr h₀ L m s₁ T y.cps.size Q) :
    CIter prog w A E env elt iter x px scope cl pos Q (.str y t) s₁ := by
  have Y : ∀ k : String, Stays h₀ L s₁.heap.objs.size (fun i ys led => ys.length = i ∧ T i ys led) (fun i h => h.IsStrIter s₁.heap.objs.size k y t i) := fun k =>
    ⟨fun i h st => st.imp fun _ z => z.1, fun i h h' o ys led st e e' _ _ _ => st.elim fun o' z => ⟨o, e', Option.some.inj (z.1.symm.trans e) ▸ z.2⟩⟩
  have le : ∀ b ∈ [s₁.heap.objs.size], b ≤ s₁.heap.objs.size := fun b hb => Nat.le_of_eq (List.mem_singleton.mp hb)
  have last : ∀ (I C D : Addr) (h : Heap) (dr : Drawn) (tk : Nat) (mc : Str → Option Value) (ys : List Value) (led : List (Addr × Obj)), Place h₀ L I C D → Dr dr → Fr h₀ L h m → h.Ns C mc → h.get? D = some (lst ys) → News h₀ L h led → Off3 I C D led → ys.length = y.cps.size → T y.cps.size ys led →
      compPost (model prog w) A E none Q (.ref D) C (.ok .next) { s₁ with heap := h, drawn := dr, toks := tk } := fun _ _ D _ dr tk _ ys led P hd F ns eD N off hl hT => ends_eval P F ns eD N off fun h' F' N' o1 => fin ys led hl hT D h' dr tk hd F' N' o1
  cases ha : y.cps.all (· < 128)
  · exact wpAny_pyIter_wide ha (block_new (T := T) (Walks.strWide hh _ y t) (Y _) le hsz hcell hkind hx F N ⟨_, Heap.get?_push_size _ rfl, rfl, rfl⟩ h0 hDr turn last)
  · exact wpAny_pyIter_ascii ha (block_new (T := T) (Walks.strAscii hh _ y t) (Y _) le hsz hcell hkind hx F N ⟨_, Heap.get?_push_size _ rfl, rfl, rfl⟩ h0 hDr turn last)
end
end
end Mine
end
section
open PySem PySem.W PyProof.Rows PySem.Spec PySem.Calls
namespace Mine
def numT (l : Int) : Str := Str.ofString (toString l)
def joinU : List Nat → List Nat
  | [] => []
  | c :: r => c :: 95 :: joinU r
def wordT (l s : Int) : Str := if s = 1 then Str.ofString "\"" ++ numT l ++ Str.ofString " \"" else if s = 2 then ⟨(joinU (numT l).cps.toList).toArray⟩ else numT l
def sepT (k : Nat) : Str := if k % 3 = 0 then Str.ofString " " else if k % 3 = 1 then Str.ofString "\n" else Str.ofString "\t"
def textF (ls ss : List Int) : Nat → Str
  | 0 => Str.ofString ""
  | k + 1 => textF ls ss k ++ wordT (ls.getD k 0) (ss.getD k 0) ++ sepT k
theorem num_len : ∀ n : Nat, n < 17 → (numT (n : Int)).length ≤ 2 := by decide +kernel
theorem word_len1 : ∀ n : Nat, n < 17 → (Str.ofString "\"" ++ numT (n : Int) ++ Str.ofString " \"").length ≤ 5 := by decide +kernel
theorem word_len2 : ∀ n : Nat, n < 17 → (⟨(joinU (numT (n : Int)).cps.toList).toArray⟩ : Str).length ≤ 5 := by decide +kernel
theorem word_len {l : Int} (h : 0 ≤ l ∧ l ≤ 16) (s : Int) : (wordT l s).length ≤ 5 := by
  obtain ⟨n, rfl⟩ := Int.eq_ofNat_of_zero_le h.1
  have hn : n < 17 := by omega
  unfold wordT
  split
  · exact word_len1 n hn
  · split
    · exact word_len2 n hn
    · exact Nat.le_trans (num_len n hn) (by decide)
theorem sep_is : ∀ k : Nat, k < 10 → Txt.item (Str.ofString " \n\t") ((0 + (k : Int)).fmod 3) = sepT k := by decide +kernel
theorem sep_len (k : Nat) : (sepT k).length = 1 := by unfold sepT; split <;> (try split) <;> rfl
theorem text_len {ls ss : List Int} {k : Nat} (h : 0 ≤ ls.getD k 0 ∧ ls.getD k 0 ≤ 16) (hl : (textF ls ss k).length ≤ 6 * k) : (textF ls ss (k + 1)).length ≤ 6 * (k + 1) := by
  have := word_len h (ss.getD k 0)
  have := sep_len k
  unfold textF
  rw [Str.length_append, Str.length_append]
  omega
theorem join_U (l : List Nat) : Txt.join (Str.ofString "") (l.map fun c => (⟨#[c, 95]⟩ : Str)) = ⟨(joinU l).toArray⟩ := by
  rw [show Txt.join (Str.ofString "") (l.map fun c => (⟨#[c, 95]⟩ : Str)) = Str.join ⟨#[]⟩ (l.map fun c => (⟨#[c, 95]⟩ : Str)) from StrLaws.glued_eq_join _ _]
  induction l with
  | nil => rfl
  | cons c r ih =>
    rw [List.map_cons, join_nil_cons, ih]
    apply Str.ext'
    rw [Str.cps_append]
    show #[c, 95] ++ (joinU r).toArray = (c :: 95 :: joinU r).toArray
    simp
theorem tx1 {ls ss : List Int} {k : Nat} (h : ss.getD k 0 = 1) : textF ls ss (k + 1) = textF ls ss k ++ (Str.ofString "\"" ++ Str.ofString (toString (ls.getD k 0)) ++ Str.ofString " \"") ++ sepT k := by
  show textF ls ss k ++ wordT (ls.getD k 0) (ss.getD k 0) ++ sepT k = _
  unfold wordT
  rw [if_pos h]; rfl
theorem tx2 {ls ss : List Int} {k : Nat} (h : ss.getD k 0 = 2) : textF ls ss (k + 1) = textF ls ss k ++ ⟨(joinU (numT (ls.getD k 0)).cps.toList).toArray⟩ ++ sepT k := by
  show textF ls ss k ++ wordT (ls.getD k 0) (ss.getD k 0) ++ sepT k = _
  unfold wordT
  rw [if_neg (by omega), if_pos h]
theorem tx0 {ls ss : List Int} {k : Nat} (h1 : ss.getD k 0 ≠ 1) (h2 : ss.getD k 0 ≠ 2) : textF ls ss (k + 1) = textF ls ss k ++ Str.ofString (toString (ls.getD k 0)) ++ sepT k := by
  show textF ls ss k ++ wordT (ls.getD k 0) (ss.getD k 0) ++ sepT k = _
  unfold wordT
  rw [if_neg h1, if_neg h2]; rfl
theorem join_rule {prog : Program} {w : World} {A : Around} {E : Value → Shared → Prop} {s : Shared} {h₀ : Heap} {L D : Addr} {ys : List Value} {l : List Nat} {news : List (Addr × Obj)} {t : Tok} {Q : Value → Shared → Prop} (N : News h₀ L s.heap ((D, LCg.lst ys) :: news))
    (hS : StrsAre ys (l.map fun c => (⟨#[c, 95]⟩ : Str))) (hn : l.length ≤ 2) (h : ∀ t k, Q (.str ⟨(joinU l).toArray⟩ t) { s with toks := k }) : wpAny (model prog w) A (call (.builtin "str.join") [.str (Str.ofString "") t, .ref D]) Q E s := by
  have hc := hS.carried
  rw [List.map_map] at hc
  refine KT.join_B (g := fun c => (⟨#[c, 95]⟩ : Str)) (l := l) 2 ⟨_, (N _ (.head _)).1, rfl, _, rfl⟩ hc (fun _ _ => Nat.le_refl _) (Nat.le_trans hn (by decide)) (by decide) fun t9 k9 => ?_
  rw [join_U]
  exact h t9 k9
section
local macro_rules | `(tactic| boot_fact) => `(tactic| with_reducible exact boot_str)
inductive TextInv (news : List (Addr × Obj)) (lL lS : Addr) (us1 us2 : List Value) (c1 c2 : Nat) (ls ss : List Int) (k : Nat) (m₁ : Str → Option Value) (news₁ : List (Addr × Obj)) : Prop
  | mk : ∀ t, news₁ = (lS, W.listOf (List.toArray us1) c1) :: (lL, W.listOf (List.toArray us2) c2) :: news → m₁ (Str.ofString "text") = some (.str (textF ls ss k) t) → m₁ (Str.ofString "levels") = some (.ref lL) → m₁ (Str.ofString "styles") = some (.ref lS) → (textF ls ss k).length ≤ 6 * k → TextInv news lL lS us1 us2 c1 c2 ls ss k m₁ news₁
theorem text_ok {w : World} (lL lS : Addr) (us1 us2 : List Value) (ls ss : List Int) (c1 c2 : Nat) (hI1 : IntsAre us1 ss) (hI2 : IntsAre us2 ls) (hn1 : ss.length = 10) (hn2 : ls.length = 10) (hl : ∀ k : Nat, k < 10 → 0 ≤ ls.getD k 0 ∧ ls.getD k 0 ≤ 16) (news : List (Addr × Obj)) (o1 : @LT.lt Nat _ lL lS) (o2 : AllLt lL news) :
    Does w 4 111 [.ref lL, .ref lS] ((lS, W.listOf (List.toArray us1) c1) :: (lL, W.listOf (List.toArray us2) c2) :: news) (fun v news' => ∃ t, v = .str (textF ls ss 10) t ∧ news' = (lS, W.listOf (List.toArray us1) c1) :: (lL, W.listOf (List.toArray us2) c2) :: news) := by
  k_with_none; w_top off
  k_with "call builtin:str.join" => (k_here; (rename StrsAre _ (List.map _ _) => hS9); k_dflt (refine' join_rule ?N hS9 ?hn ?_; (case N => k_asm); (case hn => assumption); k_whole); intro t9 k9)
  k_with "eval ListComp" => (k_here; k_dflt (refine ListComp_mine (by with_unfolding_all rfl) (by rfl) (by decide) ?_))
  k_with "pyIter ref" => ((with_reducible show wpAny _ _ (pyIter (Value.ref _)) (fun it s₂ => LoopAtV _ _ _ _ _ _ _ _ _ it s₂) _ _); (rename IsRange _ _ _ _ _ _ _ _ => rgX); k_dflt (refine' iter_rangeUnr ?k0 rgX ?k1 ?k2 ?k3 ?k4 ?_; (case k0 => rfl); (case k1 => exact small_one (by omega) (by omega) (by omega) (by omega)); (case k2 => exact rangeSize_nat _ _); (case k3 => k_asm); (case k4 => k_asm); k_whole); intro iI l1i; (try k_lt l1i); refine Hold.h ?_)
  unfold Does; k_fill
  intro loose mean mg mb dp un gd cn cs a ccd cl outer A₀ base h₀ L m s Q E B F X N T C1 C2 hk hdp hun hret
  have hu1 := hI1.length
  have hu2 := hI2.length
  k_dflt cell_enter
  k_steps
  refine ⟨?_⟩
  rename_i g' L' h5 FG' B' X' T' h4 F1 N1 h3 tk3 t9 u9 v9 F2 N2 al
  refine range_ind (fun k m₁ news₁ => TextInv news lL lS us1 us2 c1 c2 ls ss k m₁ news₁) ?_ ?_ ?_
  · exact ⟨_, rfl, by rfl, by rfl, by rfl, Nat.le_refl _⟩
  · clear F1 N1 F2 N2 rgX al
    rintro k m₁ news₁ hk10 ⟨t, rfl, f1, f2, f3, hlen⟩ t2 h8 tk8 F8 N8
    have hk9 : k < 10 := by omega
    have hlk := hl k hk9
    have hz : (0 + (k : Int)).toNat = k := by omega
    have hlk1 : 0 ≤ ls.getD (0 + (k : Int)).toNat 0 := by rw [hz]; exact hlk.1
    have hlk2 : ls.getD (0 + (k : Int)).toNat 0 ≤ 16 := by rw [hz]; exact hlk.2
    replace F8 := Fr.seeL F8 [(Str.ofString "k", _), (Str.ofString "text", _), (Str.ofString "levels", _), (Str.ofString "styles", _)] (List.forall_mem_cons.mpr ⟨by rfl, List.forall_mem_cons.mpr ⟨f1, List.forall_mem_cons.mpr ⟨f2, List.forall_mem_cons.mpr ⟨f3, List.forall_mem_nil _⟩⟩⟩⟩)
    dsimp only [kstB] at F8
    k_steps
    · exfalso; omega
    · rename Fr g' _ _ _ => F'; rename News g' _ _ _ => N'
      rename ss.getD (0 + (k : Int)).toNat 0 = 1 => hst
      rw [hz] at hst
      refine UnrEnd.intro F' N' _ (fun _ hp9 => hp9) ?ne0 ⟨?tt0, rfl, ?tx0, by rfl, by rfl, text_len hlk hlen⟩
      case ne0 =>
        refine List.forall_mem_cons.mpr ⟨?_, List.forall_mem_cons.mpr ⟨?_, ?_⟩⟩
        · refine neN ?_; dsimp only; omega
        · refine neN ?_; dsimp only; omega
        · k_all
      case tx0 =>
        refine Eq.trans (b := some (Value.str (textF ls ss k ++ (Str.ofString "\"" ++ Str.ofString (toString (ls.getD (0 + (k : Int)).toNat 0)) ++ Str.ofString " \"") ++ Txt.item (Str.ofString " \n\t") ((0 + (k : Int)).fmod 3)) _)) rfl ?_
        rw [sep_is k hk9, hz, tx1 hst]
    · rename Fr g' _ _ _ => F'; rename News g' _ _ _ => N'
      rename ss.getD (0 + (k : Int)).toNat 0 = 2 => hst
      have hnl : (numT (ls.getD (0 + (k : Int)).toNat 0)).cps.size ≤ 2 := by
        obtain ⟨n, hn⟩ := Int.eq_ofNat_of_zero_le hlk1
        rw [hn]; exact num_len n (by omega)
      refine CIter.str (Dr := fun d => d = s.drawn) (T := fun i ys nw => nw = (iI, itR (0 + ((k + 1 : Nat) : Int)) ((((ls.length : Int) - 0).toNat : Int) - ((k + 1 : Nat) : Int))) :: (lS, W.listOf (List.toArray us1) c1) :: (lL, W.listOf (List.toArray us2) c2) :: news ∧ StrsAre ys (((numT (ls.getD (0 + (k : Int)).toNat 0)).cps.toList.take i).map fun c => (⟨#[c, 95]⟩ : Str))) (by decide) rfl rfl rfl F' N' ?hsz ⟨rfl, .nil⟩ rfl ?turn ?fin
      case hsz => exact Nat.le_trans hnl (by decide)
      case turn =>
        clear F' N'
        rintro i ys nw v I oI C oC D m₂ h dr tk E' hi hlen ⟨rfl, hS⟩ ⟨c, u, hc, rfl⟩ hC hx F' N' off ne rfl
        k_steps
        refine ⟨_, _, _, _, rfl, rfl, F', N', off, rfl, ?_⟩
        have hc' : (numT (ls.getD (0 + (k : Int)).toNat 0)).cps.toList[i]? = some c := by rw [Array.getElem?_toList]; exact hc
        rw [List.take_add_one, hc', List.map_append]
        exact kct_snoc hS
      case fin =>
        clear F' N'
        rintro ys nw hlen9 ⟨rfl, hS⟩ D h dr tk rfl F' N' o1
        have hS' : StrsAre ys ((numT (ls.getD (0 + (k : Int)).toNat 0)).cps.toList.map fun c => (⟨#[c, 95]⟩ : Str)) := by
          have e : (numT (ls.getD (0 + (k : Int)).toNat 0)).cps.toList.take (Str.ofString (toString (ls.getD (0 + (k : Int)).toNat 0))).cps.size = (numT (ls.getD (0 + (k : Int)).toNat 0)).cps.toList := List.take_of_length_le (by rw [Array.length_toList]; exact Nat.le_refl _)
          rw [e] at hS; exact hS
        have hnl' : (numT (ls.getD (0 + (k : Int)).toNat 0)).cps.toList.length ≤ 2 := by rw [Array.length_toList]; exact hnl
        have hwl : (⟨(joinU (numT (ls.getD (0 + (k : Int)).toNat 0)).cps.toList).toArray⟩ : Str).length ≤ 5 := by
          obtain ⟨n, hn⟩ := Int.eq_ofNat_of_zero_le hlk1
          rw [hn]; exact word_len2 n (by omega)
        clear hS
        k_steps
        rename Fr g' _ _ _ => F'; rename News g' _ _ _ => N'
        rw [hz] at hst
        refine UnrEnd.intro F' N' ((lS, W.listOf (List.toArray us1) c1) :: (lL, W.listOf (List.toArray us2) c2) :: news) ?sub ?ne1 ⟨?tt1, rfl, ?tx1, by rfl, by rfl, text_len hlk hlen⟩
        case sub => exact fun z hz9 => .tail _ hz9
        case ne1 =>
          refine List.forall_mem_cons.mpr ⟨?_, List.forall_mem_cons.mpr ⟨?_, ?_⟩⟩
          · refine neN ?_; dsimp only; omega
          · refine neN ?_; dsimp only; omega
          · k_all
        case tx1 =>
          refine Eq.trans (b := some (Value.str (textF ls ss k ++ (⟨(joinU (numT (ls.getD (0 + (k : Int)).toNat 0)).cps.toList).toArray⟩ : Str) ++ Txt.item (Str.ofString " \n\t") ((0 + (k : Int)).fmod 3)) _)) rfl ?_
          rw [sep_is k hk9, hz, tx2 hst]
    · rename Fr g' _ _ _ => F'; rename News g' _ _ _ => N'
      rename ss.getD (0 + (k : Int)).toNat 0 ≠ 1 => hst1
      rename ss.getD (0 + (k : Int)).toNat 0 ≠ 2 => hst2
      rw [hz] at hst1 hst2
      refine UnrEnd.intro F' N' _ (fun _ hp9 => hp9) ?ne2 ⟨?tt2, rfl, ?tx2, by rfl, by rfl, text_len hlk hlen⟩
      case ne2 =>
        refine List.forall_mem_cons.mpr ⟨?_, List.forall_mem_cons.mpr ⟨?_, ?_⟩⟩
        · refine neN ?_; dsimp only; omega
        · refine neN ?_; dsimp only; omega
        · k_all
      case tx2 =>
        refine Eq.trans (b := some (Value.str (textF ls ss k ++ Str.ofString (toString (ls.getD (0 + (k : Int)).toNat 0)) ++ Txt.item (Str.ofString " \n\t") ((0 + (k : Int)).fmod 3)) _)) rfl ?_
        rw [sep_is k hk9, hz, tx0 hst1 hst2]
  · clear F1 N1 F2 N2 rgX al
    rintro m₁ news₁ ⟨t, rfl, f1, f2, f3, hlen⟩ h8 tk8 F8 N8
    have e10 : ((ls.length : Int) - 0).toNat = 10 := by omega
    rw [e10] at f1
    replace F8 := Fr.seeL F8 [(Str.ofString "text", _)] (List.forall_mem_cons.mpr ⟨f1, List.forall_mem_nil _⟩)
    dsimp only [kstB] at F8
    k_steps
    refine hret _ _ _ _ ⟨_, rfl, rfl⟩ (by k_asm) (by k_asm)
end
end Mine
end
section
open PySem PySem.W PyProof.Rows PySem.Spec PySem.Calls
open Builtin
namespace Mine
section
variable {prog : Program} {w : World} {A : Around} {E : Value → Shared → Prop} {s : Shared}
theorem wpAny_choose1 {M : Model} {src : Source} {Q : Nat → Shared → Prop} (h : Q 0 { s with drawn := s.drawn.bump src }) : wpAny M A (choose src 1) Q E s :=
  fun Γ p _ => ⟨by decide, by rw [Nat.mod_one]; exact h⟩
/-- the truth of an object whose class has a length and no __bool__ -/
theorem truthy_len {a : Addr} {T : String} {r : Value} {n : Int} {Q : Bool → Shared → Prop} (hT : s.TypeIs (.ref a) T) (nb : typeLookup (.type T) "__bool__" = pure none) (ln : typeLookup (.type T) "__len__" = pure (some r))
    (body : wpAny (model prog w) A.in1 (Builtin.«len» ⟨[.ref a], []⟩) (fun fin s' => ∃ v, fin = .done (.ret v) ∧ (∃ t, v = .int n t) ∧ Q (n != 0) s') E s) : wpAny (model prog w) A (truthy (.ref a)) Q E s := by
  show wpAny _ _ (callSpecial? (.ref a) (Str.ofString "__bool__") >>= _) _ _ s
  refine wpAny_bind (wpAny_callSpecial?_none hT nb ?_)
  show wpAny _ _ (specialOf (.ref a) (Str.ofString "__len__") >>= _) _ _ s
  refine wpAny_bind (wpAny_specialOf hT ln ?_)
  show wpAny _ _ (runValue (.builtin "len" ⟨[.ref a], []⟩) >>= _) _ _ s
  refine wpAny_bind (wpAny_runValue (codeAny_builtin entry_len ?_))
  rw [Around.under_plainId plain_len]
  refine wpAny_mono body (fun fin s' ⟨v, e, ⟨t, ev⟩, q⟩ => ?_) fun _ _ x => x
  subst e; subst ev; exact wpAny_pure q
theorem truthy_set {a : Addr} {o : Obj} {S : Int → Bool} {n : Nat} {Q : Bool → Shared → Prop} (ho : s.heap.get? a = some o) (hS : o.SetObjOf (intKind prog w) S n) (hn : n ≤ 1)
    (h : ∀ tk, Q (decide (n ≠ 0)) { s with toks := tk }) : wpAny (model prog w) A (truthy (.ref a)) Q E s := by
  obtain ⟨hex, es, ep, t, hd, -, -, rfl, hf⟩ := hS
  refine truthy_len (n := es.size) ⟨o, ho, hex.1⟩ W.noBool_set F.slot_set_len.lookup (wpAny_mono (wpAny_len_body_set (Q := fun r s' => (∃ t, r = .int es.size t) ∧ Q ((es.size : Int) != 0) s') ho hex hd hf (by omega) ⟨⟨_, rfl⟩, ?_⟩) (fun _ _ z => z) fun _ _ e => e)
  have e : ((es.size : Int) != 0) = decide (es.size ≠ 0) := by rcases es.size with _ | k <;> simp; omega
  rw [e]; exact h _
theorem pop_set0 {a : Addr} {o : Obj} {n : Int} {Q : Value → Shared → Prop} (ho : s.heap.get? a = some o) (hS : o.SetObjOf (intKind prog w) (fun k => false || decide (k = n)) 1)
    (h : ∀ t o' h' d', o'.SetObjOf (intKind prog w) (fun _ => false) 0 → h'.get? a = some o' → (∀ b o, b ≠ a → s.heap.get? b = some o → h'.get? b = some o) → Q (.int n t) { s with heap := h', drawn := d' }) :
    wpAny (model prog w) A (call (.builtin "set.pop") [.ref a]) Q E s := by
  obtain ⟨hex, es, ep, t, hd, hel, hmem, hsz, hf⟩ := hS
  have hT : s.TypeIs (.ref a) "set" := ⟨o, ho, hex.1⟩
  obtain ⟨l⟩ := es
  match l, hsz with
  | [(hs, x)], _ =>
  have hx : ∃ t, x = .int n t := by
    obtain ⟨e, he, hk⟩ := (hmem n).mp (by simp)
    have : e = (hs, x) := by simpa using he
    subst this
    exact Value.isInt_shape hk
  obtain ⟨tx, rfl⟩ := hx
  refine wpAny_call_entry F.slot_set_pop hT F.entry_set_pop ?_ (F.args_set_pop_1 _)
  unfold Builtin.«set.pop»
  refine wpAny_bind (m := Frozenset.noArgs "pop" _) (wpAny_pure ?_)
  have hp : t.place.size = 1 := by
    simp only [SetTable.fits, Bool.and_eq_true, beq_iff_eq, decide_eq_true_eq] at hf
    exact hf.1
  have hfill : t.fill ≤ t.mask := by
    simp only [SetTable.fits, Bool.and_eq_true, beq_iff_eq, decide_eq_true_eq] at hf
    exact hf.2
  have hpop : t.popPlace = some 0 := by
    unfold SetTable.popPlace
    have : t.place.isEmpty = false := by simp [Array.isEmpty, hp]
    rw [this]
    simp only [Bool.false_eq_true, if_false]
    congr 1
    split
    · rename_i hlt; rw [hp] at hlt; omega
    · rfl
  have hdrop : (t.popped 0).fits 0 = true := by
    unfold SetTable.popped SetTable.drop
    have hj : t.place[0]? = some (t.place[0]'(by omega)) := by rw [Array.getElem?_eq_getElem]
    rw [hj]
    have e1 : (SetTable.eraseAt t.place 0).size = 0 := by
      unfold SetTable.eraseAt
      rw [Array.size_append, Array.size_extract, Array.size_extract, hp]
      simp
    have e2 : ∀ p x, (SetTable.insertAt t.dummies p x).size = t.dummies.size + 1 := by
      intro p x
      unfold SetTable.insertAt
      rw [Array.size_append, Array.size_push, Array.size_extract, Array.size_extract]
      omega
    unfold SetTable.fill at hfill
    show ((SetTable.eraseAt t.place 0).size == 0 && decide ((SetTable.eraseAt t.place 0).size + (SetTable.insertAt t.dummies (SetTable.below t.dummies (t.place[0]'(by omega))) (t.place[0]'(by omega))).size ≤ t.mask)) = true
    simp only [e1, e2]
    rw [Bool.and_eq_true, decide_eq_true_eq]
    exact ⟨rfl, by omega⟩
  have hend : ∀ d', Q (.int n tx) { s with heap := s.heap.update a (Obj.putSet (SetTable.eraseAt #[(hs, Value.int n tx)] 0) (t.popped 0)), drawn := d' } := by
    intro d'
    have hes : SetTable.eraseAt #[(hs, Value.int n tx)] 0 = (#[] : Array (Int × Value)) := rfl
    have hst := SetOf_store (knd := intKind prog w) ho hex hd (es' := SetTable.eraseAt #[(hs, Value.int n tx)] 0) (t' := t.popped 0) (S' := fun _ => false) (by rw [hes]; intro e he; simp at he) (by rw [hes]; intro k; simp) (by rw [hes]; decide) (by rw [hes]; exact hdrop)
    obtain ⟨o', hg', hS'⟩ := hst.2.objOf
    refine h tx o' _ d' hS' hg' fun b ob hb e => ?_
    exact (Heap.get?_update_ne _ _ _ _ hb).trans e
  have key : wpAny (model prog w) A.in1 (setPop a) (fun r s' => r = some (Value.int n tx) ∧ Q (.int n tx) s') E s := by
    unfold setPop
    refine wpAny_bind (wpAny_setState_of ho hd hf ?_)
    dsimp only
    rw [hpop]
    dsimp only
    unfold setsByText
    refine wpAny_bind (wpAny_bind (wpAny_askSetting (wpAny_pure ?_)))
    split
    · refine wpAny_bind (wpAny_choose1 ?_)
      have hx : (#[(hs, Value.int n tx)] : Array (Int × Value))[0]? = some (hs, Value.int n tx) := rfl
      rw [hx]
      refine wpAny_bind (wpAny_storeSet_of (s := { s with drawn := _ }) ho hd ?_ (show 0 ≤ sizeLine from Nat.zero_le _))
      exact wpAny_pure ⟨rfl, hend _⟩
    · have hm : (!t.led && decide ((List.toArray [(hs, Value.int n tx)]).size > 1)) = false := by
        have : decide ((List.toArray [(hs, Value.int n tx)]).size > 1) = false := rfl
        rw [this, Bool.and_false]
      refine wpAny_bind ?_
      show wpAny _ _ (if (!t.led && decide ((List.toArray [(hs, Value.int n tx)]).size > 1)) = true then unsupported _ else pure ()) _ _ _
      rw [hm]
      simp only [Bool.false_eq_true, if_false]
      refine wpAny_pure (wpAny_bind (wpAny_pure ?_))
      have hx : (#[(hs, Value.int n tx)] : Array (Int × Value))[0]? = some (hs, Value.int n tx) := rfl
      rw [hx]
      refine wpAny_bind (wpAny_storeSet_of ho hd ?_ (show 0 ≤ sizeLine from Nat.zero_le _))
      exact wpAny_pure ⟨rfl, hend _⟩
  refine wpAny_bind (wpAny_mono key (fun r s' hr => ?_) fun _ _ e => e)
  obtain ⟨rfl, hq⟩ := hr
  exact wpAny_pure ⟨_, rfl, hq⟩
variable {h₀ : Heap} {L : Addr} {m : Str → Option Value} {news : List (Addr × Obj)}
theorem pop_set {g : Obj → List (Addr × Obj)} {a : Addr} {o : Obj} {n : Int} {Q : Value → Shared → Prop} (F : Fr h₀ L s.heap m) (N : News h₀ L s.heap news) (U : UpdF a o news g)
    (hS : o.SetObjOf (intKind prog w) (fun k => false || decide (k = n)) (0 + 1))
    (h : ∀ t o' h' d', o'.SetObjOf (intKind prog w) (fun _ => false) 0 → Fr h₀ L h' m → News h₀ L h' (g o') → Q (.int n t) { s with heap := h', drawn := d' }) :
    wpAny (model prog w) A (call (.builtin "set.pop") [.ref a]) Q E s := by
  obtain ⟨own, rest, rfl, hgr, h1, h2⟩ := U.split
  have hm := N (a, _) (List.mem_append_right _ (.head _))
  refine pop_set0 hm.1 hS fun t o' h' d' hS' e1 e3 => h t o' h' d' hS' ⟨F.ns.extBut (fun b o hb e => e3 b o hb e) hm.2.1.symm, fun b o e => e3 b o (fun q => by rw [q, hm.2.2] at e; cases e) (F.keep b o e), F.above⟩ fun p hp' => ?_
  rw [hgr] at hp'
  rcases List.mem_append.mp hp' with hp' | hp'
  · have n := N p (List.mem_append_left _ hp')
    exact ⟨e3 _ _ (h1 p hp') n.1, n.2⟩
  · rcases List.mem_cons.mp hp' with rfl | hp'
    · exact ⟨e1, hm.2⟩
    · have n := N p (List.mem_append_right _ (.tail _ hp'))
      exact ⟨e3 _ _ (h2 p hp') n.1, n.2⟩
end
end Mine
end
section
open PySem PySem.W PyProof.Rows PySem.Spec PySem.Calls
namespace Mine
theorem truthy_setK {prog : Program} {w : World} {A : Around} {E : Value → Shared → Prop} {s : Shared} {h₀ : Heap} {L : Addr} {news : List (Addr × Obj)} {a : Addr} {o : Obj} {S : Int → Bool} {n : Nat} {Q : Bool → Shared → Prop} (N : News h₀ L s.heap news) (hm : (a, o) ∈ news) (hS : o.SetObjOf (intKind prog w) S n) (hn : n ≤ 1)
    (h : ∀ tk, Q (decide (n ≠ 0)) { s with toks := tk }) : wpAny (model prog w) A (truthy (.ref a)) Q E s := truthy_set (N _ hm).1 hS hn h
theorem method_pop {prog : Program} {w : World} {A : Around} {E : Value → Shared → Prop} {s : Shared} {h₀ : Heap} {L : Addr} {news : List (Addr × Obj)} {a : Addr} {o : Obj} {S : Int → Bool} {n : Nat} {pl : Sem Bool} {Q : Value × List Value → Shared → Prop} (N : News h₀ L s.heap news) (hm : (a, o) ∈ news) (hS : o.SetObjOf (intKind prog w) S n) (hn : n < scanBound)
    (h : Q (.builtin "set.pop", [.ref a]) s) : wpAny (model prog w) A (getMethod (.ref a) "pop" pl) Q E s :=
  have hS := hS.setOf (N _ hm).1 hn
  getMethod_builtin hS.typeIs F.plainAttrs_set F.slot_set_pop F.type_set_pop hS.noDict h
theorem news_drop3 {h₀ h : Heap} {L : Addr} {a b c d : Addr × Obj} {news : List (Addr × Obj)} (N : News h₀ L h (a :: b :: c :: d :: news)) : News h₀ L h (a :: news) := fun z hz => N z (by
  rcases List.mem_cons.mp hz with rfl | hz
  · exact .head _
  · exact .tail _ (.tail _ (.tail _ (.tail _ hz))))
/-- a contract of a def that may draw from the world -/
def DoesD (w : World) (d : Nat) (f : Addr) (vs : List Value) (news : List (Addr × Obj)) (POST : Value → List (Addr × Obj) → Prop) : Prop :=
  ∀ (loose : List Str) (mean : ExcName → Option Value) (mg mb : Str → Option Value) (dp un : Nat) (gd : Option (List Code)) (cn : Str) (cs : Scope) (a : Addr) (ccd : Value) (cl : List (Str × Addr)) (outer : List Env) (A₀ : Around) (base h₀ : Heap) (L : Addr) (m : Str → Option Value) (s : Shared) (Q E : Value → Shared → Prop),
    Below A₀ base outer h₀ → Fr h₀ L s.heap m → (hd.heap_1 w.params).In h₀ → News h₀ L s.heap news → Top topProg loose mean mg mb h₀ → CodeHd base 117 113 → CodeHd base 35 31 → cs.kind = .function → dp + d < recursionLimit → un + 10 * d < cLine →
    (∀ (v : Value) (h' : Heap) (dr' : Drawn) (tk' : Nat) (news' : List (Addr × Obj)), POST v news' → Fr h₀ L h' m → News h₀ L h' news' → Q v { s with heap := h', drawn := dr', toks := tk' }) →
    codeAny (model PySem.Challenge.rw_sh0031_01.row.prog w) (ktrTop dp un gd cn cs L a ccd cl outer) (.call (.ref f) ⟨vs, []⟩) (fun r s' => match r with | .ok (.ret v) => Q v s' | .ok _ => False | .error e => E e s') s
section
theorem pow_ok {w : World} (n : Int) (t1 t2 t3 : Tok) (hn : 0 ≤ n ∧ n ≤ 6) (news : List (Addr × Obj)) : DoesD w 3 29 [.int n t1, .int 5 t2, .int 2048 t3] news (fun v news' => ∃ D o, v = .ref D ∧ news' = (D, o) :: news ∧ AllLt D news) := by
  k_with_none; w_top off
  k_with "truthy ref" => (k_here; k_dflt (refine' truthy_setK ?N ?hm ?hS ?hn ?_; (case N => k_asm); (case hm => k_mem); (case hS => assumption); (case hn => decide); k_whole); intro tk'; (try simp only [Nat.zero_add, ne_eq, Nat.one_ne_zero, not_true_eq_false, not_false_eq_true, decide_true, decide_false]))
  k_with "call builtin:set.pop" => (k_here; k_dflt (refine' pop_set ?F ?N ?U ?hS ?_; (case F => k_asm); (case N => k_asm); (case U => k_updF); (case hS => assumption); k_whole); intro t' o' h' d' hs' F' N'; (try dsimp only at N'); (try k_sweep))
  k_with "getMethod ref" => (k_here; (with_reducible show wpAny _ _ (getMethod (Value.ref _) (Str.ofString "pop") _) _ _ _); k_dflt (refine' method_pop ?N ?m ?S ?n ?_; (case N => k_asm); (case m => k_mem); (case S => assumption); (case n => decide)))
  unfold DoesD; k_fill
  intro loose mean mg mb dp un gd cn cs a ccd cl outer A₀ base h₀ L m s Q E B F X N T C1 C2 hk hdp hun hret
  k_dflt (refine' code_def ?k1 ?k2 ?k3 ?k4 ?k5 ?kA ?kF ?kK ?k6 ?k7 ?k8 ?k9 ?kB ?_ ?c2 ?c3 ?c4 ?c5; (case kA => exact rfl); (case kF => exact rfl); (case kK => assumption); (case k1 => k_asm); (case k2 => k_asm); (case k3 => k_asm); (case k4 => k_asm); (case k5 => k_asm); (case k6 => k_is); (case k7 => k_is); (case k8 => ktr_room); (case k9 => exact binds_K (by k_in) rfl (by k_is) rfl rfl rfl); (case c5 => decide); (case kB => exact locs rfl); (case c2 => exact rfl); (case c3 => exact rfl); (case c4 => exact rfl); k_whole; intro g' L' h' FG' F' N' B' X' T'; (try dsimp only); (try k_lift B'); (try k_fold))
  k_steps
  all_goals
    rename News h₀ L _ _ => kN
    refine hret _ _ _ _ _ ⟨_, _, rfl, rfl, ?_⟩ (by assumption) (news_drop3 kN)
    rename _ ∧ _ => l9
    exact l9.2.2.2
end
end Mine
end
section
open PySem PySem.W PyProof.Rows PySem.Spec PySem.Calls
namespace Mine
theorem slice_whole (x : Str) : Txt.slice x (some 0) (some (x.length : Int)) = x := by
  have hs : x.length = x.cps.toList.length := by simp [Str.length]
  have := beq_iff_eq.mp (slice_closes (x := x) (i := 0) (j := (x.length : Int)) (by omega))
  rw [this, show ((x.length : Int) - 0).toNat = x.cps.toList.length by rw [Int.sub_zero, Int.toNat_natCast, hs]]
  show (⟨(List.take x.cps.toList.length x.cps.toList).toArray⟩ : Str) = x
  rw [List.take_length]
theorem all_of_lt {d : Addr} {l : List (Addr × Obj)} (h : AllLt d l) : ∀ p ∈ l, p.1 < d := fun _ hp => AllLt.at h hp
section
theorem DoesD.use {w : World} {d : Nat} {f : Addr} {vs : List Value} {news : List (Addr × Obj)} {POST : Value → List (Addr × Obj) → Prop} (D : DoesD w d f vs news POST)
    {loose : List Str} {mean : ExcName → Option Value} {mg mb : Str → Option Value} {dp un : Nat} {gd : Option (List Code)} {cn : Str} {cs : Scope} {a : Addr} {ccd : Value} {cl : List (Str × Addr)} {outer : List Env} {A₀ : Around} {base h₀ : Heap} {L : Addr} {m : Str → Option Value} {s : Shared} {Q E : Value → Shared → Prop}
    (B : Below A₀ base outer h₀) (F : Fr h₀ L s.heap m) (X : (hd.heap_1 w.params).In h₀) (N : News h₀ L s.heap news) (T : Top topProg loose mean mg mb h₀) (C1 : CodeHd base 117 113) (C2 : CodeHd base 35 31) (hk : cs.kind = .function) (h1 : dp + d < recursionLimit) (h2 : un + 10 * d < cLine)
    (ret : ∀ (v : Value) (h' : Heap) (dr' : Drawn) (tk' : Nat) (news' : List (Addr × Obj)), POST v news' → Fr h₀ L h' m → News h₀ L h' news' → Q v { s with heap := h', drawn := dr', toks := tk' }) :
    wpAny (model PySem.Challenge.rw_sh0031_01.row.prog w) (ktrTop dp un gd cn cs L a ccd cl outer) (call (.ref f) vs) Q E s :=
  wpAny_call (D _ _ _ _ _ _ _ _ _ _ _ _ _ _ _ _ _ _ _ _ _ B F X N T C1 C2 hk h1 h2 ret)
def QN : Str := Str.ofString "_str_to_int_inner.<locals>.inner"
def CodeO (oc : Obj) : Prop := ∃ vs t, oc.data = .fields vs ∧ vs[1]? = some (.str QN t)
def tabS (c : Addr) : Obj := tabObj (#[] ++ #[rawInt (70 : Nat), rawInt (4 : Nat), .ref c])
theorem news_pick8 {h₀ h : Heap} {L : Addr} {a0 a1 a2 a3 a4 a5 a6 a7 : Addr × Obj} {news : List (Addr × Obj)} (N : News h₀ L h (a0 :: a1 :: a2 :: a3 :: a4 :: a5 :: a6 :: a7 :: news)) : News h₀ L h (a2 :: a7 :: news) := fun z hz => N z (by
  simp only [List.mem_cons] at hz ⊢
  rcases hz with h | h | h <;> simp [h])
theorem news_pick6 {h₀ h : Heap} {L : Addr} {a0 a1 a3 a4 a5 a6 : Addr × Obj} {news : List (Addr × Obj)} (N : News h₀ L h (a0 :: a1 :: a3 :: a4 :: a5 :: a6 :: news)) : News h₀ L h news := fun z hz => N z (by
  simp only [List.mem_cons]
  simp [hz])
theorem inner1_ok {w : World} (z : Str) (tz : Tok) (n : Int) (hz : z.length ≤ 4) (hn : PySem.intText? z = some n) (news : List (Addr × Obj)) (hoff : OwnOff news [31]) : DoesD w 6 36 [.str z tz] ((31, tabObj #[]) :: news) (fun v news' => ∃ t c oc, v = .int n t ∧ CodeO oc ∧ news' = (c, oc) :: (31, tabS c) :: news ∧ (@LT.lt Nat _ 31 c) ∧ AllLt c news) := by
  k_with_none; w_top off
  k_with "call ref" => (k_here; (with_reducible show wpAny _ _ (call (Value.ref 29) _) _ _ _); k_dflt (refine' (pow_ok _ _ _ _ ?hn _).use ?k1 ?k2 ?k3 ?k4 ?k5 ?c1 ?c2 ?k6 ?k7 ?k8 ?_; (case hn => constructor <;> omega); (case k1 => k_asm); (case k2 => k_asm); (case k3 => k_asm); (case k4 => k_asm); (case k5 => k_asm); (case c1 => assumption); (case c2 => assumption); (case k6 => first | assumption | rfl); (case k7 => ktr_room); (case k8 => ktr_units); k_whole); (rintro v' h' dr' tk' news' ⟨D', o', e1, e2, l1'⟩ F' N'); (have l1 := all_of_lt l1'); clear l1'; subst e1; subst e2; (try dsimp only); (try k_lt l1); (try k_sweep); (try k_fold))
  have hn' : PySem.intText? (Txt.slice z (some 0) (some (z.length : Int))) = some n := by rw [slice_whole]; exact hn
  unfold DoesD; k_fill
  intro loose mean mg mb dp un gd cn cs a ccd cl outer A₀ base h₀ L m s Q E B F X N T C1 C2 hk hdp hun hret
  k_dflt (refine' code_defC ?k1 ?k2 ?k3 ?k4 ?k5 ?kA ?kF ?kK ?k6 ?k7 ?k8 ?k9 ?kB ?kD ?_ ?c2 ?c3 ?c4; (case kA => exact rfl); (case kF => exact rfl); (case kK => assumption); (case k1 => k_asm); (case k2 => k_asm); (case k3 => k_asm); (case k4 => k_asm); (case k5 => k_asm); (case k6 => k_is); (case k7 => k_is); (case k8 => ktr_room); (case k9 => exact BindsTo.of_eq rfl); (case kB => exact rfl); (case kD => decide +kernel); (case c2 => exact rfl); (case c3 => exact rfl); (case c4 => exact rfl); k_whole; intro g' L' h' tk' cells' FG' F' N' Y' B' X' T' l1; (try k_lt l1); k_cells Y'; (try simp only [List.cons_append, List.nil_append] at N'); (try dsimp only); (try k_lift B'); (try k_fold))
  k_steps
  all_goals
    rename News h₀ _ _ _ => kN9
    refine hret _ _ _ _ _ ?P (by assumption) (news_pick8 kN9)
    rename _ ∧ _ ∧ _ ∧ _ ∧ _ ∧ AllLt _ news => l9
    refine ⟨_, _, _, rfl, ⟨_, _, by assumption, by assumption⟩, rfl, l9.2.2.2.2.1, l9.2.2.2.2.2⟩
theorem inner2_ok {w : World} (z : Str) (tz : Tok) (n : Int) (hz : z.length ≤ 4) (hn : PySem.intText? z = some n) (c : Addr) (oc : Obj) (ho : CodeO oc) (news : List (Addr × Obj)) : DoesD w 6 36 [.str z tz] ((c, oc) :: (31, tabS c) :: news) (fun v news' => ∃ t, v = .int n t ∧ news' = (c, oc) :: (31, tabS c) :: news) := by
  k_with_none
  k_with "call ref" => (k_here; (with_reducible show wpAny _ _ (call (Value.ref 29) _) _ _ _); k_dflt (refine' (pow_ok _ _ _ _ ?hn _).use ?k1 ?k2 ?k3 ?k4 ?k5 ?c1 ?c2 ?k6 ?k7 ?k8 ?_; (case hn => constructor <;> omega); (case k1 => k_asm); (case k2 => k_asm); (case k3 => k_asm); (case k4 => k_asm); (case k5 => k_asm); (case c1 => assumption); (case c2 => assumption); (case k6 => first | assumption | rfl); (case k7 => ktr_room); (case k8 => ktr_units); k_whole); (rintro v' h' dr' tk' news' ⟨D', o', e1, e2, l1'⟩ F' N'); (have l1 := all_of_lt l1'); clear l1'; subst e1; subst e2; (try dsimp only); (try k_lt l1); (try k_sweep); (try k_fold))
  have hn' : PySem.intText? (Txt.slice z (some 0) (some (z.length : Int))) = some n := by rw [slice_whole]; exact hn
  obtain ⟨vs9, t9, hd9, hv9⟩ := ho
  unfold DoesD tabS; k_fill
  intro loose mean mg mb dp un gd cn cs a ccd cl outer A₀ base h₀ L m s Q E B F X N T C1 C2 hk hdp hun hret
  k_dflt (refine' code_defC ?k1 ?k2 ?k3 ?k4 ?k5 ?kA ?kF ?kK ?k6 ?k7 ?k8 ?k9 ?kB ?kD ?_ ?c2 ?c3 ?c4; (case kA => exact rfl); (case kF => exact rfl); (case kK => assumption); (case k1 => k_asm); (case k2 => k_asm); (case k3 => k_asm); (case k4 => k_asm); (case k5 => k_asm); (case k6 => k_is); (case k7 => k_is); (case k8 => ktr_room); (case k9 => exact BindsTo.of_eq rfl); (case kB => exact rfl); (case kD => decide +kernel); (case c2 => exact rfl); (case c3 => exact rfl); (case c4 => exact rfl); k_whole; intro g' L' h' tk' cells' FG' F' N' Y' B' X' T' l1; (try k_lt l1); k_cells Y'; (try simp only [List.cons_append, List.nil_append] at N'); (try dsimp only); (try k_lift B'); (try k_fold))
  k_steps
  all_goals
    rename News h₀ _ _ _ => kN9
    exact hret _ _ _ _ _ ⟨_, rfl, rfl⟩ (by assumption) (news_pick6 kN9)
end
end Mine
end
section
open PySem PySem.W PyProof.Rows PySem.Spec PySem.Calls
namespace Mine
theorem gen1 {α : Type} {M : Model} {A : Around} {t : Sem α} {Q : α → Shared → Prop} {E : Value → Shared → Prop} {h : Heap} {g : Array GenState} {d : Drawn} {k : Nat} {os : OsState} (h1 : 1 ≤ k) (h2 : ∀ tk, 1 ≤ tk → wpAny M A t Q E ⟨h, g, d, tk, os⟩) : wpAny M A t Q E ⟨h, g, d, k, os⟩ := h2 k h1
section
theorem ifs_ok {w : World} (x z : Str) (tx : Tok) (hx : x.length ≤ 6) (hz : Txt.replace (Txt.rstrip x) (Str.ofString "_") (Str.ofString "") = z) (led : List (Addr × Obj)) (POST : Value → List (Addr × Obj) → Prop) (hD : ∀ tz, DoesD w 6 36 [.str z tz] led POST) : DoesD w 8 43 [.str x tx] led POST := by
  k_with_none; w_top off
  k_with "call builtin:str.rstrip" => ((refine wpAny_with_toks (n := 1) ?hk ?_); (case hk => assumption); (refine SCL.rstrip (hsz := ?hsz) ?_); (case hsz => size_fits); intro t9 k9 l9 g9; (dsimp only at g9))
  k_with "call builtin:str.replace" => ((refine SC.replaceW (by show @Ne Nat _ _; omega) (by show @Ne Nat _ _; omega) (by show @Ne Nat _ _; omega) (by rfl) (by omega) (by decide) ?_); intro t9 k9; (rename Txt.replace _ _ _ = _ => hz9); rw [hz9])
  k_with "call ref" => (k_here; (with_reducible show wpAny _ _ (call (Value.ref 36) _) _ _ _); (rename ∀ _, DoesD _ _ _ _ _ _ => hD9); k_dflt (refine' (hD9 _).use ?k1 ?k2 ?k3 ?k4 ?k5 ?c1 ?c2 ?k6 ?k7 ?k8 ?_; (case k1 => k_asm); (case k2 => k_asm); (case k3 => k_asm); (case k4 => k_asm); (case k5 => k_asm); (case c1 => assumption); (case c2 => assumption); (case k6 => first | assumption | rfl); (case k7 => ktr_room); (case k8 => ktr_units); k_whole); (intro v' h' dr' tk' news' hP9 F' N'); (try dsimp only))
  unfold DoesD; k_fill
  intro loose mean mg mb dp un gd cn cs a ccd cl outer A₀ base h₀ L m s Q E B F X N T C1 C2 hk hdp hun hret
  k_dflt cell_enter
  refine gen1 (by simp) fun tk0 htk0 => ?_
  k_steps
  all_goals exact hret _ _ _ _ _ (by assumption) (by assumption) (by assumption)
end
end Mine
end
section
open PySem PySem.W PyProof.Rows PySem.Spec PySem.Calls
namespace Mine
def W10 : List Str := [Str.ofString "rbbbb", Str.ofString "rbbb", Str.ofString "rbb", Str.ofString "rb", Str.ofString "rrbbb", Str.ofString "rrbb", Str.ofString "rrb", Str.ofString "rrrbb", Str.ofString "rrrb", Str.ofString "rrrrb"]
theorem w10_dom : ∀ a ∈ W10, ∀ b ∈ W10, LevDom (Cs a) (Cs b) := by
  unfold LevDom
  decide +kernel
theorem w10_len : ∀ a ∈ W10, a.length ≤ 5 := by decide +kernel
theorem w10_ok : ∀ a ∈ W10, PyData.strOk a = true := by decide +kernel
def nearB (a b : Str) : Bool := levF (Cs a) (Cs b) == 2
/-- the flood: what waits, what is reached, what is left -/
def pieceF : Nat → List Str → List Str → List Str → List Str × List Str
  | 0, _, reached, left => (reached, left)
  | _ + 1, [], reached, left => (reached, left)
  | n + 1, w :: ps, reached, left => pieceF n (ps ++ left.filter (nearB w)) (reached ++ [w]) (left.filter fun x => !nearB w x)
theorem StrsAre.append : ∀ {vs ws : List Value} {ns ms : List Str}, StrsAre vs ns → StrsAre ws ms → StrsAre (vs ++ ws) (ns ++ ms)
  | _, _, _, _, .nil, h => h
  | _, _, _, _, .cons n t r, h => .cons n t (StrsAre.append r h)
theorem StrsAre.length : ∀ {vs : List Value} {ns : List Str}, StrsAre vs ns → vs.length = ns.length
  | _, _, .nil => rfl
  | _, _, .cons n t r => by simp [StrsAre.length r]
/-- a list of texts met at a place -/
theorem StrsAre.mid : ∀ {pre r : List Value} {v : Value} {ns : List Str}, StrsAre (pre ++ v :: r) ns → ∃ a x t b, ns = a ++ x :: b ∧ a.length = pre.length ∧ v = .str x t ∧ StrsAre pre a ∧ StrsAre r b
  | [], _, _, _, .cons x t h => ⟨[], x, t, _, rfl, rfl, rfl, .nil, h⟩
  | _ :: _, _, _, _, .cons x t h => by
    obtain ⟨a, y, u, b, rfl, e, rfl, h1, h2⟩ := StrsAre.mid h
    exact ⟨x :: a, y, u, b, rfl, by simp [e], rfl, .cons x t h1, h2⟩
theorem sk_canLayAll0 : ∀ ns : List Str, (∀ x ∈ ns, PyData.strOk x = true) → PyData.canLayAll0 (ns.map PyData.str) = true
  | [], _ => rfl
  | x :: r, h => by simp [PyData.canLayAll0, PyData.canLay0, sk_canLayAll0 r (fun y hy => h y (.tail _ hy)), h x (.head _)]
theorem sk_depthAll : ∀ ns : List Str, PyData.depthAll (ns.map PyData.str) = 0
  | [] => rfl
  | _ :: r => by simp [PyData.depthAll, PyData.depth, sk_depthAll r]
theorem sk_shaped (ns : List Str) (h : ∀ x ∈ ns, PyData.strOk x = true) : SeqAt.shaped (.list (ns.map PyData.str)) = true := by
  simp [SeqAt.shaped, PyData.canLay0, PyData.depth, sk_canLayAll0 ns h, sk_depthAll]
theorem sk_same_nil (ns : List Str) : PySem.Spec.same (.list (ns.map PyData.str)) (.list (([] : List Str).map PyData.str)) = decide (ns = []) := by
  cases ns <;> simp [PySem.Spec.same, PySem.Spec.sameAll]
section
variable {prog : Program} {w : World} {A : Around} {E : Value → Shared → Prop} {s : Shared} {a b : Addr} {xs : List Value} {ns : List Str} {Q : Value → Shared → Prop}
theorem ne_strs_nil (ha : s.heap.IsList a xs.toArray) (hb : s.heap.IsList b #[]) (hi : StrsAre xs ns) (hok : ∀ x ∈ ns, PyData.strOk x = true) (hu : A.units + 64 < cLine) (h : Q (.bool (!decide (ns = []))) s) :
    wpAny (model prog w) A (compareOp .NotEq (.ref a) (.ref b)) Q E s :=
  ne_dataH_same (reads_newData ha hi.carried) (reads_newData (ys := []) hb (StrsAre.carried .nil)) (sk_shaped _ hok) (sk_shaped _ (by simp)) hu (SeqAt.noMix_of_shape (.list .str) rfl _ _ (list_map_has fun _ => rfl) (list_map_has fun _ => rfl)) (by rw [sk_same_nil]; exact h)
end
section
variable {prog : Program} {w : World} {A : Around} {E : Value → Shared → Prop} {s : Shared} {env : Env} {h₀ : Heap} {x : Str} {body : List Stmt} {Q : Flow → Shared → Prop} {I : Addr} {lp : Addr × Obj} {m : Str → Option Value} {news : List (Addr × Obj)}
theorem list_ind {vs : List Value} (Inv : List Value → List Value → (Str → Option Value) → List (Addr × Obj) → Prop) (h0 : Inv [] vs m news)
    (hs : ∀ pre v r m news, vs = pre ++ v :: r → Inv pre (v :: r) m news → ∀ (it : Obj) h tk, it.cls = .type "list_iterator" → Fr h₀ env.locals h (fun y => if y = x then some v else m y) → News h₀ env.locals h ((I, it) :: news) →
      wpAny (model prog w) A (execs body env) (UnrPost h₀ env.locals { s with heap := h, toks := tk } I it (fun m' news' => Hold (lp ∈ news' ∧ Inv (pre ++ [v]) r m' news')) Q) E { s with heap := h, toks := tk })
    (hz : ∀ m news, Inv vs [] m news → ∀ h tk, Fr h₀ env.locals h m → News h₀ env.locals h news → Q .next { s with heap := h, toks := tk }) :
    ListRest prog w A E h₀ env x body Q s I lp vs m news := by
  have key : ∀ r pre m news, vs = pre ++ r → Inv pre r m news → ListRest prog w A E h₀ env x body Q s I lp r m news := by
    intro r
    induction r with
    | nil =>
      intro pre m news e hi
      rw [List.append_nil] at e
      subst e
      exact ListRest.zero (hz m news hi)
    | cons v r ih =>
      intro pre m news e hi
      refine ListRest.succ fun it h tk hc F N => ?_
      exact wpAny_mono (hs pre v r m news e hi it h tk hc F N) (fun f s₂ hp => UnrPost.mono hp fun m' news' q => ⟨q.h.1, ih (pre ++ [v]) m' news' (by rw [e]; simp) q.h.2⟩) fun _ _ e => e
  exact key vs [] m news rfl h0
end
end Mine
end
section
open PySem PySem.W PyProof.Rows PySem.Spec PySem.Calls
namespace Mine
theorem news_rot {w : World} {V : MV} {line : Int} {tl : Tok} {push : List Value} {pn : Nat} {p : Int} {tp : Tok} {rest : List (Addr × Obj)} {a : Addr × Obj} {h₀ h : Heap} {L : Addr} (N : News h₀ L h (a :: V.led w line tl push pn p tp rest)) : News h₀ L h (V.led w line tl push pn p tp (a :: rest)) := News.pick N (a :: V.led w line tl push pn p tp []) rest [1, 2, 3, 4, 5, 6, 7, 8, 9, 10, 11, 0] rfl rfl
theorem news_unrot {w : World} {V : MV} {line : Int} {tl : Tok} {push : List Value} {pn : Nat} {p : Int} {tp : Tok} {rest : List (Addr × Obj)} {a : Addr × Obj} {h₀ h : Heap} {L : Addr} (N : News h₀ L h (V.led w line tl push pn p tp (a :: rest))) : News h₀ L h (a :: V.led w line tl push pn p tp rest) := News.pick N (V.led w line tl push pn p tp [a]) rest [11, 0, 1, 2, 3, 4, 5, 6, 7, 8, 9, 10] rfl rfl
theorem StrsAre.uncons {us : List Value} {w : Str} {ps : List Str} (h : StrsAre us (w :: ps)) : ∃ t vs, us = .str w t :: vs ∧ StrsAre vs ps := by
  cases h with
  | cons w t h => exact ⟨t, _, rfl, h⟩
theorem StrsAre.unnil {us : List Value} (h : StrsAre us []) : us = [] := by cases h; rfl
theorem ne_cons_nil {prog : Program} {w : World} {A : Around} {E : Value → Shared → Prop} {s : Shared} {h₀ : Heap} {L a b : Addr} {v : Value} {xs : List Value} {ns : List Str} {n n2 : Nat} {news : List (Addr × Obj)} {Q : Value → Shared → Prop} (N : News h₀ L s.heap news) (h1 : (a, W.listOf (v :: xs).toArray n) ∈ news) (h2 : (b, W.listOf #[] n2) ∈ news)
    (hS : StrsAre (v :: xs) ns) (hok : ∀ x ∈ ns, PyData.strOk x = true) (hu : A.units + 64 < cLine) (h : Q (.bool true) s) : wpAny (model prog w) A (compareOp .NotEq (.ref a) (.ref b)) Q E s := by
  refine ne_strs_nil ⟨_, (N _ h1).1, rfl, _, rfl⟩ ⟨_, (N _ h2).1, rfl, _, rfl⟩ hS hok hu ?_
  have hne : ns ≠ [] := by intro e; subst e; cases hS
  rw [decide_eq_false hne]; exact h
theorem news_rot2 {w : World} {V : MV} {line : Int} {tl : Tok} {push : List Value} {pn : Nat} {p : Int} {tp : Tok} {rest : List (Addr × Obj)} {a b : Addr × Obj} {h₀ h : Heap} {L : Addr} (N : News h₀ L h (a :: b :: V.led w line tl push pn p tp rest)) : News h₀ L h (V.led w line tl push pn p tp (a :: b :: rest)) := News.pick N (a :: b :: V.led w line tl push pn p tp []) rest [2, 3, 4, 5, 6, 7, 8, 9, 10, 11, 12, 0, 1] rfl rfl
theorem news_unrot2 {w : World} {V : MV} {line : Int} {tl : Tok} {push : List Value} {pn : Nat} {p : Int} {tp : Tok} {rest : List (Addr × Obj)} {a b : Addr × Obj} {h₀ h : Heap} {L : Addr} (N : News h₀ L h (V.led w line tl push pn p tp (a :: b :: rest))) : News h₀ L h (a :: b :: V.led w line tl push pn p tp rest) := News.pick N (V.led w line tl push pn p tp [a, b]) rest [11, 12, 0, 1, 2, 3, 4, 5, 6, 7, 8, 9, 10] rfl rfl
theorem lt_off {I : Addr} {rest : List (Addr × Obj)} (h : AllLt I rest) : ∀ q ∈ rest, q.1 ≠ I := fun _ hq => Nat.ne_of_lt (AllLt.at h hq)
theorem cons_off {I : Addr} {a : Addr × Obj} {rest : List (Addr × Obj)} (h : @LT.lt Nat _ a.1 I) (hr : ∀ q ∈ rest, q.1 ≠ I) : ∀ q ∈ a :: rest, q.1 ≠ I := fun q hq => by
  rcases List.mem_cons.mp hq with rfl | hq
  · exact Nat.ne_of_lt h
  · exact hr q hq
theorem news_fin {w : World} {V : MV} {line : Int} {tl : Tok} {push : List Value} {pn : Nat} {p : Int} {tp : Tok} {rest : List (Addr × Obj)} {z a b : Addr × Obj} {h₀ h : Heap} {L : Addr} (N : News h₀ L h (z :: V.led w line tl push pn p tp (a :: b :: rest))) : News h₀ L h (V.led w line tl push pn p tp (a :: z :: rest)) := News.pick N (z :: V.led w line tl push pn p tp [a, b]) rest [1, 2, 3, 4, 5, 6, 7, 8, 9, 10, 11, 12, 0] rfl rfl
theorem news_ret {w : World} {V : MV} {line : Int} {tl : Tok} {push : List Value} {pn : Nat} {p : Int} {tp : Tok} {rest : List (Addr × Obj)} {t z a b : Addr × Obj} {h₀ h : Heap} {L : Addr} (N : News h₀ L h (t :: z :: V.led w line tl push pn p tp (a :: b :: rest))) : News h₀ L h (t :: b :: a :: V.led w line tl push pn p tp rest) := News.pick N (t :: z :: V.led w line tl push pn p tp [a, b]) rest [0, 14, 13, 2, 3, 4, 5, 6, 7, 8, 9, 10, 11, 12] rfl rfl
theorem filt_len (p : Str → Bool) : ∀ l : List Str, (l.filter p).length + (l.filter fun x => !p x).length = l.length
  | [] => rfl
  | x :: r => by
    have ih := filt_len p r
    cases h : p x <;> simp [h] <;> omega
theorem pieceF_nil (n : Nat) (reached left : List Str) : pieceF n [] reached left = (reached, left) := by cases n <;> rfl
def toS : Value → Str | .str x _ => x | _ => ⟨#[]⟩
theorem strs_toS : ∀ {us : List Value} {ss : List Str}, StrsAre us ss → us.map toS = ss
  | _, _, .nil => rfl
  | _, _, .cons x t h => by rw [List.map_cons, strs_toS h]; rfl
section
inductive PieceInv (g' : Heap) (L' : Addr) (w : World) (V : MV) (line : Int) (tl : Tok) (p : Nat) (tp : Tok) (rest : List (Addr × Obj)) (s : Shared) (R : Addr) (first : Str) (left : List Str) (n : Nat) (s' : Shared) : Prop
  | mk : ∀ h tk m₁ pn₁ usP us1 n1 aX us2 n2 push reached lft, s' = { s with heap := h, toks := tk } → Fr g' L' h m₁ → m₁ (Str.ofString "machine") = some (.ref V.x) → m₁ (Str.ofString "reached") = some (.ref R) → m₁ (Str.ofString "left") = some (.ref aX) → News g' L' h (V.led w line tl usP pn₁ p tp ((R, W.listOf us1.toArray n1) :: (aX, W.listOf us2.toArray n2) :: rest)) → StrsAre usP push → StrsAre us1 reached → StrsAre us2 lft → (∀ x ∈ push, x ∈ W10) → (∀ x ∈ lft, x ∈ W10) → (@LT.lt Nat _ V.pl aX) → (@Ne Nat aX R) → AllLt aX rest → n = push.length + lft.length → reached.length + n ≤ 21 → pieceF n push reached lft = pieceF (left.length + 1) [first] [] left → PieceInv g' L' w V line tl p tp rest s R first left n s'
inductive RestInv (w : World) (V : MV) (line : Int) (tl : Tok) (p : Nat) (tp : Tok) (rest : List (Addr × Obj)) (Z R aX : Addr) (us1 us2 : List Value) (n1 n2 : Nat) (w9 : Str) (t9 : Tok) (ps : List Str) (pre r : List Value) (m : Str → Option Value) (news : List (Addr × Obj)) : Prop
  | mk : ∀ pnX vsP us3 n3, news = (Z, W.listOf us3.toArray n3) :: V.led w line tl vsP pnX p tp ((R, W.listOf (us1 ++ [Value.str w9 t9]).toArray (n1 + 1)) :: (aX, W.listOf us2.toArray n2) :: rest) → m (Str.ofString "machine") = some (.ref V.x) → m (Str.ofString "word") = some (.str w9 t9) → m (Str.ofString "rest") = some (.ref Z) → m (Str.ofString "reached") = some (.ref R) → StrsAre vsP (ps ++ (pre.map toS).filter (nearB w9)) → StrsAre us3 ((pre.map toS).filter fun x => !nearB w9 x) → RestInv w V line tl p tp rest Z R aX us1 us2 n1 n2 w9 t9 ps pre r m news
inductive PiecePost (w : World) (V : MV) (line : Int) (tl : Tok) (p : Nat) (tp : Tok) (rest : List (Addr × Obj)) (first : Str) (left : List Str) (v : Value) (news' : List (Addr × Obj)) : Prop
  | mk : ∀ T R Lf us1 n1 us2 n2 pn', v = .ref T → news' = (T, { cls := .type "tuple", data := .seq #[.ref R, .ref Lf] }) :: (Lf, W.listOf us2.toArray n2) :: (R, W.listOf us1.toArray n1) :: V.led w line tl [] pn' p tp rest → StrsAre us1 (pieceF (left.length + 1) [first] [] left).1 → StrsAre us2 (pieceF (left.length + 1) [first] [] left).2 → (@LT.lt Nat _ V.pl R) → (@LT.lt Nat _ V.pl Lf) → (@Ne Nat Lf R) → AllLt R rest → AllLt Lf rest → (@LT.lt Nat _ R T) → (@LT.lt Nat _ Lf T) → PiecePost w V line tl p tp rest first left v news'
theorem piece_ok {w : World} (V : MV) (hV : V.Ok) (line : Int) (tl : Tok) (pn p : Nat) (tp : Tok) (first : Str) (tf : Tok) (aL : Addr) (us : List Value) (nL : Nat) (left : List Str) (hS : StrsAre us left) (hf : first ∈ W10) (hl : ∀ x ∈ left, x ∈ W10) (hn : left.length ≤ 20)
    (rest : List (Addr × Obj)) (ho : OwnOff rest V.adr) (oL : @LT.lt Nat _ V.pl aL) (oR : AllLt aL rest) :
    Does w 14 139 [.ref V.x, .str first tf, .ref aL] (V.led w line tl [] pn p tp ((aL, W.listOf us.toArray nL) :: rest)) (fun v news' => PiecePost w V line tl p tp rest first left v news') := by
  k_with_none; w_top off
  k_with "compareOp NotEq ref ref" => (k_here; (rename StrsAre (_ :: _) _ => hS9); (rename ∀ _, _ → PyData.strOk _ = true => hok9); refine' ne_cons_nil ?N ?h1 ?h2 hS9 hok9 ?hu ?_; (case N => k_asm); (case h1 => k_mem); (case h2 => k_mem); (case hu => ktr_units))
  k_with "call ref" => ((first | (with_reducible show wpAny _ _ (call (Value.ref 71) _) _ _ _) | (with_reducible show wpAny _ _ (call (Value.ref 78) _) _ _ _) | (with_reducible show wpAny _ _ (call (Value.ref 99) _) _ _ _)); refine Hold.h ?_)
  k_with "exec For" => (k_here; (rename Fr _ _ _ _ => lF'); (with_unfolding_all refine' For_invVF lF' ?k1 ?k2 ?_; (case k1 => exact rfl); (case k2 => exact rfl); k_whole))
  k_with "pyIter ref" => ((with_reducible show wpAny _ _ (pyIter (Value.ref _)) (fun it s₂ => LoopAtV _ _ _ _ _ _ _ _ _ it s₂) _ _); k_dflt (refine' iter_listUnr ?k0 ?k3 ?k4 ?km ?kc ?kd ?_; (case k0 => rfl); (case k3 => k_asm); (case k4 => k_asm); (case km => k_mem); (case kc => rfl); (case kd => rfl); k_whole); intro I9 l1I; (try k_lt l1I); refine Hold.h ?_)
  k_with "exec While" => (with_unfolding_all refine' While_mine ?_)
  k_with "exec While Compare cons nil" => (with_unfolding_all refine' While_mine ?_)
  unfold Does; k_fill
  intro loose mean mg mb dp un gd cn cs a ccd cl outer A₀ base h₀ L m s Q E B F X N T C1 C2 hk hdp hun hret
  have hV' := hV
  obtain ⟨o1, o2, o3, o4, o5, o6, o7, o8, o9, o10, o11⟩ := hV'
  k_dflt cell_enter
  rename_i g' L' h1 FG' F0 N0 B' X' T'
  k_steps
  refine ⟨?_⟩
  refine' (push_ok V hV line tl [] pn p tp _ (off_cons (a := (aL, W.listOf us.toArray nL)) hV oL ho) first tf (by simp)).use ?k1 ?k2 ?k3 ?k4 ?k5 ?c1 ?c2 ?k6 ?k7 ?k8 ?_
  case k1 => k_asm
  case k2 => k_asm
  case k3 => k_asm
  case k4 => k_asm
  case k5 => k_asm
  case c1 => assumption
  case c2 => assumption
  case k6 => first | assumption | rfl
  case k7 => ktr_room
  case k8 => ktr_units
  clear F0 N0
  rintro v' h2 tk2 news2 ⟨pn2, rfl, rfl⟩ F2 N2
  dsimp only
  k_steps
  rename_i R h4 l1 h5 F' N'
  have lR : @LT.lt Nat _ V.pl R := l1.1
  have lRr : AllLt R rest := by simp only [l1]
  have lne : @Ne Nat aL R := by omega
  clear l1
  refine ⟨fun n s' => PieceInv g' L' w V line tl p tp rest s R first left n s', left.length + 1, ?init, ?turn⟩
  case init =>
    refine ⟨_, _, _, _, [.str first tf], [], _, aL, us, nL, [first], [], left, rfl, F', by rfl, by rfl, by rfl, news_rot N', .cons _ _ .nil, .nil, hS, ?_, hl, oL, lne, oR, ?_, ?_, rfl⟩
    · intro x hx; rw [List.mem_singleton.mp hx]; exact hf
    · simp; omega
    · simp; omega
  case turn =>
    clear F' N'
    rintro n s' ⟨h9, tk9, m9, pn9, usP, us1, n1, aX, us2, n2, push, reached, lft, rfl, F9, f1, f2, f3, N9, hP, hR1, hL1, hPw, hLw, q1, q2, q3, hnn, hr21, hfin⟩
    have hok9 : ∀ x ∈ push, PyData.strOk x = true := fun x hx => w10_ok x (hPw x hx)
    have hlP := StrsAre.length hP
    have hlR := StrsAre.length hR1
    have hlL := StrsAre.length hL1
    replace F9 := Fr.seeL F9 [(Str.ofString "machine", _), (Str.ofString "reached", _), (Str.ofString "left", _)] (List.forall_mem_cons.mpr ⟨f1, List.forall_mem_cons.mpr ⟨f2, List.forall_mem_cons.mpr ⟨f3, List.forall_mem_nil _⟩⟩⟩)
    dsimp only [kstB] at F9
    cases push with
    | nil =>
      obtain rfl := StrsAre.unnil hP
      rw [pieceF_nil] at hfin
      k_steps
      rename News h₀ _ _ _ => kN9
      rename _ ∧ _ => l9
      refine hret _ _ _ _ ⟨_, R, aX, us1, n1, us2, n2, pn9, rfl, rfl, by rw [← hfin]; exact hR1, by rw [← hfin]; exact hL1, lR, q1, q2, lRr, q3, ?_, ?_⟩ (by k_asm) (news_ret kN9)
      · simp only [l9]
      · simp only [l9]
    | cons w9 ps =>
      obtain ⟨t9, vs9, rfl, hP'⟩ := StrsAre.uncons hP
      obtain rfl : n = (ps.length + lft.length) + 1 := by simp only [List.length_cons] at hnn; omega
      have hvl : vs9.length ≤ 100 := by have := StrsAre.length hP'; simp only [List.length_cons] at hnn; omega
      have hul : us1.length ≤ 100 := by omega
      have hu2 : us2.length ≤ 100 := by simp only [List.length_cons] at hnn; omega
      have hoff : OwnOff ((R, W.listOf us1.toArray n1) :: (aX, W.listOf us2.toArray n2) :: rest) V.adr := off_cons hV lR (off_cons hV q1 ho)
      k_steps
      refine ⟨?_⟩
      rename News g' _ _ _ => N9
      refine' (pop_ok V hV line tl w9 t9 vs9 pn9 p tp _ hoff hvl).use ?k1 ?k2 ?k3 (fun z hz => N9 z (.tail _ hz)) ?k5 ?c1 ?c2 ?k6 ?k7 ?k8 ?_
      case k1 => k_asm
      case k2 => k_asm
      case k3 => k_asm
      case k5 => k_asm
      case c1 => assumption
      case c2 => assumption
      case k6 => first | assumption | rfl
      case k7 => ktr_room
      case k8 => ktr_units
      clear N9
      rename _ ∧ _ => l1old; clear l1old
      rintro v' h' tk' news' ⟨pn', rfl, rfl⟩ F' N'
      dsimp only
      k_steps
      refine ⟨?_⟩
      rename_i Z hA l1Z hB lF NZ
      rw [List.push_toArray]
      rw [List.push_toArray] at NZ
      have lZ : @LT.lt Nat _ V.pl Z := l1Z.1
      have lZR : @LT.lt Nat _ R Z := by simp only [l1Z]
      have lZX : @LT.lt Nat _ aX Z := by simp only [l1Z]
      have lZr : AllLt Z rest := by simp only [l1Z]
      have lI : @LT.lt Nat _ V.pl I9 := l1I.2.1
      have lIZ : @LT.lt Nat _ Z I9 := l1I.1
      clear l1Z l1I
      have lIR : @LT.lt Nat _ R I9 := Nat.lt_trans lZR lIZ
      have lIX : @LT.lt Nat _ aX I9 := Nat.lt_trans lZX lIZ
      have lIr : AllLt I9 rest := AllLt.mono (Nat.le_of_lt lIZ) lZr
      have hw9 : w9 ∈ W10 := hPw w9 (.head _)
      have hw9l := w10_len w9 hw9
      refine list_ind (fun pre r m news => RestInv w V line tl p tp rest Z R aX us1 us2 n1 n2 w9 t9 ps pre r m news) ?_ ?_ ?_
      · exact ⟨_, vs9, [], _, rfl, by rfl, by rfl, by rfl, by rfl, by simpa using hP', .nil⟩
      · clear lF NZ
        rintro pre v r m₁ news₁ hpre ⟨pnX, vsP, us3, n3, rfl, g1, g2, g3, g4, hSP, hS3⟩ it h8 tk8 hit F8 N8
        obtain ⟨aa, x, tx, bb, hlft, hla, rfl, hSa, hSb⟩ := StrsAre.mid (hpre ▸ hL1)
        have hx : x ∈ W10 := hLw x (by rw [hlft]; simp)
        have hxl := w10_len x hx
        have hvP : vsP.length ≤ 100 := by
          have e1 := StrsAre.length hSP
          have e2 := StrsAre.length hP'
          have e3 := List.length_filter_le (nearB w9) (pre.map toS)
          have e4 : us2.length = pre.length + (r.length + 1) := by rw [hpre]; simp
          rw [List.length_append] at e1
          rw [List.length_map] at e3
          simp only [List.length_cons] at hnn hlP
          omega
        have hu3 : us3.length ≤ 100 := by
          have e1 := StrsAre.length hS3
          have e3 := List.length_filter_le (fun x => !nearB w9 x) (pre.map toS)
          have e4 : us2.length = pre.length + (r.length + 1) := by rw [hpre]; simp
          rw [List.length_map] at e3
          omega
        replace F8 := Fr.seeL F8 [(Str.ofString "other", _), (Str.ofString "machine", _), (Str.ofString "word", _), (Str.ofString "rest", _), (Str.ofString "reached", _)] (List.forall_mem_cons.mpr ⟨by rfl, List.forall_mem_cons.mpr ⟨g1, List.forall_mem_cons.mpr ⟨g2, List.forall_mem_cons.mpr ⟨g3, List.forall_mem_cons.mpr ⟨g4, List.forall_mem_nil _⟩⟩⟩⟩⟩)
        dsimp only [kstB] at F8
        k_steps
        refine ⟨?_⟩
        refine' (lev_ok w9 x _ _ _ hw9l hxl (w10_dom w9 hw9 x hx) _).use ?k1 ?k2 ?k3 ?k4 ?k5 ?c1 ?c2 ?k6 ?k7 ?k8 ?_
        case k1 => k_asm
        case k2 => k_asm
        case k3 => k_asm
        case k4 => k_asm
        case k5 => k_asm
        case c1 => assumption
        case c2 => assumption
        case k6 => first | assumption | rfl
        case k7 => ktr_room
        case k8 => ktr_units
        clear F8 N8
        rintro v' h' tk' news' ⟨⟨tv, rfl⟩, rfl⟩ F' N'
        have hnear : nearB w9 x = (levF (Cs w9) (Cs x) == 2) := rfl
        generalize levF (Cs w9) (Cs x) = dist at hnear ⊢
        dsimp only
        have hoff' : OwnOff ((R, W.listOf (us1 ++ [Value.str w9 t9]).toArray (n1 + 1)) :: (aX, W.listOf us2.toArray n2) :: rest) V.adr := off_cons hV lR (off_cons hV q1 ho)
        k_steps
        · refine ⟨?_⟩
          rename dist = 2 => hd
          rename News g' _ _ _ => N8
          refine' (push_ok V hV line tl vsP pnX p tp _ (off_cons (a := (I9, it)) hV lI (off_cons (a := (Z, W.listOf us3.toArray n3)) hV lZ hoff')) x tx hvP).use ?k1 ?k2 ?k3 (news_rot2 N8) ?k5 ?c1 ?c2 ?k6 ?k7 ?k8 ?_
          case k1 => k_asm
          case k2 => k_asm
          case k3 => k_asm
          case k5 => k_asm
          case c1 => assumption
          case c2 => assumption
          case k6 => first | assumption | rfl
          case k7 => ktr_room
          case k8 => ktr_units
          clear N8
          rintro v' h' tk' news' ⟨pn3, rfl, rfl⟩ F' N'
          dsimp only
          k_steps
          rename News g' _ _ _ => N9; rename Fr g' _ _ _ => F9
          refine UnrEnd.intro F9 (news_unrot2 N9) _ (fun _ hp9 => hp9) (cons_off lIZ (led_off hV lI (cons_off lIR (cons_off lIX (lt_off lIr))))) ⟨by simp [MV.led], _, _, _, _, rfl, by rfl, by rfl, by rfl, by rfl, ?_, ?_⟩
          · rw [List.map_append, List.filter_append]
            have : nearB w9 x = true := by rw [hnear, hd]; rfl
            simp only [List.map_cons, List.map_nil, toS, List.filter_cons, this, if_true, List.filter_nil, ← List.append_assoc]
            exact kct_snoc hSP
          · rw [List.map_append, List.filter_append]
            have : nearB w9 x = true := by rw [hnear, hd]; rfl
            simpa [toS, this] using hS3
        · rename dist ≠ 2 => hd
          rename News g' _ _ _ => N9; rename Fr g' _ _ _ => F9
          rw [List.push_toArray] at N9
          refine UnrEnd.intro F9 N9 _ (fun _ hp9 => hp9) (cons_off lIZ (led_off hV lI (cons_off lIR (cons_off lIX (lt_off lIr))))) ⟨by simp [MV.led], _, _, _, _, rfl, by rfl, by rfl, by rfl, by rfl, ?_, ?_⟩
          · rw [List.map_append, List.filter_append]
            have : nearB w9 x = false := by rw [hnear]; simpa using hd
            simpa [toS, this] using hSP
          · rw [List.map_append, List.filter_append]
            have : nearB w9 x = false := by rw [hnear]; simpa using hd
            simp only [List.map_cons, List.map_nil, toS, List.filter_cons, this, Bool.not_false, if_true, List.filter_nil]
            exact kct_snoc hS3
      · clear lF NZ
        rintro m₁ news₁ ⟨pnX, vsP, us3, n3, rfl, g1, g2, g3, g4, hSP, hS3⟩ h8 tk8 F8 N8
        replace F8 := Fr.seeL F8 [(Str.ofString "machine", _), (Str.ofString "rest", _), (Str.ofString "reached", _)] (List.forall_mem_cons.mpr ⟨g1, List.forall_mem_cons.mpr ⟨g3, List.forall_mem_cons.mpr ⟨g4, List.forall_mem_nil _⟩⟩⟩)
        dsimp only [kstB] at F8
        rw [strs_toS hL1] at hSP hS3
        have hfl := filt_len (nearB w9) lft
        k_steps
        rename News g' _ _ _ => N9; rename Fr g' _ _ _ => F9
        dsimp only [TurnEnd]
        refine ⟨ps.length + lft.length, by omega, _, _, _, _, vsP, us1 ++ [Value.str w9 t9], _, Z, us3, _, ps ++ lft.filter (nearB w9), reached ++ [w9], lft.filter (fun x => !nearB w9 x), rfl, F9, by rfl, by rfl, by rfl, news_fin N9, hSP, kct_snoc hR1, hS3, ?_, ?_, lZ, ?_, lZr, ?_, ?_, hfin⟩
        · intro x hx
          rcases List.mem_append.mp hx with hx | hx
          · exact hPw x (.tail _ hx)
          · exact hLw x (List.mem_filter.mp hx).1
        · intro x hx
          exact hLw x (List.mem_filter.mp hx).1
        · omega
        · rw [List.length_append]; omega
        · rw [List.length_append]; simp only [List.length_cons, List.length_nil]; omega
end
end Mine
end
section
open PySem PySem.W PyProof.Rows PySem.Spec PySem.Calls
namespace Mine
theorem my_itemN {prog : Program} {w : World} {A : Around} {E : Value → Shared → Prop} {s : Shared} {h₀ : Heap} {L : Addr} {news : List (Addr × Obj)} {n : Nat} {value slice : PySem.Expr} {l : Addr} {vs : List Value} {k : Int} {u : Tok} {v : Value} {Q : Value → Shared → Prop}
    (N : News h₀ L s.heap news) (hm : (l, W.listOf vs.toArray n) ∈ news) (h0 : 0 ≤ k) (hhi : k < 2 ^ 63) (hx : vs[k.toNat]? = some v) (h : Q v s)
    (hs : subscripted slice false (.ref l) (.int k u) = operate [.ref l, .int k u] (getItem (.ref l) (.int k u)) := by with_unfolding_all rfl) :
    wpAny (model prog w) A (subscriptTail value slice (.ref l) (.int k u)) Q E s := item_litK ⟨_, (N _ hm).1, rfl, _, rfl⟩ h0 hhi hx h hs
end Mine
end
section
open PySem PySem.W PyProof.Rows PySem.Spec PySem.Calls
namespace Mine
theorem pieceF_left : ∀ (n : Nat) (push reached left : List Str), (pieceF n push reached left).2.length ≤ left.length ∧ (∀ x ∈ (pieceF n push reached left).2, x ∈ left) ∧ (∀ x ∈ (pieceF n push reached left).1, x ∈ push ∨ x ∈ reached ∨ x ∈ left)
  | 0, push, reached, left => ⟨Nat.le_refl _, fun _ h => h, fun _ h => .inr (.inl h)⟩
  | _ + 1, [], reached, left => ⟨Nat.le_refl _, fun _ h => h, fun _ h => .inr (.inl h)⟩
  | n + 1, w :: ps, reached, left => by
    have ih := pieceF_left n (ps ++ left.filter (nearB w)) (reached ++ [w]) (left.filter fun x => !nearB w x)
    refine ⟨Nat.le_trans ih.1 (List.length_filter_le _ _), fun x hx => (List.mem_filter.mp (ih.2.1 x hx)).1, fun x hx => ?_⟩
    rcases ih.2.2 x hx with h | h | h
    · rcases List.mem_append.mp h with h | h
      · exact .inl (.tail _ h)
      · exact .inr (.inr (List.mem_filter.mp h).1)
    · rcases List.mem_append.mp h with h | h
      · exact .inr (.inl h)
      · rw [List.mem_singleton.mp h]; exact .inl (.head _)
    · exact .inr (.inr (List.mem_filter.mp h).1)
theorem pieceF_len : ∀ (n : Nat) (push reached left : List Str), (pieceF n push reached left).1.length ≤ push.length + reached.length + left.length
  | 0, push, reached, left => by simp only [pieceF]; omega
  | _ + 1, [], reached, left => by simp only [pieceF]; omega
  | n + 1, w :: ps, reached, left => by
    have ih := pieceF_len n (ps ++ left.filter (nearB w)) (reached ++ [w]) (left.filter fun x => !nearB w x)
    have hf := filt_len (nearB w) left
    rw [List.length_append, List.length_append] at ih
    simp only [pieceF, List.length_cons, List.length_nil] at ih ⊢
    omega
theorem pieceF_more : ∀ (n : Nat) (push reached left : List Str), reached ≠ [] → (pieceF n push reached left).1 ≠ []
  | 0, _, _, _, h => h
  | _ + 1, [], _, _, h => h
  | n + 1, w :: ps, reached, left, _ => pieceF_more n _ _ _ (by simp)
theorem pieceF_ne (n : Nat) (w : Str) (left : List Str) : (pieceF (n + 1) [w] [] left).1 ≠ [] := pieceF_more n _ _ _ (by simp)
def cR (x : Str) : Int := ((x.cps.toList.filter (· == 114)).length : Nat)
def cB (x : Str) : Int := ((x.cps.toList.filter (· == 98)).length : Nat)
theorem cnt_r : ∀ x ∈ W10, Txt.count x (Str.ofString "r") = cR x := by decide +kernel
theorem cnt_b : ∀ x ∈ W10, Txt.count x (Str.ofString "b") = cB x := by decide +kernel
def minIs (k : Int) (l : List Int) : Bool := l.any (· == k) && l.all (k ≤ ·)
def maxIs (k : Int) (l : List Int) : Bool := l.any (· == k) && l.all (· ≤ k)
theorem minIs_iff {k M : Int} {l : List Int} (h1 : M ∈ l) (h2 : ∀ a, a ∈ l → M ≤ a) : minIs k l = decide (M = k) := by
  unfold minIs
  by_cases h : M = k
  · subst h
    rw [decide_eq_true rfl, Bool.and_eq_true]
    exact ⟨List.any_eq_true.mpr ⟨M, h1, by simp⟩, List.all_eq_true.mpr fun a ha => by simpa using h2 a ha⟩
  · rw [decide_eq_false h, Bool.and_eq_false_iff]
    by_cases hk : k ∈ l
    · right
      have := h2 k hk
      rw [List.all_eq_false]
      exact ⟨M, h1, by simp; omega⟩
    · left
      rw [List.any_eq_false]
      intro a ha e
      exact hk ((beq_iff_eq.mp e) ▸ ha)
theorem maxIs_iff {k M : Int} {l : List Int} (h1 : M ∈ l) (h2 : ∀ a, a ∈ l → a ≤ M) : maxIs k l = decide (M = k) := by
  unfold maxIs
  by_cases h : M = k
  · subst h
    rw [decide_eq_true rfl, Bool.and_eq_true]
    exact ⟨List.any_eq_true.mpr ⟨M, h1, by simp⟩, List.all_eq_true.mpr fun a ha => by simpa using h2 a ha⟩
  · rw [decide_eq_false h, Bool.and_eq_false_iff]
    by_cases hk : k ∈ l
    · right
      have := h2 k hk
      rw [List.all_eq_false]
      exact ⟨M, h1, by simp; omega⟩
    · left
      rw [List.any_eq_false]
      intro a ha e
      exact hk ((beq_iff_eq.mp e) ▸ ha)
def winB (re : List Str) : Bool := minIs 1 (re.map cR) && minIs 1 (re.map cB) && maxIs 5 (re.map fun x => (x.length : Int))
def joinsF : Nat → List Str → Bool
  | 0, _ => false
  | _ + 1, [] => false
  | n + 1, w :: r => if winB (pieceF (r.length + 1) [w] [] r).1 = true then true else joinsF n (pieceF (r.length + 1) [w] [] r).2
theorem StrsAre.at : ∀ {vs : List Value} {ns : List Str}, StrsAre vs ns → ∀ (i : Nat) (v : Value), vs[i]? = some v → ∃ x t, ns[i]? = some x ∧ v = .str x t
  | _, _, .nil, i, v, h => by simp at h
  | _, _, .cons x t r, 0, v, h => ⟨x, t, rfl, by simpa using h.symm⟩
  | _, _, .cons x t r, i + 1, v, h => StrsAre.at r i v (by simpa using h)
theorem news_skip {a b : Addr × Obj} {l : List (Addr × Obj)} {h₀ h : Heap} {L : Addr} (N : News h₀ L h (a :: b :: l)) : News h₀ L h (a :: l) := fun q hq => N q (by
  rcases List.mem_cons.mp hq with rfl | hq
  · exact .head _
  · exact .tail _ (.tail _ hq))
theorem news_nil {w : World} {V : MV} {line : Int} {tl : Tok} {push : List Value} {pn : Nat} {p : Int} {tp : Tok} {rest : List (Addr × Obj)} {t a : Addr × Obj} {h₀ h : Heap} {L : Addr} (N : News h₀ L h (t :: V.led w line tl push pn p tp (a :: rest))) : News h₀ L h (V.led w line tl push pn p tp rest) := News.pick N (t :: V.led w line tl push pn p tp [a]) rest [1, 2, 3, 4, 5, 6, 7, 8, 9, 10, 11] rfl rfl
theorem news_end {w : World} {V : MV} {line : Int} {tl : Tok} {push : List Value} {pn : Nat} {p : Int} {tp : Tok} {rest : List (Addr × Obj)} {t a b : Addr × Obj} {h₀ h : Heap} {L : Addr} (N : News h₀ L h (t :: V.led w line tl push pn p tp (a :: b :: rest))) : News h₀ L h (V.led w line tl push pn p tp (b :: rest)) := News.pick N (t :: V.led w line tl push pn p tp [a, b]) rest [1, 2, 3, 4, 5, 6, 7, 8, 9, 10, 11, 13] rfl rfl
theorem news_nil2 {w : World} {V : MV} {line : Int} {tl : Tok} {push : List Value} {pn : Nat} {p : Int} {tp : Tok} {rest : List (Addr × Obj)} {t a b : Addr × Obj} {h₀ h : Heap} {L : Addr} (N : News h₀ L h (t :: V.led w line tl push pn p tp (a :: b :: rest))) : News h₀ L h (V.led w line tl push pn p tp rest) := News.pick N (t :: V.led w line tl push pn p tp [a, b]) rest [1, 2, 3, 4, 5, 6, 7, 8, 9, 10, 11] rfl rfl
theorem news_mid {w : World} {V : MV} {line : Int} {tl : Tok} {push : List Value} {pn : Nat} {p : Int} {tp : Tok} {rest : List (Addr × Obj)} {t lf r a : Addr × Obj} {h₀ h : Heap} {L : Addr} (N : News h₀ L h (t :: lf :: r :: V.led w line tl push pn p tp (a :: rest))) : News h₀ L h (V.led w line tl push pn p tp (r :: lf :: rest)) := News.pick N (t :: lf :: r :: V.led w line tl push pn p tp [a]) rest [3, 4, 5, 6, 7, 8, 9, 10, 11, 12, 13, 2, 1] rfl rfl
theorem slice_cons1 (v : Value) (vs : List Value) : (slicePick (v :: vs).toArray (some 1) none none).toList = vs := by
  have := slicePick_from' (v :: vs).toArray 1
  rw [show ((1 : Int)) = ((1 : Nat) : Int) from rfl, this]
  simp
theorem min_led {prog : Program} {w : World} {A : Around} {E : Value → Shared → Prop} {s : Shared} {h₀ : Heap} {L D : Addr} {m : Str → Option Value} {ys : List Value} {ns : List Str} {f : Str → Int} {news : List (Addr × Obj)} {Q : Value → Shared → Prop} (hh : A.handled = none) (F : Fr h₀ L s.heap m) (N : News h₀ L s.heap ((D, LCg.lst ys) :: news)) (hi : IntsAre ys (ns.map f)) (hne : 0 < ns.length)
    (h : ∀ h' M (t : Tok) tk, Fr h₀ L h' m → News h₀ L h' ((D, LCg.lst ys) :: news) → M ∈ ns.map f → (∀ a, a ∈ ns.map f → M ≤ a) → Q (.int M t) { s with heap := h', toks := tk }) : wpAny (model prog w) A (call (.builtin "min") [.ref D]) Q E s :=
  min_list_N hh F N ⟨_, (N _ (.head _)).1, rfl, _, rfl⟩ hi (by rw [List.length_map]; exact hne) h
theorem max_led {prog : Program} {w : World} {A : Around} {E : Value → Shared → Prop} {s : Shared} {h₀ : Heap} {L D : Addr} {m : Str → Option Value} {ys : List Value} {ns : List Str} {f : Str → Int} {news : List (Addr × Obj)} {Q : Value → Shared → Prop} (hh : A.handled = none) (F : Fr h₀ L s.heap m) (N : News h₀ L s.heap ((D, LCg.lst ys) :: news)) (hi : IntsAre ys (ns.map f)) (hne : 0 < ns.length)
    (h : ∀ h' M (t : Tok) tk, Fr h₀ L h' m → News h₀ L h' ((D, LCg.lst ys) :: news) → M ∈ ns.map f → (∀ a, a ∈ ns.map f → a ≤ M) → Q (.int M t) { s with heap := h', toks := tk }) : wpAny (model prog w) A (call (.builtin "max") [.ref D]) Q E s :=
  max_list_N hh F N ⟨_, (N _ (.head _)).1, rfl, _, rfl⟩ hi (by rw [List.length_map]; exact hne) h
/-- the end of a turn that makes an int and leaves the ledger -/
def CI (h₀ : Heap) (L : Addr) (m : Str → Option Value) (s₁ : Shared) (news : List (Addr × Obj)) (k : Int) (y : Value) (s₂ : Shared) : Prop := ∃ h' tk' t, y = .int k t ∧ s₂ = { s₁ with heap := h', toks := tk' } ∧ Fr h₀ L h' m ∧ News h₀ L h' news
theorem ci_mk {h₀ h' : Heap} {L : Addr} {m : Str → Option Value} {s₁ : Shared} {news : List (Addr × Obj)} {k k' : Int} {t : Tok} {tk' : Nat} (e : k' = k) (F : Fr h₀ L h' m) (N : News h₀ L h' news) : CI h₀ L m s₁ news k (.int k' t) { s₁ with heap := h', toks := tk' } := ⟨_, _, t, by rw [e], rfl, F, N⟩
theorem comp_strs {prog : Program} {w : World} {A : Around} {E : Value → Shared → Prop} {env : Env} {h₀ : Heap} {L : Addr} {m : Str → Option Value} {elt iter : PySem.Expr} {x : Str} {px : Pos} {scope : Scope} {cl : List (Str × Addr)} {pos : Pos} {Q : Value → Shared → Prop} {s₁ : Shared} {news : List (Addr × Obj)} {R : Addr} {vs : List Value} {n : Nat} {ss : List Str}
    (f : Str → Int) (hcell : ∀ y ∈ scope.names, y.2 ≠ .cell) (hkind : scope.kind = .function) (hx : scope.names.lookup x = some .local) (hh : A.handled = none) (F : Fr h₀ L s₁.heap m) (N : News h₀ L s₁.heap news) (hR : (R, W.listOf vs.toArray n) ∈ news) (hS : StrsAre vs ss) (hsz : vs.length ≤ 100)
    (turn : ∀ a ta I oI C oC D m₂ ys h tk (E' : Value → Shared → Prop), a ∈ ss → LCg.NsObj oC m₂ → m₂ x = some (.str a ta) → Fr h₀ L h m → News h₀ L h ((I, oI) :: (C, oC) :: (D, LCg.lst ys) :: news) →
      wpAny (model prog w) A (eval elt (compEnvC scope cl C env)) (CI h₀ L m s₁ ((I, oI) :: (C, oC) :: (D, LCg.lst ys) :: news) (f a)) E' { s₁ with heap := h, toks := tk })
    (fin : ∀ ys D h tk, IntsAre ys (ss.map f) → Fr h₀ L h m → News h₀ L h ((D, LCg.lst ys) :: news) → Q (.ref D) { s₁ with heap := h, toks := tk }) :
    CIter prog w A E env elt iter x px scope cl pos Q (.ref R) s₁ := by
  refine CIter.list (Dr := fun d => d = s₁.drawn) (its := vs.toArray) (T := fun i ys nw => nw = news ∧ IntsAre ys ((ss.take i).map f)) hcell hkind hx hh F N ?hsz ?hsrc ⟨rfl, .nil⟩ rfl ?turn ?fin
  case hsz => rw [List.size_toArray, sizeLine_eq]; omega
  case hsrc => rintro i ys nw ⟨rfl, _⟩; exact .inr ⟨W.listOf vs.toArray n, hR, rfl, n, rfl⟩
  case turn =>
    rintro i ys nw v I oI C oC D m₂ h dr tk E' hi hlen ⟨rfl, hI⟩ hv hC hx F' N' off ne rfl
    obtain ⟨a, ta, ha, rfl⟩ := StrsAre.at hS i v (by simpa using hv)
    refine wpAny_mono (turn a ta I oI C oC D m₂ ys h tk E' (List.mem_of_getElem? ha) hC hx F' N') (fun y s₂ hq => ?_) fun _ _ e => e
    obtain ⟨h', tk', t, rfl, rfl, F2, N2⟩ := hq
    refine ⟨h', _, tk', nw, rfl, rfl, F2, N2, off, rfl, ?_⟩
    rw [List.take_add_one, ha, List.map_append]
    exact IntsAre.append hI (.cons _ _ .nil)
  case fin =>
    rintro ys nw hlen ⟨rfl, hI⟩ D h dr tk rfl F' N' o1
    rw [List.size_toArray, StrsAre.length hS, List.take_length] at hI
    exact fin ys D h tk hI F' N'
section
inductive JoinsInv (g' : Heap) (L' : Addr) (w : World) (V : MV) (line : Int) (tl : Tok) (p : Nat) (tp : Tok) (rest : List (Addr × Obj)) (s : Shared) (left : List Str) (n : Nat) (s' : Shared) : Prop
  | mk : ∀ h tk m₁ pn₁ us1 n1 aX lft, s' = { s with heap := h, toks := tk } → Fr g' L' h m₁ → m₁ (Str.ofString "machine") = some (.ref V.x) → m₁ (Str.ofString "left") = some (.ref aX) → News g' L' h (V.led w line tl [] pn₁ p tp ((aX, W.listOf us1.toArray n1) :: rest)) → StrsAre us1 lft → (∀ x ∈ lft, x ∈ W10) → (@LT.lt Nat _ V.pl aX) → lft.length < n → n ≤ 21 → joinsF n lft = joinsF (left.length + 1) left → JoinsInv g' L' w V line tl p tp rest s left n s'
theorem joins_ok {w : World} (V : MV) (hV : V.Ok) (line : Int) (tl : Tok) (pn p : Nat) (tp : Tok) (aL : Addr) (us : List Value) (nL : Nat) (left : List Str) (hS : StrsAre us left) (hl : ∀ x ∈ left, x ∈ W10) (hn : left.length ≤ 20)
    (rest : List (Addr × Obj)) (ho : OwnOff rest V.adr) (oL : @LT.lt Nat _ V.pl aL) :
    Does w 18 144 [.ref V.x, .ref aL] (V.led w line tl [] pn p tp ((aL, W.listOf us.toArray nL) :: rest)) (fun v news' => ∃ pn', v = .bool (joinsF (left.length + 1) left) ∧ news' = V.led w line tl [] pn' p tp rest) := by
  k_with_none; w_top off
  k_with "call builtin:min" => (k_here; (with_reducible show wpAny _ _ (call (Value.builtin _) [Value.ref _]) _ _ _); (rename IntsAre _ (List.map _ _) => hI9); (rename 0 < List.length _ => hne9); k_dflt (refine' min_led ?hh ?F ?N hI9 hne9 ?_; (case hh => rfl); (case F => k_asm); (case N => k_asm); k_whole); intro h' M' t' tk' F' N' hM1 hM2)
  k_with "call builtin:max" => (k_here; (with_reducible show wpAny _ _ (call (Value.builtin _) [Value.ref _]) _ _ _); (rename IntsAre _ (List.map _ _) => hI9); (rename 0 < List.length _ => hne9); k_dflt (refine' max_led ?hh ?F ?N hI9 hne9 ?_; (case hh => rfl); (case F => k_asm); (case N => k_asm); k_whole); intro h' M' t' tk' F' N' hM1 hM2)
  k_with "subscriptTail Name Slice ref ref" => (k_here; k_dflt (refine' kmk_slice_lit ?F77 ?N77 ?l77 ?p77 ?q77 ?e77 ?_ ?s77 ?t77 ?z77; (case F77 => k_asm); (case N77 => k_asm); (case l77 => kmk_list); (case p77 => kmk_part); (case q77 => kmk_part); (case e77 => exact slice_cons1 _ _); (case s77 => with_unfolding_all rfl); (case t77 => kmk_pure); (case z77 => (rw [List.size_toArray, List.length_cons, sizeLine_eq]; omega))); intro D1 hD1 F2 N2 lD1; (try k_lt lD1); (try k_sweep))
  k_with "compareOp NotEq ref ref" => (k_here; (rename StrsAre (_ :: _) _ => hS9); (rename ∀ _, _ → PyData.strOk _ = true => hok9); refine' ne_cons_nil ?N ?h1 ?h2 hS9 hok9 ?hu ?_; (case N => k_asm); (case h1 => k_mem); (case h2 => k_mem); (case hu => ktr_units))
  k_with "subscriptTail" => (k_here; (with_reducible show wpAny _ _ (subscriptTail _ _ (Value.ref _) (Value.int _ _)) _ _ _); (with_unfolding_all refine' my_itemN ?kN ?k1 ?k2 ?k3 ?k4 ?_ ?k6; (case kN => k_asm); (case k1 => k_mem); (case k2 => decide); (case k3 => decide); (case k4 => rfl); (case k6 => with_unfolding_all rfl); k_whole))
  k_with "call ref" => ((with_reducible show wpAny _ _ (call (Value.ref 139) _) _ _ _); refine Hold.h ?_)
  k_with "eval ListComp" => (k_here; k_dflt (refine ListComp_mine (by with_unfolding_all rfl) (by rfl) (by decide) ?_))
  k_with "exec While" => (with_unfolding_all refine' While_mine ?_)
  k_with "exec While Compare cons nil" => (with_unfolding_all refine' While_mine ?_)
  unfold Does; k_fill
  intro loose mean mg mb dp un gd cn cs a ccd cl outer A₀ base h₀ L m s Q E B F X N T C1 C2 hk hdp hun hret
  have hV' := hV
  obtain ⟨o1, o2, o3, o4, o5, o6, o7, o8, o9, o10, o11⟩ := hV'
  k_dflt cell_enter
  rename_i g' L' h1 FG' F0 N0 B' X' T'
  k_steps
  rename News g' _ _ _ => N'; rename Fr g' _ _ _ => F'
  refine ⟨fun n s' => JoinsInv g' L' w V line tl p tp rest s left n s', left.length + 1, ?init, ?turn⟩
  case init => exact ⟨_, _, _, _, us, nL, aL, left, rfl, F', by rfl, by rfl, N', hS, hl, oL, Nat.lt_succ_self _, by omega, rfl⟩
  case turn =>
    clear F' N'
    rintro n s' ⟨h9, tk9, m9, pn9, us1, n1, aX, lft, rfl, F9, f1, f3, N9, hL1, hLw, q1, hnn, hn21, hfin⟩
    have hok9 : ∀ x ∈ lft, PyData.strOk x = true := fun x hx => w10_ok x (hLw x hx)
    have hlL := StrsAre.length hL1
    replace F9 := Fr.seeL F9 [(Str.ofString "machine", _), (Str.ofString "left", _)] (List.forall_mem_cons.mpr ⟨f1, List.forall_mem_cons.mpr ⟨f3, List.forall_mem_nil _⟩⟩)
    dsimp only [kstB] at F9
    cases lft with
    | nil =>
      obtain rfl := StrsAre.unnil hL1
      k_steps
      rename News h₀ _ _ _ => kN9
      refine hret _ _ _ _ ⟨_, ?_, rfl⟩ (by k_asm) (news_nil kN9)
      rw [← hfin]; cases n <;> rfl
    | cons w9 r9 =>
      obtain ⟨t9, vs9, rfl, hL1'⟩ := StrsAre.uncons hL1
      obtain ⟨k9, rfl⟩ : ∃ k9, n = k9 + 1 := ⟨n - 1, by omega⟩
      have hvl : vs9.length ≤ 100 := by have := StrsAre.length hL1'; simp only [List.length_cons] at hnn; omega
      have hw9 : w9 ∈ W10 := hLw w9 (.head _)
      have hr9 : ∀ x ∈ r9, x ∈ W10 := fun x hx => hLw x (.tail _ hx)
      have hr9l : r9.length ≤ 20 := by simp only [List.length_cons] at hnn; omega
      k_steps
      refine ⟨?_⟩
      rename_i Z1 hZ1 lZ1
      have lD : @LT.lt Nat _ V.pl D1 := by simp only [lD1]
      have lDX : @LT.lt Nat _ aX D1 := by simp only [lD1]
      have lDr : AllLt D1 rest := by simp only [lD1]
      clear lZ1 lD1
      refine' (piece_ok V hV line tl pn9 p tp w9 t9 D1 vs9 0 r9 hL1' hw9 hr9 hr9l ((aX, W.listOf (Value.str w9 t9 :: vs9).toArray n1) :: rest) (off_cons hV q1 ho) lD ⟨lDX, lDr⟩).use ?k1 ?k2 ?k3 (news_rot (news_skip N2)) ?k5 ?c1 ?c2 ?k6 ?k7 ?k8 ?_
      case k1 => k_asm
      case k2 => k_asm
      case k3 => k_asm
      case k5 => k_asm
      case c1 => assumption
      case c2 => assumption
      case k6 => first | assumption | rfl
      case k7 => ktr_room
      case k8 => ktr_units
      clear F2 N2
      have hpl := pieceF_left (r9.length + 1) [w9] [] r9
      have hpn := pieceF_ne r9.length w9 r9
      have hpq := pieceF_len (r9.length + 1) [w9] [] r9
      simp only [List.length_cons, List.length_nil] at hpq
      rw [joinsF] at hfin
      rintro v' h2 tk2 news2 ⟨TT, R, Lf, vs1, m1, vs2, m2, pn2, rfl, rfl, hR1, hL2, e1, e2, e3, e4, e5, e6, e7⟩ F2 N2
      generalize pieceF (r9.length + 1) [w9] [] r9 = pf at hpl hpn hpq hfin hR1 hL2
      dsimp only
      k_steps
      rename News g' _ _ _ => N3; rename Fr g' _ _ _ => F3
      have N4 := news_mid N3
      clear N3
      have hlv := StrsAre.length hR1
      have hlp : pf.1.length ≤ 100 := by omega
      have hW1 : ∀ x ∈ pf.1, x ∈ W10 := fun x hx => by
        rcases hpl.2.2 x hx with h | h | h
        · rw [List.mem_singleton.mp h]; exact hw9
        · cases h
        · exact hr9 x h
      have hR9 : (R, W.listOf vs1.toArray m1) ∈ V.led w line tl [] pn2 p tp ((R, W.listOf vs1.toArray m1) :: (Lf, W.listOf vs2.toArray m2) :: rest) := by simp [MV.led]
      have hl1 : vs1.length ≤ 100 := by omega
      have hne9 : 0 < pf.1.length := List.length_pos_iff.mpr hpn
      refine comp_strs cR (by decide) rfl rfl rfl F3 N4 hR9 hR1 hl1 ?turn ?fin
      case turn =>
        clear F3 N4
        intro a ta I oI C oC D m₂ ys h tk E' ha hC hx F' N'
        have hal := w10_len a (hW1 a ha)
        k_steps
        exact ci_mk (cnt_r a (hW1 a ha)) F' N'
      case fin =>
        clear F3 N4
        intro ys D h tk hI F' N'
        k_steps
        rename _ ∈ List.map cR pf.1 => m1a; rename ∀ _, _ ∈ List.map cR pf.1 → _ => m1b
        rename News g' _ _ _ => N5; rename Fr g' _ _ _ => F5
        refine comp_strs cB (by decide) rfl rfl rfl F5 (fun z hz => N5 z (.tail _ hz)) hR9 hR1 hl1 ?turn ?fin
        case turn =>
          clear F5 N5
          intro a ta I oI C oC D m₂ ys h tk E' ha hC hx F' N'
          have hal := w10_len a (hW1 a ha)
          k_steps
          exact ci_mk (cnt_b a (hW1 a ha)) F' N'
        case fin =>
          clear F5 N5
          intro ys D h tk hI F' N'
          k_steps
          rename _ ∈ List.map cB pf.1 => m2a; rename ∀ _, _ ∈ List.map cB pf.1 → _ => m2b
          rename News g' _ _ _ => N5; rename Fr g' _ _ _ => F5
          refine comp_strs (fun x => (x.length : Int)) (by decide) rfl rfl rfl F5 (fun z hz => N5 z (.tail _ hz)) hR9 hR1 hl1 ?turn ?fin
          case turn =>
            clear F5 N5
            intro a ta I oI C oC D m₂ ys h tk E' ha hC hx F' N'
            have hal := w10_len a (hW1 a ha)
            k_steps
            exact ci_mk rfl F' N'
          case fin =>
            clear F5 N5
            intro ys D h tk hI F' N'
            have hpair : ∀ {M1 M2 M3 : Int}, M1 ∈ pf.1.map cR → (∀ a, a ∈ pf.1.map cR → M1 ≤ a) → M2 ∈ pf.1.map cB → (∀ a, a ∈ pf.1.map cB → M2 ≤ a) → M3 ∈ pf.1.map (fun x => (x.length : Int)) → (∀ a, a ∈ pf.1.map (fun x => (x.length : Int)) → a ≤ M3) → (winB pf.1 = true ↔ (M1 = 1 ∧ M2 = 1) ∧ M3 = 5) := by
              intro M1 M2 M3 a1 a2 a3 a4 a5 a6
              unfold winB
              rw [minIs_iff a1 a2, minIs_iff a3 a4, maxIs_iff a5 a6, Bool.and_eq_true, Bool.and_eq_true, decide_eq_true_eq, decide_eq_true_eq, decide_eq_true_eq]
            have hW2 : ∀ x ∈ pf.2, x ∈ W10 := fun x hx => hr9 x (hpl.2.1 x hx)
            simp only [List.length_cons] at hnn
            k_steps
            · dsimp only
              rename _ ∈ List.map (fun x : Str => (x.length : Int)) pf.1 => m3a; rename ∀ _, _ ∈ List.map (fun x : Str => (x.length : Int)) pf.1 → _ => m3b
              have hw := (hpair m1a m1b m2a m2b m3a m3b).mpr ⟨⟨by assumption, by assumption⟩, by assumption⟩
              rw [if_pos hw] at hfin
              dsimp only [TurnEnd]
              k_steps
              rename News h₀ _ _ _ => kN9
              refine hret _ _ _ _ ⟨_, by rw [← hfin], rfl⟩ (by k_asm) (news_nil2 kN9)
            all_goals
              rename _ ∈ List.map (fun x : Str => (x.length : Int)) pf.1 => m3a; rename ∀ _, _ ∈ List.map (fun x : Str => (x.length : Int)) pf.1 → _ => m3b
              have hw : ¬ (winB pf.1 = true) := fun h => by
                have h := (hpair m1a m1b m2a m2b m3a m3b).mp h
                first
                  | exact absurd h.1.1 (by assumption)
                  | exact absurd h.1.2 (by assumption)
                  | exact absurd h.2 (by assumption)
              rw [if_neg hw] at hfin
              rename News g' _ _ _ => N9; rename Fr g' _ _ _ => F9
              dsimp only [TurnEnd]
              exact ⟨k9, Nat.lt_succ_self _, _, _, _, _, vs2, _, Lf, pf.2, rfl, F9, by rfl, by rfl, news_end N9, hL2, hW2, e2, by omega, by omega, hfin⟩
end
end Mine
end
section
open PySem PySem.W PyProof.Rows PySem.Spec PySem.Calls
namespace Mine
theorem range_lit {prog : Program} {w : World} {A : Around} {E : Value → Shared → Prop} {s : Shared} {f : Value} {b b' : Int} {t : Tok} {Q : Value → Shared → Prop} (e : b = b') (h : wpAny (model prog w) A (call f [.int b' t]) Q E s) : wpAny (model prog w) A (call f [.int b t]) Q E s := e ▸ h
section
variable {h₀ : Heap} {L I : Addr} {it : Obj} {rest : (Str → Option Value) → List (Addr × Obj) → Prop} {s₁ : Shared} {h' : Heap} {tk : Nat} {m' : Str → Option Value} {tail : List (Addr × Obj)}
theorem ue0 (F : Fr h₀ L h' m') (N : News h₀ L h' ((I, it) :: tail)) (ht : ∀ p ∈ tail, p.1 ≠ I) (r : rest m' tail) : UnrEnd h₀ L s₁ I it rest { s₁ with heap := h', toks := tk } := UnrEnd.intro F N tail (fun _ h => h) ht r
theorem ue1 {a : Addr × Obj} (F : Fr h₀ L h' m') (N : News h₀ L h' (a :: (I, it) :: tail)) (ht : ∀ p ∈ a :: tail, p.1 ≠ I) (r : rest m' (a :: tail)) : UnrEnd h₀ L s₁ I it rest { s₁ with heap := h', toks := tk } :=
  UnrEnd.intro F N (a :: tail) (fun q h => by simp only [List.mem_cons] at h ⊢; rcases h with h | h | h <;> simp [h]) ht r
end
theorem pickA {h₀ h : Heap} {L : Addr} {a b c d x1 x2 x3 x4 x5 : Addr × Obj} {news : List (Addr × Obj)} (N : News h₀ L h (a :: b :: c :: d :: x1 :: x2 :: x3 :: x4 :: x5 :: news)) : News h₀ L h (d :: a :: b :: c :: news) := fun q hq => N q (by
  simp only [List.mem_cons] at hq ⊢; rcases hq with h | h | h | h | h <;> simp [h])
theorem pickB {h₀ h : Heap} {L : Addr} {a b c x1 x2 x3 x4 : Addr × Obj} {news : List (Addr × Obj)} (N : News h₀ L h (a :: b :: c :: x1 :: x2 :: x3 :: x4 :: news)) : News h₀ L h (c :: a :: b :: news) := fun q hq => N q (by
  simp only [List.mem_cons] at hq ⊢; rcases hq with h | h | h | h <;> simp [h])
theorem pickC {h₀ h : Heap} {L : Addr} {a b x1 x2 x3 : Addr × Obj} {news : List (Addr × Obj)} (N : News h₀ L h (a :: b :: x1 :: x2 :: x3 :: news)) : News h₀ L h (b :: a :: news) := fun q hq => N q (by
  simp only [List.mem_cons] at hq ⊢; rcases hq with h | h | h <;> simp [h])
theorem fold_drop2 {h₀ h : Heap} {L : Addr} {a b : Addr × Obj} {news : List (Addr × Obj)} (N : News h₀ L h (a :: b :: news)) : News h₀ L h news := fun q hq => N q (.tail _ (.tail _ hq))
structure Lv (a : Int) : Prop where
  h : 0 ≤ a ∧ a < 17
def midF (a b c : Int) : Int := a + b + c - (max3 a.toNat b.toNat c.toNat + min3 a.toNat b.toNat c.toNat : Nat)
/-- the middle one stands between the two others -/
inductive Mid (m a b : Int) : Prop
  | up : a ≤ m → m ≤ b → Mid m a b
  | down : b ≤ m → m ≤ a → Mid m a b
theorem mid_split (a b c : Nat) : (midF a b c = a ∧ Mid a b c) ∨ (midF a b c = b ∧ Mid b a c) ∨ (midF a b c = c ∧ Mid c a b) := by
  unfold midF max3 min3
  simp only [Int.toNat_natCast]
  rcases Nat.lt_or_ge a b with h1 | h1
  · rw [if_pos h1, if_neg (Nat.lt_asymm h1)]
    rcases Nat.lt_or_ge b c with h2 | h2
    · rw [if_pos h2, if_neg (Nat.lt_asymm (Nat.lt_trans h1 h2))]
      exact .inr (.inl ⟨by omega, .up (by omega) (by omega)⟩)
    · rw [if_neg (Nat.not_lt.mpr h2)]
      rcases Nat.lt_or_ge c a with h3 | h3
      · rw [if_pos h3]; exact .inl ⟨by omega, .down (by omega) (by omega)⟩
      · rw [if_neg (Nat.not_lt.mpr h3)]; exact .inr (.inr ⟨by omega, .up (by omega) (by omega)⟩)
  · rw [if_neg (Nat.not_lt.mpr h1)]
    rcases Nat.lt_or_ge a c with h2 | h2
    · rw [if_pos h2]
      by_cases h3 : b < a
      · rw [if_pos h3, if_neg (by omega)]; exact .inl ⟨by omega, .up (by omega) (by omega)⟩
      · rw [if_neg h3, if_neg (by omega)]; exact .inl ⟨by omega, .up (by omega) (by omega)⟩
    · rw [if_neg (Nat.not_lt.mpr h2)]
      by_cases h3 : b < a
      · rw [if_pos h3]
        by_cases h4 : c < b
        · rw [if_pos h4]; exact .inr (.inl ⟨by omega, .down (by omega) (by omega)⟩)
        · rw [if_neg h4]; exact .inr (.inr ⟨by omega, .down (by omega) (by omega)⟩)
      · rw [if_neg h3]
        by_cases h4 : c < a
        · rw [if_pos h4]; exact .inl ⟨by omega, .down (by omega) (by omega)⟩
        · rw [if_neg h4]; exact .inl ⟨by omega, .up (by omega) (by omega)⟩
theorem mid_bd {a b c : Int} (ha : Lv a) (hb : Lv b) (hc : Lv c) : Lv (midF a b c) := by
  obtain ⟨x, hx⟩ := Int.eq_ofNat_of_zero_le ha.h.1
  obtain ⟨y, hy⟩ := Int.eq_ofNat_of_zero_le hb.h.1
  obtain ⟨z, hz⟩ := Int.eq_ofNat_of_zero_le hc.h.1
  subst hx; subst hy; subst hz
  rcases mid_split x y z with ⟨e, _⟩ | ⟨e, _⟩ | ⟨e, _⟩
  · rw [e]; exact ha
  · rw [e]; exact hb
  · rw [e]; exact hc
theorem mid_use {w : World} (a b c : Int) (ta tb tc : Tok) (ha : Lv a) (hb : Lv b) (hc : Lv c) :
    Pure w 4 125 [.int a ta, .int b tb, .int c tc] (fun v => ∃ t, v = .int (midF a b c) t) := mid_ok a b c ta tb tc ha.h hb.h hc.h
def rowF (nsB nsA : List Int) : List Int := (List.range (nsA.length - 1)).map fun y => midF (nsB.getD y 0) (nsA.getD (y + 1) 0) (nsA.getD y 0)
def LvL (ns : List Int) : Prop := ∀ j, j < ns.length → Lv (ns.getD j 0)
theorem row_len (nsB nsA : List Int) : (rowF nsB nsA).length = nsA.length - 1 := by simp [rowF]
theorem row_lv {nsB nsA : List Int} (hA : LvL nsA) (hB : LvL nsB) (h : nsA.length ≤ nsB.length + 1) : LvL (rowF nsB nsA) := by
  intro j hj
  rw [row_len] at hj
  have e : (rowF nsB nsA).getD j 0 = midF (nsB.getD j 0) (nsA.getD (j + 1) 0) (nsA.getD j 0) := by
    unfold rowF
    rw [List.getD_eq_getElem?_getD, List.getElem?_map, List.getElem?_range hj]; rfl
  rw [e]
  exact mid_bd (hB j (by omega)) (hA (j + 1) (by omega)) (hA j (by omega))
def InnerOk (prog : Program) (w : World) (A : Around) (E : Value → Shared → Prop) (g' : Heap) (env : Env) (body : List Stmt) : Prop :=
  ∀ (s : Shared) (I : Addr) (n : Nat) (m : Str → Option Value) (led : List (Addr × Obj)) (B rA rB R : Addr) (vB usA usB : List Value) (nsA nsB : List Int) (nBd nA nB nr : Nat) (xi : Int) (tx : Tok) (Q : Flow → Shared → Prop),
    m (Str.ofString "board") = some (.ref B) → m (Str.ofString "x") = some (.int xi tx) → m (Str.ofString "row") = some (.ref R) →
    (B, W.listOf vB.toArray nBd) ∈ led → (rA, W.listOf usA.toArray nA) ∈ led → (rB, W.listOf usB.toArray nB) ∈ led →
    0 ≤ xi → xi < 10 → vB[xi.toNat]? = some (.ref rA) → vB[(xi + 1).toNat]? = some (.ref rB) → IntsAre usA nsA → IntsAre usB nsB → nsA.length = n + 1 → n ≤ nsB.length → n ≤ 10 → LvL nsA → LvL nsB → (@LT.lt Nat _ R I) → (∀ p ∈ led, p.1 < I) → AllLt R led →
    (∀ m' h tk ut nr', (∀ y, y ≠ Str.ofString "y" → m' y = m y) → Fr g' env.locals h m' → News g' env.locals h ((R, W.listOf ut.toArray nr') :: led) → IntsAre ut (rowF nsB nsA) → Q .next { s with heap := h, toks := tk }) →
    RangeRest prog w A E g' env (Str.ofString "y") body Q s I 0 n n 0 m ((R, W.listOf #[] nr) :: led)
theorem sub_keep {i a b c d : Addr × Obj} {led : List (Addr × Obj)} : ∀ p ∈ i :: a :: led, p ∈ i :: a :: b :: c :: d :: led := fun p h => by
  simp only [List.mem_cons] at h ⊢; rcases h with h | h | h <;> simp [h]
theorem while_share {prog : Program} {w : World} {A : Around} {E : Value → Shared → Prop} {env : Env} {s : Shared} {test itx ity : PySem.Expr} {a1 b1 b2 a2 : Stmt} {tx ty : PySem.Expr} {body o1 o2 : List Stmt} {p1 p2 pos : Pos} {Q : Flow → Shared → Prop} (g' : Heap)
    (gen : InnerOk prog w A E g' env body) (h : Hold (InnerOk prog w A E g' env body) → WTurns prog w A E env test [a1, .For tx itx [b1, .For ty ity body o1 p1, b2] o2 p2, a2] Q s) (hE : PassesOwn (model prog w) A env E := by passes_own) :
    wpAny (model prog w) A (exec (.While test [a1, .For tx itx [b1, .For ty ity body o1 p1, b2] o2 p2, a2] [] pos) env) Q E s := While_mine (h ⟨gen⟩) hE
section
inductive FoldA (g' : Heap) (L' : Addr) (s : Shared) (news : List (Addr × Obj)) (B r0 r1 r2 r3 : Addr) (nB n0 n1 n2 n3 : Nat) (u0 u1 u2 u3 : List Value) (n : Nat) (s' : Shared) : Prop
  | mk : n = 3 → ∀ h tk m₁, s' = { s with heap := h, toks := tk } → Fr g' L' h m₁ → m₁ (Str.ofString "board") = some (.ref B) → News g' L' h ((B, W.listOf #[.ref r0, .ref r1, .ref r2, .ref r3] nB) :: (r3, W.listOf u3.toArray n3) :: (r2, W.listOf u2.toArray n2) :: (r1, W.listOf u1.toArray n1) :: (r0, W.listOf u0.toArray n0) :: news) → FoldA g' L' s news B r0 r1 r2 r3 nB n0 n1 n2 n3 u0 u1 u2 u3 n s'
inductive FoldB (g' : Heap) (L' : Addr) (s : Shared) (news : List (Addr × Obj)) (b0 b1 b2 b3 : List Int) (n : Nat) (s' : Shared) : Prop
  | mk : n = 2 → ∀ h tk m₁ B r0 r1 r2 w0 w1 w2 nB n0 n1 n2, s' = { s with heap := h, toks := tk } → Fr g' L' h m₁ → m₁ (Str.ofString "board") = some (.ref B) → News g' L' h ((B, W.listOf #[.ref r0, .ref r1, .ref r2] nB) :: (r2, W.listOf (List.toArray w2) n2) :: (r1, W.listOf (List.toArray w1) n1) :: (r0, W.listOf (List.toArray w0) n0) :: news) → IntsAre w0 (rowF b1 b0) → IntsAre w1 (rowF b2 b1) → IntsAre w2 (rowF b3 b2) → FoldB g' L' s news b0 b1 b2 b3 n s'
inductive FoldC (g' : Heap) (L' : Addr) (s : Shared) (news : List (Addr × Obj)) (b0 b1 b2 b3 : List Int) (n : Nat) (s' : Shared) : Prop
  | mk : n = 1 → ∀ h tk m₁ B r0 r1 w0 w1 nB n0 n1, s' = { s with heap := h, toks := tk } → Fr g' L' h m₁ → m₁ (Str.ofString "board") = some (.ref B) → News g' L' h ((B, W.listOf #[.ref r0, .ref r1] nB) :: (r1, W.listOf (List.toArray w1) n1) :: (r0, W.listOf (List.toArray w0) n0) :: news) → IntsAre w0 (rowF (rowF b2 b1) (rowF b1 b0)) → IntsAre w1 (rowF (rowF b3 b2) (rowF b2 b1)) → FoldC g' L' s news b0 b1 b2 b3 n s'
inductive FoldD (g' : Heap) (L' : Addr) (s : Shared) (news : List (Addr × Obj)) (b0 b1 b2 b3 : List Int) (n : Nat) (s' : Shared) : Prop
  | mk : n = 0 → ∀ h tk m₁ B r0 w0 nB n0, s' = { s with heap := h, toks := tk } → Fr g' L' h m₁ → m₁ (Str.ofString "board") = some (.ref B) → News g' L' h ((B, W.listOf #[.ref r0] nB) :: (r0, W.listOf (List.toArray w0) n0) :: news) → IntsAre w0 (rowF (rowF (rowF b3 b2) (rowF b2 b1)) (rowF (rowF b2 b1) (rowF b1 b0))) → FoldD g' L' s news b0 b1 b2 b3 n s'
inductive InRow (R : Addr) (led : List (Addr × Obj)) (m9 : Str → Option Value) (nsA nsB : List Int) (k : Nat) (m' : Str → Option Value) (news' : List (Addr × Obj)) : Prop
  | mk : ∀ ut nr', news' = (R, W.listOf ut.toArray nr') :: led → (∀ y, y ≠ Str.ofString "y" → m' y = m9 y) → IntsAre ut ((List.range k).map fun y => midF (nsB.getD y 0) (nsA.getD (y + 1) 0) (nsA.getD y 0)) → InRow R led m9 nsA nsB k m' news'
theorem folded_ok {w : World} (B r0 r1 r2 r3 : Addr) (u0 u1 u2 u3 : List Value) (b0 b1 b2 b3 : List Int) (n0 n1 n2 n3 nB : Nat)
    (i0 : IntsAre u0 b0) (i1 : IntsAre u1 b1) (i2 : IntsAre u2 b2) (i3 : IntsAre u3 b3) (e0 : b0.length = 4) (e1 : b1.length = 3) (e2 : b2.length = 2) (e3 : b3.length = 1) (v0 : LvL b0) (v1 : LvL b1) (v2 : LvL b2) (v3 : LvL b3)
    (news : List (Addr × Obj)) :
    Does w 7 132 [.ref B] ((B, W.listOf #[.ref r0, .ref r1, .ref r2, .ref r3] nB) :: (r3, W.listOf u3.toArray n3) :: (r2, W.listOf u2.toArray n2) :: (r1, W.listOf u1.toArray n1) :: (r0, W.listOf u0.toArray n0) :: news)
      (fun v news' => ∃ t, v = .int ((rowF (rowF (rowF b3 b2) (rowF b2 b1)) (rowF (rowF b2 b1) (rowF b1 b0))).getD 0 0) t ∧ news' = news) := by
  k_with_none; w_top off
  k_with "call ref" => ((with_reducible show wpAny _ _ (call (Value.ref 125) _) _ _ _); k_dflt (refine' (mid_use _ _ _ _ _ _ ?c1 ?c2 ?c3 _).use ?k1 ?k2 ?k3 ?k4 ?k5 ?k9 ?k10 ?k6 ?k7 ?k8 ?_; (case c1 => assumption); (case c2 => assumption); (case c3 => assumption); (case k1 => k_asm); (case k2 => k_asm); (case k3 => k_asm); (case k4 => k_asm); (case k5 => k_asm); (case k9 => assumption); (case k10 => assumption); (case k6 => first | assumption | rfl); (case k7 => ktr_room); (case k8 => ktr_units); k_whole); (rintro v' h' tk' news' ⟨⟨t9, e1⟩, e2⟩ F' N'); subst e1; subst e2; (try dsimp only); (try k_sweep); (try k_fold))
  k_with "subscriptTail" => (k_here; (with_reducible show wpAny _ _ (subscriptTail _ _ (Value.ref _) (Value.int _ _)) _ _ _); (with_unfolding_all refine' my_itemN ?kN ?k1 ?k2 ?k3 ?k4 ?_ ?k6; (case kN => k_asm); (case k1 => k_mem); (case k4 => first | assumption | rfl); (case k2 => first | omega | decide); (case k3 => first | omega | decide); (case k6 => with_unfolding_all rfl); k_whole))
  k_with "exec While" => (refine Hold.h ?_)
  k_with "exec While Compare cons nil" => (refine Hold.h ?_)
  k_with "RangeRest" => ((with_unfolding_all first | (refine RangeRest.succ (fun t' h' tk' F' N' => ?_)) | (refine RangeRest.zero (fun h' tk' F' N' => ?_))); (try simp only [Nat.reduceAdd, Int.cast_ofNat_Int, Nat.zero_add, Int.reduceAdd] at F'))
  k_with "RangeRest" => ((rename Hold (InnerOk _ _ _ _ _ _ _) => hG9); (rename ∀ _, _ ∈ _ → _ < _ => lq9); k_dflt (refine' hG9.h _ _ _ _ _ _ _ _ _ _ _ _ _ _ _ _ _ _ _ _ _ ?f1 ?f2 ?f3 ?mB ?mA ?mC ?x0 ?x1 ?vA ?vB ?iA ?iB ?lA ?lB ?n10 ?LA ?LB ?lRI ?lI ?lR ?_; (case f1 => rfl); (case f2 => rfl); (case f3 => rfl); (case mB => k_mem); (case vA => rfl); (case vB => rfl); (case mA => k_mem); (case mC => k_mem); (case x0 => decide); (case x1 => decide); (case iA => assumption); (case iB => assumption); (case lA => omega); (case lB => omega); (case n10 => omega); (case LA => assumption); (case LB => assumption); (case lRI => exact lq9 _ (.head _)); (case lI => exact fun p hp => lq9 p (.tail _ hp)); (case lR => ((repeat (refine And.intro ?_ ?_; focus (dsimp only; krn_ne))); krn_ne)); k_whole); intro m' h' tk' ut' nr' hm' F' N' hI'; k_dflt (replace F' := Fr.seeL F' [(Str.ofString "board", _), (Str.ofString "x", _), (Str.ofString "row", _), (Str.ofString "lesser", _)] (List.forall_mem_cons.mpr ⟨(hm' (Str.ofString "board") (by decide)).trans (by rfl), List.forall_mem_cons.mpr ⟨(hm' (Str.ofString "x") (by decide)).trans (by rfl), List.forall_mem_cons.mpr ⟨(hm' (Str.ofString "row") (by decide)).trans (by rfl), List.forall_mem_cons.mpr ⟨(hm' (Str.ofString "lesser") (by decide)).trans (by rfl), List.forall_mem_nil _⟩⟩⟩⟩)); (dsimp only [kstB] at F'); (clear hm' lq9); dsimp only)
  k_with "call type:range" => (k_here; (with_reducible show wpAny _ _ (call (Value.type "range") [Value.int _ _]) _ _ _); (refine' range_lit ?e ?_; (case e => first | assumption | (simp only [Int.reduceSub]; rfl))))
  k_with "UnrEnd" => ((rename Hold (InnerOk _ _ _ _ _ _ _) => hG9); (rename Fr _ _ _ _ => F9); (rename News _ _ _ _ => N9); (first | refine' ue0 F9 N9 ?off ?_ | refine' ue1 F9 N9 ?off ?_); (case off => (repeat (refine List.forall_mem_cons.mpr ⟨?_, ?_⟩; focus k_ne)); k_all))
  k_with "pyIter ref" => ((with_reducible show wpAny _ _ (pyIter (Value.ref _)) (fun it s₂ => LoopAtV _ _ _ _ _ (Str.ofString "y") _ _ _ it s₂) _ _); (rename IsRange _ _ _ _ _ _ _ _ => rgX); k_dflt (refine' iter_rangeUnr ?k0 rgX ?k1 ?k2 ?k3 ?k4 ?_; (case k0 => rfl); (case k1 => exact small_one (by omega) (by omega) (by omega) (by omega)); (case k2 => exact rangeSize_nat _ _); (case k3 => k_asm); (case k4 => k_asm); k_whole); intro i' lq9; (have l1 := lq9); (try k_lt l1))
  unfold Does; k_fill
  intro loose mean mg mb dp un gd cn cs a ccd cl outer A₀ base h₀ L m s Q E B' F X N T C1 C2 hk hdp hun hret
  k_dflt cell_enter
  k_steps
  rename_i g' L' h10 FG' F' N' B1 X' T'
  refine ⟨?_⟩
  refine while_share g' ?gen ?use
  case gen =>
    clear F' N' i0 i1 i2 i3 e0 e1 e2 e3 v0 v1 v2 v3
    intro s9 I n m9 led Bd rA rB R vB usA usB nsA nsB nBd nA nB' nr xi tx Q9 f1 f2 f3 mB mA mC x0 x1 hA hB iA iB lA lB n10 vA vBB lRI lI lR fin
    have hlA := iA.length
    have hlB := iB.length
    refine range_ind (fun k m' news' => InRow R led m9 nsA nsB k m' news') ?_ ?_ ?_
    · exact ⟨[], _, rfl, fun _ _ => rfl, .nil⟩
    · rintro k m' news' hk9 ⟨ut, nr', rfl, hm', iU⟩ t h8 tk8 F8 N8
      have hut : ut.length ≤ 10 := by rw [iU.length]; simp; omega
      have z1 : (0 + (k : Int)).toNat = k := by omega
      have z2 : (0 + (k : Int) + 1).toNat = k + 1 := by omega
      have L1 : Lv (nsB.getD (0 + (k : Int)).toNat 0) := by rw [z1]; exact vBB k (by omega)
      have L2 : Lv (nsA.getD (0 + (k : Int) + 1).toNat 0) := by rw [z2]; exact vA (k + 1) (by omega)
      have L3 : Lv (nsA.getD (0 + (k : Int)).toNat 0) := by rw [z1]; exact vA k (by omega)
      replace F8 := Fr.seeL F8 [(Str.ofString "y", _), (Str.ofString "board", _), (Str.ofString "x", _), (Str.ofString "row", _)] (List.forall_mem_cons.mpr ⟨by rfl, List.forall_mem_cons.mpr ⟨(hm' (Str.ofString "board") (by decide)).trans f1, List.forall_mem_cons.mpr ⟨(hm' (Str.ofString "x") (by decide)).trans f2, List.forall_mem_cons.mpr ⟨(hm' (Str.ofString "row") (by decide)).trans f3, List.forall_mem_nil _⟩⟩⟩⟩)
      dsimp only [kstB] at F8
      have N9 : News g' _ h8 ((I, itR (0 + ((k + 1 : Nat) : Int)) ((n : Int) - ((k + 1 : Nat) : Int))) :: (R, W.listOf ut.toArray nr') :: (Bd, W.listOf vB.toArray nBd) :: (rA, W.listOf usA.toArray nA) :: (rB, W.listOf usB.toArray nB') :: led) := fun q hq => by
        simp only [List.mem_cons] at hq
        rcases hq with rfl | rfl | rfl | rfl | rfl | hq
        · exact N8 _ (.head _)
        · exact N8 _ (.tail _ (.head _))
        · exact N8 _ (.tail _ (.tail _ mB))
        · exact N8 _ (.tail _ (.tail _ mA))
        · exact N8 _ (.tail _ (.tail _ mC))
        · exact N8 _ (.tail _ (.tail _ hq))
      clear N8
      have d1 := AllLt.at lR mB
      have d2 := AllLt.at lR mA
      have d3 := AllLt.at lR mC
      dsimp only at d1 d2 d3
      k_steps
      rename News g' _ _ _ => N'; rename Fr g' _ _ _ => F'
      rw [List.push_toArray] at N'
      refine UnrEnd.intro F' N' _ sub_keep (fun q hq => ?_) ⟨_, _, rfl, ?_, ?_⟩
      · rcases List.mem_cons.mp hq with rfl | hq
        · exact Nat.ne_of_lt lRI
        · exact Nat.ne_of_lt (lI q hq)
      · intro y hy
        try dsimp only
        rw [if_neg hy]
        by_cases c1 : y = Str.ofString "board"
        · rw [if_pos c1, c1, f1]
        rw [if_neg c1]
        by_cases c2 : y = Str.ofString "x"
        · rw [if_pos c2, c2, f2]
        rw [if_neg c2]
        by_cases c3 : y = Str.ofString "row"
        · rw [if_pos c3, c3, f3]
        rw [if_neg c3, if_neg hy]
        exact hm' y hy
      · rw [List.range_succ, List.map_append, z1, z2]
        exact IntsAre.append iU (.cons _ _ .nil)
    · rintro m' news' ⟨ut, nr', rfl, hm', iU⟩ h tk F N
      exact fin m' h tk ut nr' hm' F N (by unfold rowF; rw [lA]; exact iU)
  case use =>
    intro hG
    obtain ⟨I, kA, kB, kC, kD, kE⟩ : ∃ I : Nat → Shared → Prop, (∀ n s', FoldA g' L' s news B r0 r1 r2 r3 nB n0 n1 n2 n3 u0 u1 u2 u3 n s' → I n s') ∧ (∀ n s', FoldB g' L' s news b0 b1 b2 b3 n s' → I n s') ∧
        (∀ n s', FoldC g' L' s news b0 b1 b2 b3 n s' → I n s') ∧ (∀ n s', FoldD g' L' s news b0 b1 b2 b3 n s' → I n s') ∧
        (∀ n s', I n s' → FoldA g' L' s news B r0 r1 r2 r3 nB n0 n1 n2 n3 u0 u1 u2 u3 n s' ∨ FoldB g' L' s news b0 b1 b2 b3 n s' ∨ FoldC g' L' s news b0 b1 b2 b3 n s' ∨ FoldD g' L' s news b0 b1 b2 b3 n s') :=
      ⟨fun n s' => FoldA g' L' s news B r0 r1 r2 r3 nB n0 n1 n2 n3 u0 u1 u2 u3 n s' ∨ FoldB g' L' s news b0 b1 b2 b3 n s' ∨ FoldC g' L' s news b0 b1 b2 b3 n s' ∨ FoldD g' L' s news b0 b1 b2 b3 n s', fun _ _ => .inl, fun _ _ h => .inr (.inl h), fun _ _ h => .inr (.inr (.inl h)), fun _ _ h => .inr (.inr (.inr h)), fun _ _ h => h⟩
    refine ⟨I, 3, kA _ _ ⟨rfl, _, _, _, rfl, F', by rfl, N'⟩, ?_⟩
    clear kA
    clear F' N'
    have lc0 := row_len b1 b0
    have lc1 := row_len b2 b1
    have lc2 := row_len b3 b2
    have vc0 := row_lv v0 v1 (by rw [e0, e1]; decide)
    have vc1 := row_lv v1 v2 (by rw [e1, e2]; decide)
    have vc2 := row_lv v2 v3 (by rw [e2, e3]; decide)
    have ld0 := row_len (rowF b2 b1) (rowF b1 b0)
    have ld1 := row_len (rowF b3 b2) (rowF b2 b1)
    have vd0 := row_lv vc0 vc1 (by rw [lc0, lc1, e0, e1]; decide)
    have vd1 := row_lv vc1 vc2 (by rw [lc1, lc2, e1, e2]; decide)
    have le0 := row_len (rowF (rowF b3 b2) (rowF b2 b1)) (rowF (rowF b2 b1) (rowF b1 b0))
    intro n s' hI9
    replace hI9 := kE n s' hI9
    clear kE
    rcases hI9 with (⟨rfl, h11, tk11, m11, rfl, F11, f1, N11⟩ | ⟨rfl, h11, tk11, m11, B, r0, r1, r2, w0, w1, w2, nB, n0, n1, n2, rfl, F11, f1, N11, j0, j1, j2⟩ | ⟨rfl, h11, tk11, m11, B, r0, r1, w0, w1, nB, n0, n1, rfl, F11, f1, N11, j0, j1⟩ | ⟨rfl, h11, tk11, m11, B, r0, w0, nB, n0, rfl, F11, f1, N11, j0⟩)
    · clear vc0 vc1 vc2 vd0 vd1 lc0 lc1 lc2 ld0 ld1 le0
      have q0 : (b0.length : Int) - 1 = 3 := by rw [e0]; rfl
      have q1 : (b1.length : Int) - 1 = 2 := by rw [e1]; rfl
      have q2 : (b2.length : Int) - 1 = 1 := by rw [e2]; rfl
      replace F11 := Fr.seeL F11 [(Str.ofString "board", _)] (List.forall_mem_cons.mpr ⟨f1, List.forall_mem_nil _⟩)
      dsimp only [kstB] at F11
      k_steps
      rename News g' _ _ _ => N9; rename Fr g' _ _ _ => F9
      simp only [List.push_toArray, List.nil_append, List.cons_append] at N9
      exact ⟨2, by omega, kB _ _ ⟨rfl, _, _, _, _, _, _, _, _, _, _, _, _, _, _, rfl, F9, by rfl, pickA N9, by assumption, by assumption, by assumption⟩⟩
    · clear i0 i1 i2 i3 v0 v1 v2 v3 vd0 vd1 ld0 ld1 le0
      generalize hc0 : rowF b1 b0 = c0 at *
      generalize hc1 : rowF b2 b1 = c1 at *
      generalize hc2 : rowF b3 b2 = c2 at *
      have lc0' : c0.length = 3 := by rw [lc0, e0]
      have lc1' : c1.length = 2 := by rw [lc1, e1]
      have lc2' : c2.length = 1 := by rw [lc2, e2]
      have q0 : (c0.length : Int) - 1 = 2 := by rw [lc0']; rfl
      have q1 : (c1.length : Int) - 1 = 1 := by rw [lc1']; rfl
      clear lc0 lc1 lc2 e0 e1 e2 e3
      replace F11 := Fr.seeL F11 [(Str.ofString "board", _)] (List.forall_mem_cons.mpr ⟨f1, List.forall_mem_nil _⟩)
      dsimp only [kstB] at F11
      k_steps
      rename News g' _ _ _ => N9; rename Fr g' _ _ _ => F9
      simp only [List.push_toArray, List.nil_append, List.cons_append] at N9
      subst hc0; subst hc1; subst hc2
      exact ⟨1, by omega, kC _ _ ⟨rfl, _, _, _, _, _, _, _, _, _, _, _, rfl, F9, by rfl, pickB N9, by assumption, by assumption⟩⟩
    · clear i0 i1 i2 i3 v0 v1 v2 v3 vc0 vc1 vc2
      generalize hd0 : rowF (rowF b2 b1) (rowF b1 b0) = d0 at *
      generalize hd1 : rowF (rowF b3 b2) (rowF b2 b1) = d1 at *
      have ld0' : d0.length = 2 := by rw [ld0, lc0, e0]
      have ld1' : d1.length = 1 := by rw [ld1, lc1, e1]
      have q0 : (d0.length : Int) - 1 = 1 := by rw [ld0']; rfl
      clear ld0 ld1 lc0 lc1 lc2 le0 e0 e1 e2 e3
      replace F11 := Fr.seeL F11 [(Str.ofString "board", _)] (List.forall_mem_cons.mpr ⟨f1, List.forall_mem_nil _⟩)
      dsimp only [kstB] at F11
      k_steps
      rename News g' _ _ _ => N9; rename Fr g' _ _ _ => F9
      simp only [List.push_toArray, List.nil_append, List.cons_append] at N9
      subst hd0; subst hd1
      exact ⟨0, by omega, kD _ _ ⟨rfl, _, _, _, _, _, _, _, _, rfl, F9, by rfl, pickC N9, by assumption⟩⟩
    · clear i0 i1 i2 i3 v0 v1 v2 v3 vc0 vc1 vc2
      generalize rowF (rowF (rowF b3 b2) (rowF b2 b1)) (rowF (rowF b2 b1) (rowF b1 b0)) = e0 at *
      replace F11 := Fr.seeL F11 [(Str.ofString "board", _)] (List.forall_mem_cons.mpr ⟨f1, List.forall_mem_nil _⟩)
      dsimp only [kstB] at F11
      have hw0 := j0.length
      k_steps
      rename News h₀ _ _ _ => N9
      exact hret _ _ _ _ ⟨_, rfl, rfl⟩ (by k_asm) (fold_drop2 N9)
end
end Mine
end
section
open PySem PySem.W PyProof.Rows PySem.Spec PySem.Calls
open PyProof.Rows.LCg
namespace Mine
section
variable {prog : Program} {w : World} {A : Around} {E : Value → Shared → Prop} {s : Shared} {h₀ : Heap} {m : Str → Option Value} {env : Env}
def CFinA (Dr : Drawn → Prop) (h₀ : Heap) (L : Addr) (m : Str → Option Value) (s₁ : Shared) (T : Nat → List Value → List (Addr × Obj) → Prop) (n : Nat) (y : Str) (Q : Value → Shared → Prop) : Prop :=
  ∀ ys news', ys.length = n → T n ys news' → ∀ D h dr tk, Dr dr → Fr h₀ L h (fun z => if z = y then some (.ref D) else m z) → News h₀ L h ((D, lst ys) :: news') → Off1 D news' → Q .none { s₁ with heap := h, drawn := dr, toks := tk }
def CIterG (prog : Program) (w : World) (A : Around) (E : Value → Shared → Prop) (env : Env) (elt iter : Expr) (x : Str) (px : Pos) (scope : Scope) (cl : List (Str × Addr)) (pos : Pos) : (Value → Addr → Result → Shared → Prop) → Value → Shared → Prop :=
  CIterOf prog w A E env scope cl (.ListComp elt [⟨.Name x px, iter, [], 0⟩] scope pos)
/-- a comprehension whose list goes straight into a name -/
theorem comp_named {elt tgt iter : Expr} {ifs : List Expr} {gs : List Comprehension} {y : Str} {py : Pos} {scope : Scope} {cl : List (Str × Addr)} {pos spos : Pos} {Q : Flow → Shared → Prop}
    (hsw : swapsWith (.ListComp elt (⟨tgt, iter, ifs, 0⟩ :: gs) scope pos) (some (.Name y py)) spos.line env = pure true) (hclos : closureFor scope env = pure cl) (hkind : scope.kind = .function)
    (hnames : ∀ z ∈ scope.names, z.2 = .local → scope.names.lookup z.1 = some .local)
    (h : wpAny (model prog w) A (eval iter env) (CIterOf prog w A E env scope cl (.ListComp elt (⟨tgt, iter, ifs, 0⟩ :: gs) scope pos) (compPost (model prog w) A E (some (assign (.Name y py) env)) fun _ s' => Q .next s')) E s)
    (hs : ∀ x, foldedSetIterable iter env x = pure x) : wpAny (model prog w) A (exec (.Assign [.Name y py] (.ListComp elt (⟨tgt, iter, ifs, 0⟩ :: gs) scope pos) spos) env) Q E s := by
  have made := wpAny_comprehension_free (e := .ListComp elt (⟨tgt, iter, ifs, 0⟩ :: gs) scope pos) (pos := firstIterPos (⟨tgt, iter, ifs, 0⟩ :: gs) pos) (use := some (assign (.Name y py) env)) (Q := fun _ s' => Q .next s') rfl hs hclos hkind hnames h
  rw [exec_Assign_Name_used _ _ _ _ hsw]
  exact wpAny_bind (wpAny_standAt (wpAny_bind (wpAny_bind (wpAny_mono made (fun _ _ q => wpAny_pure (wpAny_pure q)) fun _ _ e => e))))
theorem Assign_ListComp_mine {elt iter : Expr} {x y : Str} {px py : Pos} {scope : Scope} {cl : List (Str × Addr)} {pos spos : Pos} {Q : Flow → Shared → Prop}
    (hsw : swapsWith (.ListComp elt [⟨.Name x px, iter, [], 0⟩] scope pos) (some (.Name y py)) spos.line env = pure true) (hclos : closureFor scope env = pure cl) (hkind : scope.kind = .function)
    (hnames : ∀ z ∈ scope.names, z.2 = .local → scope.names.lookup z.1 = some .local)
    (h : wpAny (model prog w) A (eval iter env) (CIterG prog w A E env elt iter x px scope cl pos (compPost (model prog w) A E (some (assign (.Name y py) env)) (fun _ s' => Q .next s'))) E s)
    (hs : ∀ x, foldedSetIterable iter env x = pure x := by intro _; rfl) :
    wpAny (model prog w) A (exec (.Assign [.Name y py] (.ListComp elt [⟨.Name x px, iter, [], 0⟩] scope pos) spos) env) Q E s := comp_named hsw hclos hkind hnames h hs
/-- the iterator of a range, and what it bears -/
theorem range_stays {L I : Addr} {a : Int} {n : Nat} {T : Nat → List Value → List (Addr × Obj) → Prop} : Stays h₀ L I T (fun i h => IsRangeIter h I (a + (i : Nat) * 1) ((n : Int) - (i : Nat)) 1) :=
  ⟨fun _ _ st => ⟨_, st⟩, fun i h h' o _ led st e e' k N _ => range_st i h h' o led st e e' k N trivial⟩
theorem range_first {h : Heap} {a b : Int} {n : Nat} (hn : Builtin.Range.rangeSize a b 1 = ((n : Nat) : Int)) :
    IsRangeIter (h.push { cls := .type "range_iterator", data := .fields #[rawInt a, rawInt (Builtin.Range.rangeSize a b 1), rawInt 1] }) h.objs.size (a + ((0 : Nat) : Int) * 1) ((n : Int) - ((0 : Nat) : Int)) 1 := by
  rw [hn]; show Heap.get? _ _ = _; simpa using Heap.get?_push_size _ rfl
theorem CIterG.rangeA {elt iter : Expr} {x : Str} {px : Pos} {scope : Scope} {cl : List (Str × Addr)} {pos : Pos} {s₁ : Shared} {Dr : Drawn → Prop} {T : Nat → List Value → List (Addr × Obj) → Prop} {news : List (Addr × Obj)} {r : Addr} {a b : Int} {t u v : Tok} {n : Nat} {y : Str} {py : Pos} {Q : Value → Shared → Prop}
    (hy : env.kindOf y = some .local) (hp : (env.scope.kind == .class || (env.scope.kind == .module && env.locals != env.globals)) = false)
    (hcell : ∀ y ∈ scope.names, y.2 ≠ .cell) (hkind : scope.kind = .function) (hx : scope.names.lookup x = some .local) (hh : A.handled = none) (F : Fr h₀ env.locals s₁.heap m) (N : News h₀ env.locals s₁.heap news) (hr : IsRange s₁.heap r a b 1 t u v) (hsm : Builtin.Range.small a b 1 = true) (hn : Builtin.Range.rangeSize a b 1 = ((n : Nat) : Int)) (hsz : n ≤ sizeLine)
    (h0 : T 0 [] news) (hDr : Dr s₁.drawn) (turn : CTurn Dr prog w A h₀ env.locals m env elt x scope cl s₁ (fun i v => ∃ t, v = .int (a + (i : Int)) t) T n) (fin : CFinA Dr h₀ env.locals m s₁ T n y Q) :
    CIterG prog w A E env elt iter x px scope cl pos (compPost (model prog w) A E (some (assign (.Name y py) env)) Q) (.ref r) s₁ :=
  wpAny_pyIter_range hr hsm (block_new (T := T) (range_walks hh a n) range_stays (fun _ hb => Nat.le_of_eq (List.mem_singleton.mp hb)) hsz hcell hkind hx F N (range_first hn) h0 hDr turn
    fun _ _ D _ dr _ _ ys led P hd F ns eD N off hl hT => ends_named hy hp P F ns eD N off fun h' tk' F' N' o1 => fin ys led hl hT D h' dr tk' hd F' N' o1)
end
end Mine
end
section
open PySem PySem.W PyProof.Rows PySem.Spec PySem.Calls
open PyProof.Rows.LCg
namespace Mine
section
variable {prog : Program} {w : World} {A : Around} {E : Value → Shared → Prop} {R : Result → Shared → Prop} {s : Shared} {env : Env} {elt : Expr} {gens : List Comprehension} {scope : Scope} {pos : Pos} {d : Nat} {it acc : Value}
/-- the loop of any clause, by what its turn is -/
theorem clause_loop {p : Pos} {rest : Value → Sem Fin} (I : Nat → Shared → Prop)
    (shape : compTurn (.ListComp elt gens scope pos) d it acc env = (standAt p >>= fun _ => pyNext it >>= fun r => match r with
      | none => pure (.done .next)
      | some v => rest v))
    (turn : ∀ k s, I k s → wpAny (model prog w) A (pyNext it) (fun r s₁ => match r with
      | none => R (.ok .next) s₁
      | some v => wpAny (model prog w) A (rest v) (fun fin s₂ => fin = .again (.compLoop (.ListComp elt gens scope pos) d it acc env) ∧ ∃ j, j < k ∧ I j s₂) (notedBy (model prog w) A env fun x s' => R (.error x) s') s₁) (notedBy (model prog w) A env fun x s' => R (.error x) s') s)
    (k : Nat) (h : I k s) : codeAny (model prog w) A (.compLoop (.ListComp elt gens scope pos) d it acc env) R s :=
  codeAny_loop rfl I (fun k s hI => by
    show wpAny _ A ((compTurn (.ListComp elt gens scope pos) d it acc env).onRaise (fun x => do noteFrame x env; theTreesLotGoes x)) _ _ s
    rw [shape]
    refine wpAny_noted (wpAny_bind (wpAny_standAt (wpAny_bind (wpAny_mono (turn k s hI) (fun r s₁ h₁ => ?_) fun _ _ x => x))))
    match r with
    | none => exact wpAny_pure h₁
    | some _ => exact wpAny_mono h₁ (fun _ _ ⟨e, q⟩ => e ▸ ⟨rfl, q⟩) fun _ _ x => x) k h
/-- a clause's source that is its own iterator: its loop starts -/
theorem clause_start {g : Comprehension} (hg : (clausesOf (.ListComp elt gens scope pos))[d]? = some g) (ha : (g.is_async != 0) = false) (loop : codeAny (model prog w) A (.compLoop (.ListComp elt gens scope pos) d it acc env) R s)
    (self : ∀ (Q : Value → Shared → Prop) (E' : Value → Shared → Prop), Q it s → wpAny (model prog w) A (pyIter it) Q E' s) : codeAny (model prog w) A (.compStart (.ListComp elt gens scope pos) d it acc env) R s :=
  codeAny_of_tree (by
    show wpAny _ _ ((compStart (.ListComp elt gens scope pos) d it acc env).onRaise (fun x => do noteFrame x env; standAt theWindowsPlace)) _ _ s
    refine wpAny_notedAt ?_
    unfold compStart
    have hg' : gens[d]? = some g := hg
    simp only [clausesOf, hg', Option.elim_some, ha]
    show wpAny _ _ (ask >>= _) _ _ s
    refine wpAny_bind (wpAny_askSetting (wpAny_ite ?_))
    split
    · exact wpAny_bind (wpAny_pure (wpAny_pure ⟨rfl, loop⟩))
    · refine wpAny_bind (wpAny_rule ?_)
      exact wpAny_bind (wpAny_standAt (wpAny_bind (self _ _ (wpAny_pure ⟨rfl, loop⟩)))))
end
section
variable {prog : Program} {w : World} {A : Around} {E : Value → Shared → Prop} {s : Shared} {h₀ : Heap} {L : Addr} {m : Str → Option Value} {env : Env} {elt i1 i2 : Expr} {x y : Str} {px py : Pos} {scope : Scope} {cl : List (Str × Addr)} {pos : Pos}
/-- the inner loop -/
theorem inner_runs {R : Result → Shared → Prop} {I C D : Addr} {n : Nat} {T : Nat → List Value → Prop} {Mc : (Str → Option Value) → Prop} {led : List (Addr × Obj)} {s' : Shared} (hh : A.handled = none) (P : Place h₀ L I C D) (hkind : scope.kind = .function) (hy : scope.names.lookup y = some .local)
    (hM : ∀ mc v, Mc mc → Mc fun z => if z = y then some v else mc z) (hlen : ∀ j ys, T j ys → ys.length ≤ sizeLine)
    (turn : ∀ j ys u oI oC mc h tk (E' : Value → Shared → Prop), j < n → T j ys → NsObj oC mc → mc y = some (.int (j : Int) u) → Mc mc → Fr h₀ L h m → News h₀ L h (full I C D oI oC ys led) →
      wpAny (model prog w) A (eval elt (compEnvC scope cl C env)) (fun v s₁ => ∃ h' tk', s₁ = { s with heap := h', toks := tk' } ∧ Fr h₀ L h' m ∧ News h₀ L h' (full I C D oI oC ys led) ∧ T (j + 1) (ys ++ [v])) E' { s with heap := h, toks := tk })
    (last : ∀ h tk mc ys, Fr h₀ L h m → h.Ns C mc → h.get? D = some (lst ys) → News h₀ L h led → T n ys → Mc mc → R (.ok .next) { s with heap := h, toks := tk })
    (start : Runs (fun d => d = s.drawn) h₀ L m s (fun i h => IsRangeIter h I (0 + (i : Nat) * 1) ((n : Int) - (i : Nat)) 1) (fun j ys l => l = led ∧ T j ys) Mc I C D n n s') :
    codeAny (model prog w) A (.compLoop (.ListComp elt [⟨.Name x px, i1, [], 0⟩, ⟨.Name y py, i2, [], 0⟩] scope pos) 1 (.ref I) (.ref D) (compEnvC scope cl C env)) R s' := by
  refine clause_loop (p := i2.pos) (rest := fun v => letOwnedTupleGo (.Name y py) (.ref I) v >>= fun _ => assign (.Name y py) (compEnvC scope cl C env) v >>= fun _ =>
    (eval elt (compEnvC scope cl C env) >>= fun x => call (.builtin "list.append") [.ref D, x] >>= fun _ => pure ()) >>= fun _ => again (.compLoop (.ListComp elt [⟨.Name x px, i1, [], 0⟩, ⟨.Name y py, i2, [], 0⟩] scope pos) 1 (.ref I) (.ref D) (compEnvC scope cl C env)))
    (fun k s' => Runs (fun d => d = s.drawn) h₀ L m s (fun i h => IsRangeIter h I (0 + (i : Nat) * 1) ((n : Int) - (i : Nat)) 1) (fun j ys l => l = led ∧ T j ys) Mc I C D n k s') rfl (fun k s' H => ?_) n start
  refine wpAny_mono (H.turn (env := env) (cl := cl) (N' := notedBy (model prog w) A (compEnvC scope cl C env) fun x s' => R (.error x) s') (px := py) (Z := fun s₁ => R (.ok .next) s₁)
    (B := fun s₂ => wpAny (model prog w) A (eval elt (compEnvC scope cl C env)) (fun v s₃ => wpAny (model prog w) A (call (.builtin "list.append") [.ref D, v]) (fun _ s₄ => ∃ j, j < k ∧ Runs (fun d => d = s.drawn) h₀ L m s (fun i h => IsRangeIter h I (0 + (i : Nat) * 1) ((n : Int) - (i : Nat)) 1) (fun j ys l => l = led ∧ T j ys) Mc I C D n j s₄)
      (notedBy (model prog w) A (compEnvC scope cl C env) fun x s' => R (.error x) s') s₃) (notedBy (model prog w) A (compEnvC scope cl C env) fun x s' => R (.error x) s') s₂)
    (range_walks hh 0 n) range_stays P (fun q => P.ic (List.mem_singleton.mp q).symm) hkind hy hM ?_ ?_) (fun r s₁ h₁ => ?_) fun _ _ e => e
  · rintro h _ tk mc ys _ rfl F ns eD N off ⟨rfl, hT⟩ hMc
    exact last h tk mc ys F ns eD N hT hMc
  · rintro j ys _ _ oI oC mc h _ tk hj ⟨rfl, hT⟩ ⟨u, rfl⟩ nC ey hMc F N off rfl again
    rw [Int.zero_add] at ey
    refine wpAny_mono (turn j ys u oI oC mc h tk _ hj hT nC ey hMc F N) (fun v s₃ h₃ => ?_) fun _ _ e => e
    obtain ⟨h', tk', rfl, F', N', hT'⟩ := h₃
    exact append_at (full_un N').2.2.1 (fun g sb e => again g _ tk' oC mc _ _ nC hMc rfl (F'.change sb P.d.1 P.d.2) (full_app P off N' sb.extBut (e.trans (congrArg some (lst_snoc ys v)))) off ⟨rfl, hT'⟩) (by rw [List.size_toArray]; exact hlen _ _ hT)
  · match r with
    | none => exact h₁
    | some v => exact wpAny_bind (wpAny_pure (wpAny_bind (wpAny_mono h₁ (fun _ _ h₂ => wpAny_bind (wpAny_bind (wpAny_mono h₂ (fun _ _ h₃ => wpAny_bind (wpAny_mono h₃ (fun _ _ q => wpAny_pure (wpAny_pure ⟨rfl, q⟩)) fun _ _ e => e)) fun _ _ e => e))) fun _ _ e => e)))
/-- one turn of the inner loop of a comprehension of two clauses -/
def Turn2 (prog : Program) (w : World) (A : Around) (h₀ : Heap) (L : Addr) (m : Str → Option Value) (env : Env) (elt : Expr) (x y : Str) (scope : Scope) (cl : List (Str × Addr)) (s : Shared) (T : Nat → Nat → List Value → Prop) (n : Nat) (g : Nat → Nat) (news : List (Addr × Obj)) : Prop :=
  ∀ i j ys I2 oI2 I oI C oC D m₂ h tk t u (E' : Value → Shared → Prop), i < n → j < g i → T i j ys → NsObj oC m₂ → m₂ x = some (.int (i : Int) t) → m₂ y = some (.int (j : Int) u) → Fr h₀ L h m → News h₀ L h ((I2, oI2) :: (I, oI) :: (C, oC) :: (D, lst ys) :: news) →
    wpAny (model prog w) A (eval elt (compEnvC scope cl C env)) (fun v s' => ∃ h' tk', s' = { s with heap := h', toks := tk' } ∧ Fr h₀ L h' m ∧ News h₀ L h' ((I2, oI2) :: (I, oI) :: (C, oC) :: (D, lst ys) :: news) ∧ T i (j + 1) (ys ++ [v])) E' { s with heap := h, toks := tk }
/-- what stands at the second source of a comprehension of two clauses -/
def Src2 (prog : Program) (w : World) (A : Around) (h₀ : Heap) (L : Addr) (m : Str → Option Value) (env : Env) (i2 : Expr) (x : Str) (scope : Scope) (cl : List (Str × Addr)) (s : Shared) (n : Nat) (g : Nat → Nat) (news : List (Addr × Obj)) : Prop :=
  ∀ i ys I oI C oC D m₂ h tk t (E' : Value → Shared → Prop), i < n → NsObj oC m₂ → m₂ x = some (.int (i : Int) t) → Fr h₀ L h m → News h₀ L h ((I, oI) :: (C, oC) :: (D, lst ys) :: news) →
    wpAny (model prog w) A (eval i2 (compEnvC scope cl C env)) (fun r s' => ∃ h' tk' ra b t u v, r = .ref ra ∧ s' = { s with heap := h', toks := tk' } ∧ IsRange h' ra 0 b 1 t u v ∧ Builtin.Range.small 0 b 1 = true ∧ Builtin.Range.rangeSize 0 b 1 = ((g i : Nat) : Int) ∧
      Fr h₀ L h' m ∧ News h₀ L h' ((I, oI) :: (C, oC) :: (D, lst ys) :: news)) E' { s with heap := h, toks := tk }
theorem full_perm {h : Heap} {I I2 C D : Addr} {oI o2 oC : Obj} {ys : List Value} {led : List (Addr × Obj)} : News h₀ L h (full I2 C D o2 oC ys ((I, oI) :: led)) ↔ News h₀ L h ((I2, o2) :: (I, oI) :: (C, oC) :: (D, lst ys) :: led) := by
  simp only [full, News, List.forall_mem_cons]
  exact ⟨fun ⟨a, b, c, d, e⟩ => ⟨a, d, b, c, e⟩, fun ⟨a, d, b, c, e⟩ => ⟨a, b, c, d, e⟩⟩
/-- the outer loop -/
theorem outer_runs {R : Result → Shared → Prop} {I C D : Addr} {n : Nat} {g : Nat → Nat} {T : Nat → Nat → List Value → Prop} {news : List (Addr × Obj)} {s' : Shared} (hh : A.handled = none) (P : Place h₀ L I C D) (hkind : scope.kind = .function)
    (hx : scope.names.lookup x = some .local) (hy : scope.names.lookup y = some .local) (hxy : x ≠ y) (hlen : ∀ i j ys, T i j ys → ys.length ≤ sizeLine) (hstep : ∀ i ys, i < n → T i (g i) ys → T (i + 1) 0 ys) (hs : ∀ env' x, foldedSetIterable i2 env' x = pure x)
    (src : Src2 prog w A h₀ L m env i2 x scope cl s n g news) (turn : Turn2 prog w A h₀ L m env elt x y scope cl s T n g news)
    (last : ∀ h tk mc ys, Fr h₀ L h m → h.Ns C mc → h.get? D = some (lst ys) → News h₀ L h news → Off3 I C D news → T n 0 ys → R (.ok .next) { s with heap := h, toks := tk })
    (start : Runs (fun d => d = s.drawn) h₀ L m s (fun i h => IsRangeIter h I (0 + (i : Nat) * 1) ((n : Int) - (i : Nat)) 1) (fun i ys l => l = news ∧ T i 0 ys) (fun _ => True) I C D n n s') :
    codeAny (model prog w) A (.compLoop (.ListComp elt [⟨.Name x px, i1, [], 0⟩, ⟨.Name y py, i2, [], 0⟩] scope pos) 0 (.ref I) (.ref D) (compEnvC scope cl C env)) R s' := by
  refine clause_loop (p := i1.pos) (rest := fun v => letOwnedTupleGo (.Name x px) (.ref I) v >>= fun _ => assign (.Name x px) (compEnvC scope cl C env) v >>= fun _ => eval i2 (compEnvC scope cl C env) >>= fun x' => standAt i2.pos >>= fun _ =>
      foldedSetIterable i2 (compEnvC scope cl C env) x' >>= fun x' => holding [x'] (pyIter x') >>= fun it2 => runOwn (.compStart (.ListComp elt [⟨.Name x px, i1, [], 0⟩, ⟨.Name y py, i2, [], 0⟩] scope pos) 1 it2 (.ref D) (compEnvC scope cl C env)) (compEnvC scope cl C env) >>= fun _ =>
      again (.compLoop (.ListComp elt [⟨.Name x px, i1, [], 0⟩, ⟨.Name y py, i2, [], 0⟩] scope pos) 0 (.ref I) (.ref D) (compEnvC scope cl C env)))
    (fun k s' => Runs (fun d => d = s.drawn) h₀ L m s (fun i h => IsRangeIter h I (0 + (i : Nat) * 1) ((n : Int) - (i : Nat)) 1) (fun i ys l => l = news ∧ T i 0 ys) (fun _ => True) I C D n k s') rfl (fun k s' H => ?_) n start
  refine wpAny_mono (H.turn (env := env) (cl := cl) (N' := notedBy (model prog w) A (compEnvC scope cl C env) fun x s' => R (.error x) s') (px := px) (Z := fun s₁ => R (.ok .next) s₁)
    (B := fun s₂ => wpAny (model prog w) A (eval i2 (compEnvC scope cl C env)) (fun x' s₃ => wpAny (model prog w) A (pyIter x') (fun it2 s₄ => wpAny (model prog w) A (runOwn (.compStart (.ListComp elt [⟨.Name x px, i1, [], 0⟩, ⟨.Name y py, i2, [], 0⟩] scope pos) 1 it2 (.ref D) (compEnvC scope cl C env)) (compEnvC scope cl C env))
      (fun _ s₅ => ∃ j, j < k ∧ Runs (fun d => d = s.drawn) h₀ L m s (fun i h => IsRangeIter h I (0 + (i : Nat) * 1) ((n : Int) - (i : Nat)) 1) (fun i ys l => l = news ∧ T i 0 ys) (fun _ => True) I C D n j s₅)
      (notedBy (model prog w) A (compEnvC scope cl C env) fun x s' => R (.error x) s') s₄) (notedBy (model prog w) A (compEnvC scope cl C env) fun x s' => R (.error x) s') s₃) (notedBy (model prog w) A (compEnvC scope cl C env) fun x s' => R (.error x) s') s₂)
    (range_walks hh 0 n) range_stays P (fun q => P.ic (List.mem_singleton.mp q).symm) hkind hx (fun _ _ _ => trivial) ?_ ?_) (fun r s₁ h₁ => ?_) fun _ _ e => e
  · rintro h _ tk mc ys _ rfl F ns eD N off ⟨rfl, hT⟩ _
    exact last h tk mc ys F ns eD N off hT
  · rintro i ys led _ oI oC mc h _ tk hi ⟨rfl, hT⟩ ⟨t, rfl⟩ nC ex _ F N off rfl again
    rw [Int.zero_add] at ex
    refine wpAny_mono (src i ys I oI C oC D mc h tk t _ hi nC ex F N) (fun _ s₄ h₄ => ?_) fun _ _ e => e
    obtain ⟨h₄, tk₄, ra, b, t1, t2, t3, rfl, rfl, hr, hsm, hsz, F₄, N₄⟩ := h₄
    obtain ⟨eI, eC, eD, N₄'⟩ := full_un (led := led) N₄
    have up : ∀ (o' : Obj) b o, h₄.get? b = some o → (h₄.push o').get? b = some o := fun o' _ _ e => Heap.get?_push_of_some o' e
    have ne : ∀ {b : Addr} {o : Obj}, h₄.get? b = some o → h₄.objs.size ≠ b := fun e => Nat.ne_of_gt (Heap.lt_size e)
    have P2 : Place h₀ L h₄.objs.size C D := ⟨⟨Nat.ne_of_gt F₄.ns.lt, next_is_new F₄⟩, P.c, P.d, ne eC, ne eD, P.cd⟩
    have N₅ : News h₀ L h₄ ((I, oI) :: led) := List.forall_mem_cons.mpr ⟨⟨eI, P.i⟩, N₄'⟩
    have off₅ : Off3 h₄.objs.size C D ((I, oI) :: led) := Off3.of (List.forall_mem_cons.mpr ⟨⟨(ne eI).symm, P.ic, P.id⟩, fun p hp => ⟨(ne (N₄' p hp).1).symm, (off.mem p hp).2⟩⟩)
    refine wpAny_pyIter_range hr hsm (wpAny_runOwn ?_)
    refine clause_start (g := ⟨.Name y py, i2, [], 0⟩) rfl rfl (inner_runs (s := s) (m := m) (T := T i) (n := g i) (Mc := fun mc => ∃ t, mc x = some (.int (i : Int) t)) (led := (I, oI) :: led) hh P2 hkind hy (fun mc v ⟨t, e⟩ => ⟨t, (if_neg hxy).trans e⟩) (hlen i) ?_ ?_
      (.mk 0 _ _ tk₄ mc ys _ (Nat.zero_add _) rfl (F₄.keeps (up _)) ((nC.ns eC).at' fun o => up _ _ o) (up _ _ _ eD) (N₅.grown (up _)) off₅ (range_first hsz) ⟨rfl, hT⟩ ⟨t, ex⟩)) fun _ _ q => wpAny_pyIter_rangeiter (range_first hsz) q
    · rintro j ys u o2 oC mc h tk E' hj hT nC ey ⟨t, ex⟩ F N
      refine wpAny_mono (turn i j ys _ o2 I oI C oC D mc h tk t u E' hi hj hT nC ex ey F (full_perm.mp N)) (fun v s₁ h₁ => ?_) fun _ _ e => e
      obtain ⟨h', tk', rfl, F', N', hT'⟩ := h₁
      exact ⟨h', tk', rfl, F', full_perm.mpr N', hT'⟩
    · rintro h' tk' mc' ys' F' ns' eD' N' hT' _
      obtain ⟨oC', eC', nC'⟩ := ns_obj ns'
      have z := List.forall_mem_cons.mp N'
      exact again h' _ tk' oC' mc' ys' led nC' trivial rfl F' (full_mk P z.1.1 eC' eD' z.2) off ⟨rfl, hstep _ _ hi hT'⟩
  · match r with
    | none => exact h₁
    | some v => exact wpAny_bind (wpAny_pure (wpAny_bind (wpAny_mono h₁ (fun _ _ h₂ => wpAny_bind (wpAny_mono h₂ (fun _ _ h₃ => wpAny_bind (wpAny_standAt (wpAny_bind (wpAny_of_eq (hs _ _) (wpAny_bind (wpAny_holding (wpAny_mono h₃
        (fun _ _ h₄ => wpAny_bind (wpAny_mono h₄ (fun _ _ q => wpAny_pure ⟨rfl, q⟩) fun _ _ e => e)) fun _ _ e => e))))))) fun _ _ e => e)) fun _ _ e => e)))
def CIter2 (prog : Program) (w : World) (A : Around) (E : Value → Shared → Prop) (env : Env) (elt i1 i2 : Expr) (x y : Str) (px py : Pos) (scope : Scope) (cl : List (Str × Addr)) (pos : Pos) (Q : Value → Shared → Prop) : Value → Shared → Prop :=
  CIterOf prog w A E env scope cl (.ListComp elt [⟨.Name x px, i1, [], 0⟩, ⟨.Name y py, i2, [], 0⟩] scope pos) (compPost (model prog w) A E none Q)
variable {E : Value → Shared → Prop}
theorem ListComp2_mine {Q : Value → Shared → Prop} (hclos : closureFor scope env = pure cl) (hkind : scope.kind = .function) (hnames : ∀ y ∈ scope.names, y.2 = .local → scope.names.lookup y.1 = some .local)
    (h : wpAny (model prog w) A (eval i1 env) (CIter2 prog w A E env elt i1 i2 x y px py scope cl pos Q) E s) (hs : ∀ x, foldedSetIterable i1 env x = pure x := by intro _; rfl) :
    wpAny (model prog w) A (eval (.ListComp elt [⟨.Name x px, i1, [], 0⟩, ⟨.Name y py, i2, [], 0⟩] scope pos) env) Q E s := comp_eval hclos hkind hnames h hs
theorem CIter2.range {Q : Value → Shared → Prop} {s₁ : Shared} {r : Addr} {b : Int} {t u v : Tok} {n : Nat} {g : Nat → Nat} {T : Nat → Nat → List Value → Prop} {news : List (Addr × Obj)}
    (hh : A.handled = none) (hlen : ∀ i j ys, T i j ys → ys.length ≤ sizeLine) (hstep : ∀ i ys, i < n → T i (g i) ys → T (i + 1) 0 ys)
    (hcell : ∀ y ∈ scope.names, y.2 ≠ .cell) (hkind : scope.kind = .function) (hx : scope.names.lookup x = some .local) (hy : scope.names.lookup y = some .local) (hxy : x ≠ y) (hs : ∀ env' x, foldedSetIterable i2 env' x = pure x)
    (F : Fr h₀ L s₁.heap m) (N : News h₀ L s₁.heap news) (hr : IsRange s₁.heap r 0 b 1 t u v) (hsm : Builtin.Range.small 0 b 1 = true) (hn : Builtin.Range.rangeSize 0 b 1 = ((n : Nat) : Int)) (h0 : T 0 0 [])
    (src : Src2 prog w A h₀ L m env i2 x scope cl s₁ n g news) (turn : Turn2 prog w A h₀ L m env elt x y scope cl s₁ T n g news)
    (fin : ∀ ys D h tk, T n 0 ys → Fr h₀ L h m → News h₀ L h ((D, lst ys) :: news) → AllLt D news → Q (.ref D) { s₁ with heap := h, toks := tk }) :
    CIter2 prog w A E env elt i1 i2 x y px py scope cl pos Q (.ref r) s₁ := by
  refine wpAny_pyIter_range hr hsm ?_
  have up : ∀ (o' : Obj) b o, s₁.heap.get? b = some o → (s₁.heap.push o').get? b = some o := fun o' _ _ e => Heap.get?_push_of_some o' e
  have st := range_first (h := s₁.heap) hn
  refine CompAt.mk hcell hkind (F.keeps (up _)) (N.grown (up _)) (Heap.get?_push_size _ rfl) ⟨Nat.ne_of_gt F.ns.lt, next_is_new F⟩ (fun p hp => Nat.ne_of_lt (Heap.lt_size (N p hp).1)) fun C D h mc tk _ hD P off up' ns eD => ?_
  have go := outer_runs (prog := prog) (w := w) (A := A) (elt := elt) (i1 := i1) (px := px) (py := py) (pos := pos) (env := env) (cl := cl) (s := s₁) (g := g) (T := T) (R := compPost (model prog w) A E none Q (.ref D) C) hh P hkind hx hy hxy hlen hstep hs src turn
    (fun h tk mc ys F ns eD N' off hT => ends_eval P F ns eD N' off fun h' F' N'' _ => fin ys D h' tk hT F' N'' (AllLt.of fun p hp => Nat.lt_of_lt_of_le (Heap.lt_size (up _ _ _ (N p hp).1)) hD))
    (.mk 0 h _ tk mc [] news (Nat.zero_add _) rfl (F.keeps fun b o e => up' b o (up _ b o e)) ns eD (N.grown fun b o e => up' b o (up _ b o e)) off (up' _ _ st) ⟨rfl, h0⟩ trivial)
  exact codeAny_compStart_list go (wpAny_pyIter_rangeiter (up' _ _ st) go)
end
end Mine
end
section
open PySem PySem.W PyProof.Rows PySem.Spec PySem.Calls
open PyProof.Rows.LCg
namespace Mine
section
variable {prog : Program} {w : World} {A : Around} {E : Value → Shared → Prop} {s : Shared} {h₀ : Heap} {L : Addr} {m : Str → Option Value} {env : Env}
/-- the end of a turn of a comprehension with a test -/
def TEnd (h₀ : Heap) (L : Addr) (m : Str → Option Value) (s : Shared) (led : List (Addr × Obj)) (T : Value → Prop) (v : Value) (s' : Shared) : Prop :=
  ∃ h' tk', s' = { s with heap := h', toks := tk' } ∧ Fr h₀ L h' m ∧ News h₀ L h' led ∧ T v
/-- one turn of a comprehension with a test -/
def TurnT (prog : Program) (w : World) (A : Around) (h₀ : Heap) (L : Addr) (m : Str → Option Value) (env : Env) (elt c : Expr) (x : Str) (scope : Scope) (cl : List (Str × Addr)) (s : Shared) (T : Nat → List Value → Prop) (n : Nat) (news : List (Addr × Obj)) : Prop :=
  ∀ i ys I oI C oC D m₂ h tk t (E' : Value → Shared → Prop), i < n → T i ys → NsObj oC m₂ → m₂ x = some (.int (i : Int) t) → Fr h₀ L h m → News h₀ L h ((I, oI) :: (C, oC) :: (D, lst ys) :: news) →
    wpAny (model prog w) A (isTrue c (compEnvC scope cl C env) (eval c (compEnvC scope cl C env))) (fun ok s' => if ok = true then
        wpAny (model prog w) A (eval elt (compEnvC scope cl C env)) (TEnd h₀ L m s ((I, oI) :: (C, oC) :: (D, lst ys) :: news) fun v => T (i + 1) (ys ++ [v])) E' s'
      else TEnd h₀ L m s ((I, oI) :: (C, oC) :: (D, lst ys) :: news) (fun _ => T (i + 1) ys) .none s') E' { s with heap := h, toks := tk }
theorem TurnT.test {elt c : Expr} {x : Str} {scope : Scope} {cl : List (Str × Addr)} {T : Nat → List Value → Prop} {n : Nat} {news : List (Addr × Obj)} {I C D : Addr} (t : TurnT prog w A h₀ L m env elt c x scope cl s T n news) :
    TestTurn (fun d => d = s.drawn) prog w A h₀ L m env elt [c] x scope cl s (fun i v => ∃ t, v = .int (0 + (i : Int)) t) (fun i ys led => led = news ∧ T i ys) n I C D := by
  rintro i ys led _ oI oC mc h _ tk E' hi ⟨rfl, hT⟩ ⟨u, rfl⟩ nC ex F N off rfl
  rw [Int.zero_add] at ex
  have fit : ∀ {P : Value → Prop} {v : Value} {s' : Shared}, TEnd h₀ L m s (full I C D oI oC ys led) P v s' → CEnd (fun d => d = s.drawn) h₀ L m s (full I C D oI oC ys []) I C D (fun v l => l = led ∧ P v) v s' :=
    fun ⟨h', tk', e, F', N', hP⟩ => ⟨h', _, tk', led, rfl, e, F', N', off, rfl, hP⟩
  refine wpAny_tests_one (wpAny_mono (t i ys I oI C oC D mc h tk u E' hi hT nC ex F N) (fun ok s₃ h₃ => ?_) fun _ _ e => e)
  cases ok with
  | true => rw [if_pos rfl] at h₃ ⊢; exact wpAny_mono h₃ (fun _ _ => fit) fun _ _ e => e
  | false => rw [if_neg Bool.false_ne_true] at h₃ ⊢; exact fit h₃
def CIterT (prog : Program) (w : World) (A : Around) (E : Value → Shared → Prop) (env : Env) (elt c iter : Expr) (x : Str) (px : Pos) (scope : Scope) (cl : List (Str × Addr)) (pos : Pos) : (Value → Addr → Result → Shared → Prop) → Value → Shared → Prop :=
  CIterOf prog w A E env scope cl (.ListComp elt [⟨.Name x px, iter, [c], 0⟩] scope pos)
theorem Assign_ListComp_test {elt c iter : Expr} {x y : Str} {px py : Pos} {scope : Scope} {cl : List (Str × Addr)} {pos spos : Pos} {Q : Flow → Shared → Prop}
    (hsw : swapsWith (.ListComp elt [⟨.Name x px, iter, [c], 0⟩] scope pos) (some (.Name y py)) spos.line env = pure true) (hclos : closureFor scope env = pure cl) (hkind : scope.kind = .function)
    (hnames : ∀ z ∈ scope.names, z.2 = .local → scope.names.lookup z.1 = some .local)
    (h : wpAny (model prog w) A (eval iter env) (CIterT prog w A E env elt c iter x px scope cl pos (compPost (model prog w) A E (some (assign (.Name y py) env)) (fun _ s' => Q .next s'))) E s)
    (hs : ∀ x, foldedSetIterable iter env x = pure x := by intro _; rfl) :
    wpAny (model prog w) A (exec (.Assign [.Name y py] (.ListComp elt [⟨.Name x px, iter, [c], 0⟩] scope pos) spos) env) Q E s := comp_named hsw hclos hkind hnames h hs
theorem CIterT.rangeA {elt c iter : Expr} {x y : Str} {px py : Pos} {scope : Scope} {cl : List (Str × Addr)} {pos : Pos} {Q : Value → Shared → Prop} {s₁ : Shared} {r : Addr} {b : Int} {t u v : Tok} {n : Nat} {T : Nat → List Value → Prop} {news : List (Addr × Obj)}
    (hy : env.kindOf y = some .local) (hp : (env.scope.kind == .class || (env.scope.kind == .module && env.locals != env.globals)) = false)
    (hh : A.handled = none) (hlen : ∀ i ys, i ≤ n → T i ys → ys.length ≤ sizeLine)
    (hcell : ∀ y ∈ scope.names, y.2 ≠ .cell) (hkind : scope.kind = .function) (hx : scope.names.lookup x = some .local)
    (F : Fr h₀ env.locals s₁.heap m) (N : News h₀ env.locals s₁.heap news) (hr : IsRange s₁.heap r 0 b 1 t u v) (hsm : Builtin.Range.small 0 b 1 = true) (hn : Builtin.Range.rangeSize 0 b 1 = ((n : Nat) : Int)) (h0 : T 0 [])
    (turn : TurnT prog w A h₀ env.locals m env elt c x scope cl s₁ T n news)
    (fin : ∀ ys D h tk, T n ys → Fr h₀ env.locals h (fun z => if z = y then some (.ref D) else m z) → News h₀ env.locals h ((D, lst ys) :: news) → AllLt D news → Q .none { s₁ with heap := h, toks := tk }) :
    CIterT prog w A E env elt c iter x px scope cl pos (compPost (model prog w) A E (some (assign (.Name y py) env)) Q) (.ref r) s₁ := by
  have up : ∀ (o' : Obj) b o, s₁.heap.get? b = some o → (s₁.heap.push o').get? b = some o := fun o' _ _ e => Heap.get?_push_of_some o' e
  refine wpAny_pyIter_range hr hsm (block (T := fun i ys led => led = news ∧ T i ys) (Dr := fun d => d = s₁.drawn) (range_walks hh 0 n) range_stays (fun b hb => ?_) (fun i ys _ hi hT => hlen i ys hi hT.2) hcell hkind hx (F.keeps (up _)) (N.grown (up _)) ⟨Nat.ne_of_gt F.ns.lt, next_is_new F⟩
    (fun p hp => Nat.ne_of_lt (Heap.lt_size (N p hp).1)) (range_first hn) ⟨rfl, h0⟩ rfl (fun C D _ => TurnT.test (s := s₁) turn) ?_)
  · rw [List.mem_singleton.mp hb]; exact Nat.lt_of_lt_of_eq (Nat.lt_succ_self _) (Heap.size_push ..).symm
  · rintro C D h _ tk mc ys _ hD P rfl F' ns eD N' off ⟨rfl, hT⟩
    exact ends_named hy hp P F' ns eD N' off fun h' tk' F'' N'' _ => fin ys D h' tk' hT F'' N'' (AllLt.of fun p hp => Nat.lt_of_lt_of_le (Heap.lt_size (up _ _ _ (N p hp).1)) hD)
end
end Mine
end
section
open PySem PySem.W PyProof.Rows PySem.Spec PySem.Calls
namespace Mine
abbrev Dg (n : Nat) : List Nat := (numT (n : Int)).cps.toList
theorem dg_ok : ∀ n, n < 17 → Dg n ≠ [] ∧ ∀ x ∈ Dg n, isWs x = false ∧ x ≠ 34 ∧ x ≠ 92 ∧ x ≠ 10 := by decide +kernel
theorem wRun_run {c : Nat} (hc : isWs c = true) (r : List Nat) : ∀ d : List Nat, (∀ x ∈ d, isWs x = false) → wRun (d ++ c :: r) = (d, r)
  | [], _ => w_end hc
  | x :: d, h => by
    rw [List.cons_append, w_go (h x (.head _)), wRun_run hc r d fun y hy => h y (.tail _ hy)]
theorem qRun_run (r : List Nat) : ∀ d : List Nat, (∀ x ∈ d, x ≠ 34) → qRun (d ++ 34 :: r) = (d, r)
  | [], _ => q_end rfl
  | x :: d, h => by
    rw [List.cons_append, q_go (h x (.head _)), qRun_run r d fun y hy => h y (.tail _ hy)]
/-- what the lexer gives of a word -/
def tokT (n : Nat) (s : Int) : List Nat := if s = 1 then Dg n ++ [32] else if s = 2 then joinU (Dg n) else Dg n
theorem joinU_ok {p : Nat → Prop} (h95 : p 95) : ∀ d : List Nat, (∀ x ∈ d, p x) → ∀ x ∈ joinU d, p x
  | [], _, _, h => nomatch h
  | c :: r, h, x, hx => by
    simp only [joinU, List.mem_cons] at hx
    rcases hx with rfl | rfl | hx
    · exact h _ (.head _)
    · exact h95
    · exact joinU_ok h95 r (fun y hy => h y (.tail _ hy)) x hx
theorem joinU_ne : ∀ d : List Nat, d ≠ [] → joinU d ≠ []
  | [], h => h
  | _ :: _, _ => by simp [joinU]
theorem tok_bare {d : List Nat} (hd : d ≠ []) (h : ∀ x ∈ d, isWs x = false ∧ x ≠ 34) {c : Nat} (hc : isWs c = true) (r : List Nat) : tokRun (d ++ c :: r) = (d, r) := by
  cases d with
  | nil => exact absurd rfl hd
  | cons x d =>
    rw [List.cons_append, tok_w (h x (.head _)).1 (h x (.head _)).2, wRun_run hc r d fun y hy => (h y (.tail _ hy)).1]
theorem word_cps (n : Nat) (s : Int) : (wordT (n : Int) s).cps.toList = if s = 1 then 34 :: (Dg n ++ [32, 34]) else if s = 2 then joinU (Dg n) else Dg n := by
  unfold wordT
  split
  · simp only [Str.cps_append, Array.toList_append]
    show ([34] ++ _) ++ [32, 34] = _
    simp
  · split
    · rfl
    · rfl
/-- a word with its blank: the token, and what is behind, a blank more or less -/
theorem tok_word {n : Nat} (hn : n < 17) (s : Int) {c : Nat} (hc : isWs c = true) (r : List Nat) :
    (tokRun ((wordT (n : Int) s).cps.toList ++ c :: r)).1 = tokT n s ∧ ((tokRun ((wordT (n : Int) s).cps.toList ++ c :: r)).2 = r ∨ (tokRun ((wordT (n : Int) s).cps.toList ++ c :: r)).2 = c :: r) := by
  obtain ⟨h0, h1⟩ := dg_ok n hn
  rw [word_cps]
  unfold tokT
  split
  · rw [List.cons_append, tok_q (by decide) rfl, List.append_assoc]
    have := qRun_run (c :: r) (Dg n ++ [32]) (by
      intro x hx
      rcases List.mem_append.mp hx with hx | hx
      · exact (h1 x hx).2.1
      · rw [List.mem_singleton.mp hx]; decide)
    rw [List.append_assoc] at this
    rw [show [32, 34] ++ c :: r = [32] ++ 34 :: c :: r from rfl, this]
    exact ⟨rfl, .inr rfl⟩
  · split
    · rw [tok_bare (joinU_ne _ h0) (joinU_ok (p := fun x => isWs x = false ∧ x ≠ 34) (by decide) _ fun x hx => ⟨(h1 x hx).1, (h1 x hx).2.1⟩) hc]
      exact ⟨rfl, .inl rfl⟩
    · rw [tok_bare h0 (fun x hx => ⟨(h1 x hx).1, (h1 x hx).2.1⟩) hc]
      exact ⟨rfl, .inl rfl⟩
def sepC (k : Nat) : Nat := if k % 3 = 0 then 32 else if k % 3 = 1 then 10 else 9
theorem sep_cps (k : Nat) : (sepT k).cps.toList = [sepC k] := by unfold sepT sepC; split <;> (try split) <;> rfl
theorem sep_ws (k : Nat) : isWs (sepC k) = true := by unfold sepC; split <;> (try split) <;> rfl
/-- the words from the k-th on, j of them -/
def tailT (ls ss : List Int) : Nat → Nat → List Nat
  | 0, _ => []
  | j + 1, k => (wordT (ls.getD k 0) (ss.getD k 0)).cps.toList ++ sepC k :: tailT ls ss j (k + 1)
theorem text_tail (ls ss : List Int) : ∀ (k j : Nat), (textF ls ss (k + j)).cps.toList = (textF ls ss k).cps.toList ++ tailT ls ss j k
  | k, 0 => by simp [tailT]
  | k, j + 1 => by
    have := text_tail ls ss (k + 1) j
    rw [show k + (j + 1) = k + 1 + j by omega, this]
    simp only [textF, tailT, Str.cps_append, Array.toList_append, sep_cps, List.append_assoc, List.singleton_append]
def restN (l : List Nat) : Nat → List Nat
  | 0 => l
  | i + 1 => (tokRun (restN l i)).2
def tokAt (l : List Nat) (i : Nat) : List Nat := (tokRun (restN l i)).1
theorem tok_run (ls ss : List Int) (hl : ∀ k : Nat, k < 10 → 0 ≤ ls.getD k 0 ∧ ls.getD k 0 ≤ 16) : ∀ i, i ≤ 10 → tokRun (restN (tailT ls ss 10 0) i) = tokRun (tailT ls ss (10 - i) i) ∧ (restN (tailT ls ss 10 0) i = tailT ls ss (10 - i) i ∨ ∃ c, c ≠ 10 ∧ isWs c = true ∧ restN (tailT ls ss 10 0) i = c :: tailT ls ss (10 - i) i ∨ i < 10 ∧ restN (tailT ls ss 10 0) i = c :: tailT ls ss (10 - i) i)
  | 0, _ => ⟨rfl, .inl rfl⟩
  | i + 1, hi => by
    have ih := tok_run ls ss hl i (by omega)
    obtain ⟨n, hn⟩ := Int.eq_ofNat_of_zero_le (hl i (by omega)).1
    have hn17 : n < 17 := by have := (hl i (by omega)).2; omega
    have e : tailT ls ss (10 - i) i = (wordT (n : Int) (ss.getD i 0)).cps.toList ++ sepC i :: tailT ls ss (10 - (i + 1)) (i + 1) := by
      rw [show 10 - i = (10 - (i + 1)) + 1 by omega, tailT, hn]
    have hw := tok_word hn17 (ss.getD i 0) (sep_ws i) (tailT ls ss (10 - (i + 1)) (i + 1))
    have er : restN (tailT ls ss 10 0) (i + 1) = (tokRun ((wordT (n : Int) (ss.getD i 0)).cps.toList ++ sepC i :: tailT ls ss (10 - (i + 1)) (i + 1))).2 := by
      show (tokRun (restN (tailT ls ss 10 0) i)).2 = _
      rw [ih.1, e]
    rcases hw.2 with h | h
    · rw [er, h]; exact ⟨rfl, .inl rfl⟩
    · rw [er, h]
      refine ⟨tok_ws (sep_ws i), .inr ⟨sepC i, ?_⟩⟩
      by_cases h9 : i = 9
      · subst h9; exact .inl ⟨by decide, by decide, rfl⟩
      · exact .inr ⟨by omega, rfl⟩
theorem text_all (ls ss : List Int) : (textF ls ss 10).cps.toList = tailT ls ss 10 0 := by
  have := text_tail ls ss 0 10
  rw [show textF ls ss 10 = textF ls ss (0 + 10) from rfl, this]
  rfl
theorem tok_at {ls ss : List Int} (hl : ∀ k : Nat, k < 10 → 0 ≤ ls.getD k 0 ∧ ls.getD k 0 ≤ 16) {i : Nat} (hi : i < 10) : tokAt (tailT ls ss 10 0) i = tokT (ls.getD i 0).toNat (ss.getD i 0) := by
  have ih := tok_run ls ss hl i (by omega)
  obtain ⟨n, hn⟩ := Int.eq_ofNat_of_zero_le (hl i hi).1
  have hn17 : n < 17 := by have := (hl i hi).2; omega
  have e : tailT ls ss (10 - i) i = (wordT (n : Int) (ss.getD i 0)).cps.toList ++ sepC i :: tailT ls ss (10 - (i + 1)) (i + 1) := by
    rw [show 10 - i = (10 - (i + 1)) + 1 by omega, tailT, hn]
  unfold tokAt
  rw [ih.1, e, (tok_word hn17 (ss.getD i 0) (sep_ws i) _).1, hn]
  rfl
theorem tok_ten {ls ss : List Int} (hl : ∀ k : Nat, k < 10 → 0 ≤ ls.getD k 0 ∧ ls.getD k 0 ≤ 16) : tokAt (tailT ls ss 10 0) 10 = [] ∧ restN (tailT ls ss 10 0) 11 = [] := by
  have ih := (tok_run ls ss hl 10 (Nat.le_refl _)).1
  constructor
  · show (tokRun (restN (tailT ls ss 10 0) 10)).1 = []
    rw [ih]; rfl
  · show (tokRun (restN (tailT ls ss 10 0) 10)).2 = []
    rw [ih]; rfl
theorem nl_app : ∀ a b : List Nat, nl (a ++ b) = nl a + nl b
  | [], b => by simp [nl]
  | c :: r, b => by simp only [List.cons_append, nl]; rw [nl_app r b]; omega
theorem nl_zero : ∀ a : List Nat, (∀ x ∈ a, x ≠ 10) → nl a = 0
  | [], _ => rfl
  | c :: r, h => by rw [nl, if_neg (h c (.head _)), nl_zero r fun y hy => h y (.tail _ hy)]; rfl
theorem word_ok {n : Nat} (hn : n < 17) (s : Int) : ∀ x ∈ (wordT (n : Int) s).cps.toList, x ≠ 10 ∧ x ≠ 92 := by
  obtain ⟨_, h1⟩ := dg_ok n hn
  rw [word_cps]
  intro x hx
  split at hx
  · rcases List.mem_cons.mp hx with rfl | hx
    · decide
    · rcases List.mem_append.mp hx with hx | hx
      · exact ⟨(h1 x hx).2.2.2, (h1 x hx).2.2.1⟩
      · simp only [List.mem_cons, List.not_mem_nil, or_false] at hx
        rcases hx with rfl | rfl <;> decide
  · split at hx
    · exact joinU_ok (p := fun x => x ≠ 10 ∧ x ≠ 92) (by decide) _ (fun x hx => ⟨(h1 x hx).2.2.2, (h1 x hx).2.2.1⟩) x hx
    · exact ⟨(h1 x hx).2.2.2, (h1 x hx).2.2.1⟩
theorem nl_tail {ls ss : List Int} (hl : ∀ k : Nat, k < 10 → 0 ≤ ls.getD k 0 ∧ ls.getD k 0 ≤ 16) : ∀ j k, k + j ≤ 10 → nl (tailT ls ss j k) = ((List.range' k j).countP fun i => i % 3 == 1 : Nat)
  | 0, _, _ => rfl
  | j + 1, k, h => by
    obtain ⟨n, hn⟩ := Int.eq_ofNat_of_zero_le (hl k (by omega)).1
    have hn17 : n < 17 := by have := (hl k (by omega)).2; omega
    have ih := nl_tail (ls := ls) (ss := ss) hl j (k + 1) (by omega)
    rw [tailT, nl_app, hn, nl_zero _ fun x hx => (word_ok hn17 _ x hx).1, nl, ih, List.range'_succ, List.countP_cons]
    unfold sepC
    by_cases h0 : k % 3 = 0
    · simp [h0]
    · by_cases h1 : k % 3 = 1
      · simp [h1]; omega
      · simp [h0, h1]
theorem nl_text {ls ss : List Int} (hl : ∀ k : Nat, k < 10 → 0 ≤ ls.getD k 0 ∧ ls.getD k 0 ≤ 16) : nl (tailT ls ss 10 0) = 3 := by
  rw [nl_tail hl 10 0 (by omega)]; decide
theorem tail_92 {ls ss : List Int} (hl : ∀ k : Nat, k < 10 → 0 ≤ ls.getD k 0 ∧ ls.getD k 0 ≤ 16) : ∀ j k, k + j ≤ 10 → ∀ x ∈ tailT ls ss j k, x ≠ 92
  | 0, _, _, _, h => nomatch h
  | j + 1, k, h, x, hx => by
    obtain ⟨n, hn⟩ := Int.eq_ofNat_of_zero_le (hl k (by omega)).1
    have hn17 : n < 17 := by have := (hl k (by omega)).2; omega
    rw [tailT, hn] at hx
    rcases List.mem_append.mp hx with hx | hx
    · exact (word_ok hn17 _ x hx).2
    · rcases List.mem_cons.mp hx with rfl | hx
      · unfold sepC; split <;> (try split) <;> decide
      · exact tail_92 hl j (k + 1) (by omega) x hx
theorem text_92 {ls ss : List Int} (hl : ∀ k : Nat, k < 10 → 0 ≤ ls.getD k 0 ∧ ls.getD k 0 ≤ 16) : ∀ i : Nat, (textF ls ss 10).cps[i]? ≠ some 92 := by
  intro i h
  have h' : (textF ls ss 10).cps.toList[i]? = some 92 := by simpa using h
  rw [text_all] at h'
  exact tail_92 hl 10 0 (by omega) 92 (List.mem_of_getElem? h') rfl
-- the words read back
theorem read_1 : ∀ n : Nat, n < 17 → Txt.replace (Txt.rstrip ⟨(Dg n ++ [32]).toArray⟩) (Str.ofString "_") (Str.ofString "") = numT (n : Int) := by decide +kernel
theorem read_2 : ∀ n : Nat, n < 17 → Txt.replace (Txt.rstrip ⟨(joinU (Dg n)).toArray⟩) (Str.ofString "_") (Str.ofString "") = numT (n : Int) := by decide +kernel
theorem read_0 : ∀ n : Nat, n < 17 → Txt.replace (Txt.rstrip ⟨(Dg n).toArray⟩) (Str.ofString "_") (Str.ofString "") = numT (n : Int) := by decide +kernel
theorem read_len : ∀ n : Nat, n < 17 → (Dg n).length ≤ 2 ∧ (joinU (Dg n)).length ≤ 4 := by decide +kernel
theorem read_int : ∀ n : Nat, n < 17 → PySem.intText? (numT (n : Int)) = some (n : Int) := fun n hn => KIN.num_reads (by omega) (by omega)
theorem read_tok {n : Nat} (hn : n < 17) (s : Int) : Txt.replace (Txt.rstrip ⟨(tokT n s).toArray⟩) (Str.ofString "_") (Str.ofString "") = numT (n : Int) ∧ (⟨(tokT n s).toArray⟩ : Str).length ≤ 6 := by
  have := read_len n hn
  unfold tokT
  split
  · exact ⟨read_1 n hn, by show (Dg n ++ [32]).toArray.size ≤ 6; rw [List.size_toArray, List.length_append]; show (Dg n).length + 1 ≤ 6; omega⟩
  · split
    · exact ⟨read_2 n hn, by show (joinU (Dg n)).toArray.size ≤ 6; rw [List.size_toArray]; omega⟩
    · refine ⟨read_0 n hn, ?_⟩
      have e : (⟨(Dg n).toArray⟩ : Str).length = (Dg n).length := List.size_toArray ..
      omega
end Mine
end
section
open PySem PySem.W PyProof.Rows PySem.Spec PySem.Calls
namespace Mine
/-- majority -/
def maj (a b c : Bool) : Bool := (a && b) || (a && c) || (b && c)
theorem maj_ba (a b c : Bool) : maj a b c = maj b a c := by revert a b c; decide
theorem maj_cb (a b c : Bool) : maj a b c = maj a c b := by revert a b c; decide
theorem maj_at (x y z : Bool) (h1 : y = true → x = true) (h2 : x = true → z = true) : x = maj x y z := by
  revert h1 h2; revert x y z; decide
theorem mid_at_ge {m a b t : Int} (h : Mid m a b) : decide (t ≤ m) = maj (decide (t ≤ m)) (decide (t ≤ a)) (decide (t ≤ b)) := by
  cases h with
  | up h1 h2 => exact maj_at _ _ _ (fun h => decide_eq_true (Int.le_trans (of_decide_eq_true h) h1)) (fun h => decide_eq_true (Int.le_trans (of_decide_eq_true h) h2))
  | down h1 h2 => rw [maj_cb]; exact maj_at _ _ _ (fun h => decide_eq_true (Int.le_trans (of_decide_eq_true h) h1)) (fun h => decide_eq_true (Int.le_trans (of_decide_eq_true h) h2))
theorem mid_at_le {m a b t : Int} (h : Mid m a b) : decide (m ≤ t) = maj (decide (m ≤ t)) (decide (a ≤ t)) (decide (b ≤ t)) := by
  cases h with
  | up h1 h2 => rw [maj_cb]; exact maj_at _ _ _ (fun h => decide_eq_true (Int.le_trans h2 (of_decide_eq_true h))) (fun h => decide_eq_true (Int.le_trans h1 (of_decide_eq_true h)))
  | down h1 h2 => exact maj_at _ _ _ (fun h => decide_eq_true (Int.le_trans h2 (of_decide_eq_true h))) (fun h => decide_eq_true (Int.le_trans h1 (of_decide_eq_true h)))
theorem mid_ge {a b c t : Int} (ha : Lv a) (hb : Lv b) (hc : Lv c) : decide (t ≤ midF a b c) = maj (decide (t ≤ a)) (decide (t ≤ b)) (decide (t ≤ c)) := by
  obtain ⟨a, rfl⟩ := Int.eq_ofNat_of_zero_le ha.h.1
  obtain ⟨b, rfl⟩ := Int.eq_ofNat_of_zero_le hb.h.1
  obtain ⟨c, rfl⟩ := Int.eq_ofNat_of_zero_le hc.h.1
  rcases mid_split a b c with ⟨e, h⟩ | ⟨e, h⟩ | ⟨e, h⟩
  · rw [e]; exact mid_at_ge h
  · rw [e, maj_ba]; exact mid_at_ge h
  · rw [e, maj_cb, maj_ba]; exact mid_at_ge h
theorem mid_le {a b c t : Int} (ha : Lv a) (hb : Lv b) (hc : Lv c) : decide (midF a b c ≤ t) = maj (decide (a ≤ t)) (decide (b ≤ t)) (decide (c ≤ t)) := by
  obtain ⟨a, rfl⟩ := Int.eq_ofNat_of_zero_le ha.h.1
  obtain ⟨b, rfl⟩ := Int.eq_ofNat_of_zero_le hb.h.1
  obtain ⟨c, rfl⟩ := Int.eq_ofNat_of_zero_le hc.h.1
  rcases mid_split a b c with ⟨e, h⟩ | ⟨e, h⟩ | ⟨e, h⟩
  · rw [e]; exact mid_at_le h
  · rw [e, maj_ba]; exact mid_at_le h
  · rw [e, maj_cb, maj_ba]; exact mid_at_le h
/-- ten lamps: the last lamp of the fold -/
def lamp (x : List Bool) : Bool :=
  let a := fun k => x.getD k false
  let b0 := maj (a 4) (a 1) (a 0)
  let b1 := maj (a 5) (a 2) (a 1)
  let b2 := maj (a 6) (a 3) (a 2)
  let b3 := maj (a 7) (a 5) (a 4)
  let b4 := maj (a 8) (a 6) (a 5)
  let b5 := maj (a 9) (a 8) (a 7)
  maj (maj b5 b4 b3) (maj b4 b2 b1) (maj b3 b1 b0)
def Wd (i : Nat) : Str := W10.getD i ⟨#[]⟩
def adjL : List (List Nat) := [[1, 4], [0, 2, 4, 5], [1, 3, 5, 6], [2, 6], [0, 1, 5, 7], [1, 2, 4, 6, 7, 8], [2, 3, 5, 8], [4, 5, 8, 9], [5, 6, 7, 9], [7, 8]]
def adj (i j : Nat) : Bool := (adjL.getD i []).any (Nat.beq j)
theorem adj_is : ∀ i, i < 10 → ∀ j, j < 10 → nearB (Wd i) (Wd j) = adj i j := by decide +kernel
def pieceI : Nat → List Nat → List Nat → List Nat → List Nat × List Nat
  | 0, _, reached, left => (reached, left)
  | _ + 1, [], reached, left => (reached, left)
  | n + 1, w :: ps, reached, left => pieceI n (ps ++ left.filter (adj w)) (reached ++ [w]) (left.filter fun x => !adj w x)
def winI (re : List Nat) : Bool := re.any (fun i => [0, 1, 2, 3].any (Nat.beq i)) && re.any (fun i => [3, 6, 8, 9].any (Nat.beq i)) && re.any (fun i => [0, 4, 7, 9].any (Nat.beq i))
def joinsI : Nat → List Nat → Bool
  | 0, _ => false
  | _ + 1, [] => false
  | n + 1, w :: r => if winI (pieceI (r.length + 1) [w] [] r).1 = true then true else joinsI n (pieceI (r.length + 1) [w] [] r).2
theorem filt_map {l : List Nat} (h : ∀ x ∈ l, x < 10) {w : Nat} (hw : w < 10) : (l.map Wd).filter (nearB (Wd w)) = (l.filter (adj w)).map Wd ∧ (l.map Wd).filter (fun x => !nearB (Wd w) x) = (l.filter fun x => !adj w x).map Wd := by
  induction l with
  | nil => exact ⟨rfl, rfl⟩
  | cons a l ih =>
    have ih := ih fun x hx => h x (.tail _ hx)
    have e := adj_is w hw a (h a (.head _))
    rw [List.map_cons, List.filter_cons, List.filter_cons, List.filter_cons, List.filter_cons, e, ih.1, ih.2]
    cases adj w a <;> simp
theorem piece_map : ∀ (n : Nat) (push reached left : List Nat), (∀ x ∈ push, x < 10) → (∀ x ∈ reached, x < 10) → (∀ x ∈ left, x < 10) →
    pieceF n (push.map Wd) (reached.map Wd) (left.map Wd) = ((pieceI n push reached left).1.map Wd, (pieceI n push reached left).2.map Wd) ∧ (∀ x ∈ (pieceI n push reached left).1, x < 10) ∧ (∀ x ∈ (pieceI n push reached left).2, x < 10)
  | 0, _, _, _, _, h2, h3 => ⟨rfl, h2, h3⟩
  | _ + 1, [], _, _, _, h2, h3 => ⟨rfl, h2, h3⟩
  | n + 1, w :: ps, reached, left, h1, h2, h3 => by
    have hw := h1 w (.head _)
    have ih := piece_map n (ps ++ left.filter (adj w)) (reached ++ [w]) (left.filter fun x => !adj w x)
      (fun x hx => by
        rcases List.mem_append.mp hx with hx | hx
        · exact h1 x (.tail _ hx)
        · exact h3 x (List.mem_filter.mp hx).1)
      (fun x hx => by
        rcases List.mem_append.mp hx with hx | hx
        · exact h2 x hx
        · rw [List.mem_singleton.mp hx]; exact hw)
      (fun x hx => h3 x (List.mem_filter.mp hx).1)
    have fm := filt_map h3 hw
    rw [List.map_cons, pieceF, fm.1, fm.2, pieceI]
    rw [List.map_append, List.map_append] at ih
    exact ih
theorem cr_is : ∀ i, i < 10 → (cR (Wd i) == 1) = [0, 1, 2, 3].any (Nat.beq i) ∧ (cB (Wd i) == 1) = [3, 6, 8, 9].any (Nat.beq i) ∧ (((Wd i).length : Int) == 5) = [0, 4, 7, 9].any (Nat.beq i) ∧ 1 ≤ cR (Wd i) ∧ 1 ≤ cB (Wd i) ∧ ((Wd i).length : Int) ≤ 5 := by decide +kernel
theorem win_map {re : List Nat} (h : ∀ x ∈ re, x < 10) : winB (re.map Wd) = winI re := by
  have e : ∀ (f : Str → Int) (k : Int) (t : Nat → Bool), (∀ i, i < 10 → (f (Wd i) == k) = t i) → ((re.map Wd).map f).any (· == k) = re.any t := by
    intro f k t ht
    rw [List.map_map, List.any_map]
    induction re with
    | nil => rfl
    | cons a l ih => rw [List.any_cons, List.any_cons, ih fun x hx => h x (.tail _ hx)]; congr 1; exact ht a (h a (.head _))
  have g : ∀ (f : Str → Int) (q : Int → Bool), (∀ i, i < 10 → q (f (Wd i)) = true) → ((re.map Wd).map f).all q = true := by
    intro f q hq
    rw [List.all_eq_true]
    intro x hx
    obtain ⟨y, hy, rfl⟩ := List.mem_map.mp hx
    obtain ⟨i, hi, rfl⟩ := List.mem_map.mp hy
    exact hq i (h i hi)
  unfold winB winI minIs maxIs
  rw [e cR 1 _ fun i hi => (cr_is i hi).1, e cB 1 _ fun i hi => (cr_is i hi).2.1, e (fun x => (x.length : Int)) 5 _ fun i hi => (cr_is i hi).2.2.1,
    g cR _ fun i hi => by simpa using (cr_is i hi).2.2.2.1, g cB _ fun i hi => by simpa using (cr_is i hi).2.2.2.2.1, g (fun x => (x.length : Int)) _ fun i hi => by simpa using (cr_is i hi).2.2.2.2.2]
  simp
theorem joins_map : ∀ (n : Nat) (l : List Nat), (∀ x ∈ l, x < 10) → joinsF n (l.map Wd) = joinsI n l
  | 0, _, _ => rfl
  | _ + 1, [], _ => rfl
  | n + 1, w :: r, h => by
    have hp := piece_map (r.length + 1) [w] [] r (fun x hx => by rw [List.mem_singleton.mp hx]; exact h w (.head _)) (fun x hx => nomatch hx) (fun x hx => h x (.tail _ hx))
    rw [List.map_cons, joinsF, List.length_map]
    have e : pieceF (r.length + 1) [Wd w] [] (r.map Wd) = _ := hp.1
    rw [e, win_map hp.2.1, joins_map n _ hp.2.2, joinsI]
/-- the places of the lamps that are on -/
def pickI (x : List Bool) : List Nat := (List.range 10).filter fun k => x.getD k false
def bits : Nat → List (List Bool)
  | 0 => [[]]
  | n + 1 => (bits n).flatMap fun l => [true :: l, false :: l]
theorem bits_mem : ∀ (n : Nat) (x : List Bool), x.length = n → x ∈ bits n
  | 0, [], _ => .head _
  | n + 1, b :: x, h => by
    refine List.mem_flatMap.mpr ⟨x, bits_mem n x (by simpa using h), ?_⟩
    cases b <;> simp
theorem lamps : ∀ x ∈ bits 10, lamp x = true → joinsI ((pickI x).length + 1) (pickI x) = true := by decide +kernel
end Mine
end
section
open PySem PySem.W PyProof.Rows PySem.Spec PySem.Calls
namespace Mine
def foldV (b0 b1 b2 b3 : List Int) : Int := (rowF (rowF (rowF b3 b2) (rowF b2 b1)) (rowF (rowF b2 b1) (rowF b1 b0))).getD 0 0
theorem foldV_is (a0 a1 a2 a3 a4 a5 a6 a7 a8 a9 : Int) : foldV [a0, a1, a2, a3] [a4, a5, a6] [a7, a8] [a9] =
    midF (midF (midF a9 a8 a7) (midF a8 a6 a5) (midF a7 a5 a4)) (midF (midF a8 a6 a5) (midF a6 a3 a2) (midF a5 a2 a1)) (midF (midF a7 a5 a4) (midF a5 a2 a1) (midF a4 a1 a0)) := rfl
section
variable {a0 a1 a2 a3 a4 a5 a6 a7 a8 a9 : Int} (h0 : Lv a0) (h1 : Lv a1) (h2 : Lv a2) (h3 : Lv a3) (h4 : Lv a4) (h5 : Lv a5) (h6 : Lv a6) (h7 : Lv a7) (h8 : Lv a8) (h9 : Lv a9)
include h0 h1 h2 h3 h4 h5 h6 h7 h8 h9
theorem fold_ge (t : Int) : decide (t ≤ foldV [a0, a1, a2, a3] [a4, a5, a6] [a7, a8] [a9]) = lamp [decide (t ≤ a0), decide (t ≤ a1), decide (t ≤ a2), decide (t ≤ a3), decide (t ≤ a4), decide (t ≤ a5), decide (t ≤ a6), decide (t ≤ a7), decide (t ≤ a8), decide (t ≤ a9)] := by
  have b0 := mid_bd h4 h1 h0
  have b1 := mid_bd h5 h2 h1
  have b2 := mid_bd h6 h3 h2
  have b3 := mid_bd h7 h5 h4
  have b4 := mid_bd h8 h6 h5
  have b5 := mid_bd h9 h8 h7
  rw [foldV_is, mid_ge (mid_bd b5 b4 b3) (mid_bd b4 b2 b1) (mid_bd b3 b1 b0), mid_ge b5 b4 b3, mid_ge b4 b2 b1, mid_ge b3 b1 b0, mid_ge h4 h1 h0, mid_ge h5 h2 h1, mid_ge h6 h3 h2, mid_ge h7 h5 h4, mid_ge h8 h6 h5, mid_ge h9 h8 h7]
  rfl
theorem fold_le (t : Int) : decide (foldV [a0, a1, a2, a3] [a4, a5, a6] [a7, a8] [a9] ≤ t) = lamp [decide (a0 ≤ t), decide (a1 ≤ t), decide (a2 ≤ t), decide (a3 ≤ t), decide (a4 ≤ t), decide (a5 ≤ t), decide (a6 ≤ t), decide (a7 ≤ t), decide (a8 ≤ t), decide (a9 ≤ t)] := by
  have b0 := mid_bd h4 h1 h0
  have b1 := mid_bd h5 h2 h1
  have b2 := mid_bd h6 h3 h2
  have b3 := mid_bd h7 h5 h4
  have b4 := mid_bd h8 h6 h5
  have b5 := mid_bd h9 h8 h7
  rw [foldV_is, mid_le (mid_bd b5 b4 b3) (mid_bd b4 b2 b1) (mid_bd b3 b1 b0), mid_le b5 b4 b3, mid_le b4 b2 b1, mid_le b3 b1 b0, mid_le h4 h1 h0, mid_le h5 h2 h1, mid_le h6 h3 h2, mid_le h7 h5 h4, mid_le h8 h6 h5, mid_le h9 h8 h7]
  rfl
end
/-- the words of the cells that pass a test -/
def onW (ls : List Int) (q : Int → Bool) : List Str := ((List.range 10).filter fun k => q (ls.getD k 0)).map Wd
theorem onW_bits (ls : List Int) (q : Int → Bool) (hl : ls.length = 10) : onW ls q = (pickI (ls.map q)).map Wd := by
  unfold onW pickI
  congr 1
  refine List.filter_congr fun k hk => ?_
  have hk : k < ls.length := by rw [hl]; exact List.mem_range.mp hk
  rw [List.getD_eq_getElem?_getD, List.getD_eq_getElem?_getD, List.getElem?_map, List.getElem?_eq_getElem hk]
  rfl
theorem on_w10 (ls : List Int) (q : Int → Bool) : ∀ x ∈ onW ls q, x ∈ W10 := by
  intro x hx
  obtain ⟨k, hk, rfl⟩ := List.mem_map.mp hx
  have hk : k < 10 := List.mem_range.mp (List.mem_filter.mp hk).1
  exact (by decide +kernel : ∀ k, k < 10 → Wd k ∈ W10) k hk
theorem on_len (ls : List Int) (q : Int → Bool) : (onW ls q).length ≤ 10 := by
  unfold onW
  rw [List.length_map]
  exact Nat.le_trans (List.length_filter_le _ _) (by simp)
theorem lev_ten {ls : List Int} (hl : ls.length = 10) : ∃ a0 a1 a2 a3 a4 a5 a6 a7 a8 a9, ls = [a0, a1, a2, a3, a4, a5, a6, a7, a8, a9] := by
  match ls, hl with
  | [a0, a1, a2, a3, a4, a5, a6, a7, a8, a9], _ => exact ⟨a0, a1, a2, a3, a4, a5, a6, a7, a8, a9, rfl⟩
theorem joins_on {ls : List Int} {q : Int → Bool} (hl : ls.length = 10) (h : lamp (ls.map q) = true) : joinsF ((onW ls q).length + 1) (onW ls q) = true := by
  have hx10 : ∀ x ∈ pickI (ls.map q), x < 10 := fun x hx => List.mem_range.mp (List.mem_filter.mp hx).1
  rw [onW_bits ls q hl, List.length_map, joins_map _ _ hx10]
  exact lamps _ (bits_mem 10 _ (by rw [List.length_map]; exact hl)) h
/-- the value of the game: both have a piece that touches the three sides -/
theorem game {ls : List Int} (hl : ls.length = 10) (hv : ∀ k : Nat, k < 10 → Lv (ls.getD k 0)) :
    joinsF ((onW ls fun a => decide (foldV (ls.take 4) ((ls.drop 4).take 3) ((ls.drop 7).take 2) (ls.drop 9) ≤ a)).length + 1) (onW ls fun a => decide (foldV (ls.take 4) ((ls.drop 4).take 3) ((ls.drop 7).take 2) (ls.drop 9) ≤ a)) = true ∧
    joinsF ((onW ls fun a => decide (a ≤ foldV (ls.take 4) ((ls.drop 4).take 3) ((ls.drop 7).take 2) (ls.drop 9))).length + 1) (onW ls fun a => decide (a ≤ foldV (ls.take 4) ((ls.drop 4).take 3) ((ls.drop 7).take 2) (ls.drop 9))) = true := by
  obtain ⟨a0, a1, a2, a3, a4, a5, a6, a7, a8, a9, rfl⟩ := lev_ten hl
  have h0 := hv 0 (by decide); have h1 := hv 1 (by decide); have h2 := hv 2 (by decide); have h3 := hv 3 (by decide); have h4 := hv 4 (by decide)
  have h5 := hv 5 (by decide); have h6 := hv 6 (by decide); have h7 := hv 7 (by decide); have h8 := hv 8 (by decide); have h9 := hv 9 (by decide)
  refine ⟨joins_on hl ?_, joins_on hl ?_⟩
  · exact (fold_ge h0 h1 h2 h3 h4 h5 h6 h7 h8 h9 _).symm.trans (decide_eq_true (Int.le_refl _))
  · exact (fold_le h0 h1 h2 h3 h4 h5 h6 h7 h8 h9 _).symm.trans (decide_eq_true (Int.le_refl _))
end Mine
end
section
open PySem PySem.W PyProof.Rows PySem.Spec PySem.Calls
namespace Mine
inductive Ten11 (f : Nat → Str) (ys : List Value) : Prop
  | mk : ∀ t0 t1 t2 t3 t4 t5 t6 t7 t8 t9 t10, ys = [.str (f 0) t0, .str (f 1) t1, .str (f 2) t2, .str (f 3) t3, .str (f 4) t4, .str (f 5) t5, .str (f 6) t6, .str (f 7) t7, .str (f 8) t8, .str (f 9) t9, .str (f 10) t10] → Ten11 f ys
theorem strs11 {ys : List Value} {f : Nat → Str} (h : StrsAre ys ((List.range 11).map f)) : Ten11 f ys := by
  have g0 : StrsAre ys (f 0 :: [f 1, f 2, f 3, f 4, f 5, f 6, f 7, f 8, f 9, f 10]) := h
  clear h
  obtain ⟨t0, v0, rfl, g1⟩ := StrsAre.uncons g0
  clear g0
  obtain ⟨t1, v1, rfl, g2⟩ := StrsAre.uncons g1
  clear g1
  obtain ⟨t2, v2, rfl, g3⟩ := StrsAre.uncons g2
  clear g2
  obtain ⟨t3, v3, rfl, g4⟩ := StrsAre.uncons g3
  clear g3
  obtain ⟨t4, v4, rfl, g5⟩ := StrsAre.uncons g4
  clear g4
  obtain ⟨t5, v5, rfl, g6⟩ := StrsAre.uncons g5
  clear g5
  obtain ⟨t6, v6, rfl, g7⟩ := StrsAre.uncons g6
  clear g6
  obtain ⟨t7, v7, rfl, g8⟩ := StrsAre.uncons g7
  clear g7
  obtain ⟨t8, v8, rfl, g9⟩ := StrsAre.uncons g8
  clear g8
  obtain ⟨t9, v9, rfl, g10⟩ := StrsAre.uncons g9
  clear g9
  obtain ⟨t10, v10, rfl, g11⟩ := StrsAre.uncons g10
  clear g10
  obtain rfl := StrsAre.unnil g11
  exact ⟨t0, t1, t2, t3, t4, t5, t6, t7, t8, t9, t10, rfl⟩
section
variable {w : World} {V : MV} {line : Int} {tl : Tok} {push : List Value} {pn : Nat} {p : Int} {tp : Tok} {rest : List (Addr × Obj)} {a b c : Addr × Obj} {h₀ h : Heap} {L : Addr}
theorem news_rot3 (N : News h₀ L h (a :: b :: c :: V.led w line tl push pn p tp rest)) : News h₀ L h (V.led w line tl push pn p tp (a :: b :: c :: rest)) := News.pick N (a :: b :: c :: V.led w line tl push pn p tp []) rest [3, 4, 5, 6, 7, 8, 9, 10, 11, 12, 13, 0, 1, 2] rfl rfl
theorem news_unrot3 (N : News h₀ L h (V.led w line tl push pn p tp (a :: b :: c :: rest))) : News h₀ L h (a :: b :: c :: V.led w line tl push pn p tp rest) := News.pick N (V.led w line tl push pn p tp [a, b, c]) rest [11, 12, 13, 0, 1, 2, 3, 4, 5, 6, 7, 8, 9, 10] rfl rfl
theorem off3_own {I C D : Addr} {oI oC oD : Obj} (h : LCg.Off3 I C D (V.led w line tl push pn p tp rest)) (ho : OwnOff rest V.adr) : OwnOff ((I, oI) :: (C, oC) :: (D, oD) :: rest) V.adr := by
  have hm := LCg.Off3.mem h
  have ha : ∀ b ∈ V.adr, b ≠ I ∧ b ≠ C ∧ b ≠ D := by
    intro b hb
    have : ∃ o, (b, o) ∈ V.led w line tl push pn p tp rest := by
      simp only [MV.adr, List.mem_cons, List.not_mem_nil, or_false] at hb
      rcases hb with rfl | rfl | rfl | rfl | rfl | rfl | rfl | rfl | rfl | rfl | rfl
      all_goals first
        | exact ⟨_, List.mem_of_getElem? (i := 0) rfl⟩
        | exact ⟨_, List.mem_of_getElem? (i := 1) rfl⟩
        | exact ⟨_, List.mem_of_getElem? (i := 2) rfl⟩
        | exact ⟨_, List.mem_of_getElem? (i := 3) rfl⟩
        | exact ⟨_, List.mem_of_getElem? (i := 4) rfl⟩
        | exact ⟨_, List.mem_of_getElem? (i := 5) rfl⟩
        | exact ⟨_, List.mem_of_getElem? (i := 6) rfl⟩
        | exact ⟨_, List.mem_of_getElem? (i := 7) rfl⟩
        | exact ⟨_, List.mem_of_getElem? (i := 8) rfl⟩
        | exact ⟨_, List.mem_of_getElem? (i := 9) rfl⟩
        | exact ⟨_, List.mem_of_getElem? (i := 10) rfl⟩
    obtain ⟨o, ho⟩ := this
    exact hm _ ho
  intro q hq b hb
  have := ha b hb
  rcases List.mem_cons.mp hq with rfl | hq
  · exact Ne.symm this.1
  rcases List.mem_cons.mp hq with rfl | hq
  · exact Ne.symm this.2.1
  rcases List.mem_cons.mp hq with rfl | hq
  · exact Ne.symm this.2.2
  · exact ho q hq b hb
end
end Mine
end
section
open PySem PySem.W PyProof.Rows PySem.Spec PySem.Calls
namespace Mine
section
variable {a b c x y : Addr × Obj} {base : List (Addr × Obj)} {h₀ h : Heap} {L : Addr}
theorem perm4 (N : News h₀ L h (a :: b :: c :: x :: base)) : News h₀ L h (x :: a :: b :: c :: base) := News.pick N ([a, b, c, x]) base [3, 0, 1, 2] rfl rfl
theorem perm5 (N : News h₀ L h (a :: b :: c :: x :: y :: base)) : News h₀ L h (x :: y :: a :: b :: c :: base) := News.pick N ([a, b, c, x, y]) base [3, 4, 0, 1, 2] rfl rfl
theorem perm5' (N : News h₀ L h (x :: y :: a :: b :: c :: base)) : News h₀ L h (a :: b :: c :: x :: y :: base) := News.pick N ([x, y, a, b, c]) base [2, 3, 4, 0, 1] rfl rfl
end
/-- the code table of the int reader: untouched, or with the one code object -/
def TabI (base nw : List (Addr × Obj)) : Prop := nw = (31, tabObj #[]) :: base ∨ ∃ c oc, CodeO oc ∧ nw = (c, oc) :: (31, tabS c) :: base
/-- one turn of the comprehension that reads the ints -/
theorem ifs_turn {w : World} {loose : List Str} {mean : ExcName → Option Value} {mg mb : Str → Option Value} {dp un : Nat} {gd : Option (List Code)} {cn : Str} {cs : Scope} {a : Addr} {ccd : Value} {cl : List (Str × Addr)} {outer : List Env} {A₀ : Around} {base0 h₀ : Heap} {L : Addr} {m : Str → Option Value} {s s9 : Shared} {E : Value → Shared → Prop}
    (B : Below A₀ base0 outer h₀) (F : Fr h₀ L s.heap m) (X : (hd.heap_1 w.params).In h₀) (T : Top topProg loose mean mg mb h₀) (C1 : CodeHd base0 117 113) (C2 : CodeHd base0 35 31) (hk : cs.kind = .function) (h1 : dp + 8 < recursionLimit) (h2 : un + 80 < cLine)
    {I C D : Addr} {oI oC oD : Obj} {nw base : List (Addr × Obj)} (N : News h₀ L s.heap ((I, oI) :: (C, oC) :: (D, oD) :: nw)) (off : LCg.Off3 I C D nw) (hT : TabI base nw) (hb : OwnOff base [31]) (x : Str) (tx : Tok) (n : Nat) (hx : x.length ≤ 6) (hz : Txt.replace (Txt.rstrip x) (Str.ofString "_") (Str.ofString "") = numT (n : Int)) (hn : n < 17)
    {R : Value → List (Addr × Obj) → Prop} (hs : ∃ h dr tk, s = { s9 with heap := h, drawn := dr, toks := tk }) (hR : ∀ t nw', TabI base nw' → R (.int (n : Int) t) nw') :
    wpAny (model PySem.Challenge.rw_sh0031_01.row.prog w) (ktrTop dp un gd cn cs L a ccd cl outer) (call (.ref 43) [.str x tx]) (CEnd (fun _ => True) h₀ L m s9 [(I, oI), (C, oC), (D, oD)] I C D R) E s := by
  have hm := LCg.Off3.mem off
  have hzl : (numT (n : Int)).length ≤ 4 := Nat.le_trans (num_len n hn) (by decide)
  obtain ⟨hh, dr, tk, rfl⟩ := hs
  rcases hT with rfl | ⟨c, oc, ho, rfl⟩
  · have h31 := hm (31, tabObj #[]) (.head _)
    have hoff : OwnOff ((I, oI) :: (C, oC) :: (D, oD) :: base) [31] := by
      intro q hq b hb'
      rw [List.mem_singleton.mp hb']
      rcases List.mem_cons.mp hq with rfl | hq
      · exact Ne.symm h31.1
      rcases List.mem_cons.mp hq with rfl | hq
      · exact Ne.symm h31.2.1
      rcases List.mem_cons.mp hq with rfl | hq
      · exact Ne.symm h31.2.2
      · exact hb q hq 31 (.head _)
    refine (ifs_ok x _ tx hx hz _ _ fun tz => inner1_ok (numT (n : Int)) tz (n : Int) hzl (read_int n hn) ((I, oI) :: (C, oC) :: (D, oD) :: base) hoff).use B F X (perm4 N) T C1 C2 hk h1 h2 ?_
    rintro v' h' dr' tk' news' ⟨t, c, oc, rfl, ho, rfl, lc, lb⟩ F' N'
    refine ⟨h', dr', tk', _, trivial, rfl, F', perm5' N', ?_, hR t _ (.inr ⟨c, oc, ho, rfl⟩)⟩
    have lI : @LT.lt Nat _ I c := lb.1
    have lC : @LT.lt Nat _ C c := lb.2.1
    have lD : @LT.lt Nat _ D c := lb.2.2.1
    exact ⟨⟨Ne.symm (Nat.ne_of_lt lI), Ne.symm (Nat.ne_of_lt lC), Ne.symm (Nat.ne_of_lt lD)⟩, off⟩
  · refine (ifs_ok x _ tx hx hz _ _ fun tz => inner2_ok (numT (n : Int)) tz (n : Int) hzl (read_int n hn) c oc ho ((I, oI) :: (C, oC) :: (D, oD) :: base)).use B F X (perm5 N) T C1 C2 hk h1 h2 ?_
    rintro v' h' dr' tk' news' ⟨t, rfl, rfl⟩ F' N'
    exact ⟨h', dr', tk', _, trivial, rfl, F', perm5' N', off, hR t _ (.inr ⟨c, oc, ho, rfl⟩)⟩
end Mine
end
section
open PySem PySem.W PyProof.Rows PySem.Spec PySem.Calls
namespace Mine
theorem own_of {V : MV} (hV : V.Ok) {l : List (Addr × Obj)} (h : AllLt V.cTx l) : OwnOff l V.adr := by
  obtain ⟨p1, p2, p3, p4, p5, p6, p7, p8, p9, p10, p11⟩ := hV
  intro q hq b hb
  have l := AllLt.at h hq
  have g : @LE.le Nat _ V.cTx b := by
    simp only [MV.adr, List.mem_cons, List.not_mem_nil, or_false] at hb
    rcases hb with rfl | rfl | rfl | rfl | rfl | rfl | rfl | rfl | rfl | rfl | rfl <;> omega
  exact neN (Nat.ne_of_lt (Nat.lt_of_lt_of_le l g))
theorem tenAt {f : Nat → Str} {t0 t1 t2 t3 t4 t5 t6 t7 t8 t9 : Tok} : ∀ {i : Nat} {v : Value}, (#[Value.str (f 0) t0, .str (f 1) t1, .str (f 2) t2, .str (f 3) t3, .str (f 4) t4, .str (f 5) t5, .str (f 6) t6, .str (f 7) t7, .str (f 8) t8, .str (f 9) t9] : Array Value)[i]? = some v → ∃ t, v = .str (f i) t
  | 0, _, h => ⟨t0, (Option.some.inj h).symm⟩
  | 1, _, h => ⟨t1, (Option.some.inj h).symm⟩
  | 2, _, h => ⟨t2, (Option.some.inj h).symm⟩
  | 3, _, h => ⟨t3, (Option.some.inj h).symm⟩
  | 4, _, h => ⟨t4, (Option.some.inj h).symm⟩
  | 5, _, h => ⟨t5, (Option.some.inj h).symm⟩
  | 6, _, h => ⟨t6, (Option.some.inj h).symm⟩
  | 7, _, h => ⟨t7, (Option.some.inj h).symm⟩
  | 8, _, h => ⟨t8, (Option.some.inj h).symm⟩
  | 9, _, h => ⟨t9, (Option.some.inj h).symm⟩
  | n + 10, _, h => by simp at h
theorem news_last {h₀ h : Heap} {L : Addr} {a b y : Addr × Obj} {pre : List (Addr × Obj)} (N : News h₀ L h (a :: b :: (pre ++ [y]))) : News h₀ L h (y :: a :: pre) := fun q hq => N q (by
  simp only [List.mem_cons, List.mem_append, List.not_mem_nil, or_false] at hq ⊢
  rcases hq with h | h | h
  · exact .inr (.inr (.inr h))
  · exact .inl h
  · exact .inr (.inr (.inl h)))
theorem take_snoc {ls : List Int} {i : Nat} (h : i < ls.length) : ls.take (i + 1) = ls.take i ++ [ls.getD i 0] := by
  rw [List.take_add_one, List.getD_eq_getElem?_getD, List.getElem?_eq_getElem h]; rfl
end Mine
end
section
open PySem PySem.W PyProof.Rows PySem.Spec PySem.Calls
namespace Mine
def wdF (i j : Nat) : Str := ⟨(List.replicate (i + 1) 114 ++ List.replicate (4 - i - j) 98).toArray⟩
def wordsF (i j : Nat) : List Str := ((List.range i).flatMap fun a => (List.range (4 - a)).map (wdF a)) ++ (List.range j).map (wdF i)
def WordsT (i j : Nat) (ys : List Value) : Prop := i ≤ 4 ∧ j ≤ 4 ∧ StrsAre ys (wordsF i j)
theorem words_step {i : Nat} {ys : List Value} (hi : i < 4) (h : WordsT i (4 - i) ys) : WordsT (i + 1) 0 ys := by
  refine ⟨hi, Nat.zero_le _, ?_⟩
  rw [← (by decide +kernel : ∀ i : Nat, i < 4 → wordsF i (4 - i) = wordsF (i + 1) 0) i hi]
  exact h.2.2
theorem words_len {i j : Nat} {ys : List Value} (h : WordsT i j ys) : ys.length ≤ sizeLine := by
  obtain ⟨h1, h2, h3⟩ := h
  rw [StrsAre.length h3]
  exact Nat.le_trans ((by decide +kernel : ∀ i, i < 5 → ∀ j, j < 5 → (wordsF i j).length ≤ 20) i (by omega) j (by omega)) (by decide)
theorem words_all {ys : List Value} (h : WordsT 4 0 ys) : StrsAre ys W10 := by
  rw [← (by decide +kernel : wordsF 4 0 = W10)]; exact h.2.2
theorem words_snoc {i j : Nat} {ys : List Value} {t : Tok} (hi : i < 4) (hj : j < 4 - i) (h : WordsT i j ys) : WordsT i (j + 1) (ys ++ [.str (Txt.mul (Str.ofString "r") ((i : Int) + 1) ++ Txt.mul (Str.ofString "b") (4 - (i : Int) - (j : Int))) t]) := by
  refine ⟨h.1, by omega, ?_⟩
  have e : wordsF i (j + 1) = wordsF i j ++ [wdF i j] := by unfold wordsF; rw [List.range_succ, List.map_append, List.append_assoc]; rfl
  rw [e, (by decide +kernel : ∀ i : Nat, i < 4 → ∀ j : Nat, j < 4 - i → Txt.mul (Str.ofString "r") ((i : Int) + 1) ++ Txt.mul (Str.ofString "b") (4 - (i : Int) - (j : Int)) = wdF i j) i hi j hj]
  exact StrsAre.append h.2.2 (.cons _ _ .nil)
theorem rs_small {i : Nat} (h : i < 4) : Builtin.Range.small 0 (4 - (i : Int)) 1 = true := (by decide +kernel : ∀ i : Nat, i < 4 → Builtin.Range.small 0 (4 - (i : Int)) 1 = true) i h
theorem rs_size {i : Nat} (h : i < 4) : Builtin.Range.rangeSize 0 (4 - (i : Int)) 1 = ((4 - i : Nat) : Int) := (by decide +kernel : ∀ i : Nat, i < 4 → Builtin.Range.rangeSize 0 (4 - (i : Int)) 1 = ((4 - i : Nat) : Int)) i h
end Mine
namespace Mine
theorem ints_at : ∀ {us : List Value} {ls : List Int}, IntsAre us ls → ∀ {k : Nat}, k < ls.length → ∃ t, us[k]? = some (.int (ls.getD k 0) t)
  | _, _, .nil, _, h => by simp at h
  | _, _, .cons n t r, 0, _ => ⟨t, rfl⟩
  | _, _, .cons n t r, k + 1, h => by obtain ⟨t', e⟩ := ints_at r (k := k) (by simpa using h); exact ⟨t', by simpa using e⟩
theorem strs_at : ∀ {us : List Value} {ls : List Str}, StrsAre us ls → ∀ {k : Nat}, k < ls.length → ∃ t, us[k]? = some (.str (ls.getD k ⟨#[]⟩) t)
  | _, _, .nil, _, h => by simp at h
  | _, _, .cons n t r, 0, _ => ⟨t, rfl⟩
  | _, _, .cons n t r, k + 1, h => by obtain ⟨t', e⟩ := strs_at r (k := k) (by simpa using h); exact ⟨t', by simpa using e⟩
def OnT (ls : List Int) (q : Int → Bool) (i : Nat) (ys : List Value) : Prop := StrsAre ys (((List.range i).filter fun k => q (ls.getD k 0)).map Wd)
section
variable {ls : List Int} {q : Int → Bool} {i : Nat} {ys : List Value}
theorem on_t {t : Tok} (h : OnT ls q i ys) (hq : q (ls.getD i 0) = true) : OnT ls q (i + 1) (ys ++ [.str (Wd i) t]) := by
  unfold OnT
  rw [List.range_succ, List.filter_append, List.map_append, List.filter_cons, if_pos hq]
  exact StrsAre.append h (.cons _ _ .nil)
theorem on_f (h : OnT ls q i ys) (hq : q (ls.getD i 0) = false) : OnT ls q (i + 1) ys := by
  unfold OnT
  rw [List.range_succ, List.filter_append, List.map_append, List.filter_cons, if_neg (by rw [hq]; exact Bool.false_ne_true), List.filter_nil, List.map_nil, List.append_nil]
  exact h
theorem on_size (hi : i ≤ 10) (h : OnT ls q i ys) : ys.length ≤ sizeLine := by
  rw [StrsAre.length h, List.length_map]
  refine Nat.le_trans (List.length_filter_le _ _) ?_
  rw [List.length_range]
  exact Nat.le_trans hi (by decide)
end
theorem lv_parts {ls : List Int} (hl : ls.length = 10) (hv : ∀ k : Nat, k < 10 → Lv (ls.getD k 0)) : LvL (ls.take 4) ∧ LvL ((ls.drop 4).take 3) ∧ LvL ((ls.drop 7).take 2) ∧ LvL (ls.drop 9) := by
  obtain ⟨a0, a1, a2, a3, a4, a5, a6, a7, a8, a9, rfl⟩ := lev_ten hl
  have h0 := hv 0 (by decide); have h1 := hv 1 (by decide); have h2 := hv 2 (by decide); have h3 := hv 3 (by decide); have h4 := hv 4 (by decide)
  have h5 := hv 5 (by decide); have h6 := hv 6 (by decide); have h7 := hv 7 (by decide); have h8 := hv 8 (by decide); have h9 := hv 9 (by decide)
  refine ⟨?_, ?_, ?_, ?_⟩
  · intro j hj
    match j, hj with
    | 0, _ => exact h0
    | 1, _ => exact h1
    | 2, _ => exact h2
    | 3, _ => exact h3
    | n + 4, hj => simp at hj; omega
  · intro j hj
    match j, hj with
    | 0, _ => exact h4
    | 1, _ => exact h5
    | 2, _ => exact h6
    | n + 3, hj => simp at hj; omega
  · intro j hj
    match j, hj with
    | 0, _ => exact h7
    | 1, _ => exact h8
    | n + 2, hj => simp at hj; omega
  · intro j hj
    match j, hj with
    | 0, _ => exact h9
    | n + 1, hj => simp at hj
end Mine
end
section
open PySem PySem.W PyProof.Rows PySem.Spec PySem.Calls
namespace Mine
theorem led_low {w : World} {V : MV} (hV : V.Ok) {line : Int} {tl : Tok} {push : List Value} {pn : Nat} {p : Int} {tp : Tok} {rest : List (Addr × Obj)} {I : Addr} (h : @LT.lt Nat _ I 113) (hr : ∀ q ∈ rest, q.1 ≠ I) : ∀ q ∈ V.led w line tl push pn p tp rest, q.1 ≠ I := by
  obtain ⟨o1, o2, o3, o4, o5, o6, o7, o8, o9, o10, o11⟩ := hV
  intro q hq
  simp only [MV.led, List.mem_cons] at hq
  rcases hq with rfl | rfl | rfl | rfl | rfl | rfl | rfl | rfl | rfl | rfl | rfl | hq
  all_goals first
    | exact hr q hq
    | (refine neN ?_; dsimp only; omega)
theorem hideQE {α : Type} {M : Model} {A : Around} {t : Sem α} {Q : α → Shared → Prop} {E : Value → Shared → Prop} {s : Shared} (h : ∀ (Q' : α → Shared → Prop) (E' : Value → Shared → Prop), (∀ v s, Q v s → Q' v s) → (∀ v s, E v s → E' v s) → wpAny M A t Q' E' s) : wpAny M A t Q E s := h Q E (fun _ _ q => q) (fun _ _ q => q)
inductive SeenT (w : World) (V : MV) (LS SS : List Int) (rest : List (Addr × Obj)) (i : Nat) (ys : List Value) (nw : List (Addr × Obj)) : Prop
  | mk : ∀ pn' tl' tp' p', nw = V.led w (1 + nl (tailT LS SS 10 0) - nl (dr (textF LS SS 10) p')) tl' [] pn' ((p' : Nat) : Int) tp' rest →
      StrsAre ys ((List.range i).map fun j => (⟨(tokAt (tailT LS SS 10 0) j).toArray⟩ : Str)) → p' ≤ (textF LS SS 10).length → dr (textF LS SS 10) p' = restN (tailT LS SS 10 0) i → SeenT w V LS SS rest i ys nw
theorem lvl_get (ns : List Int) {k : Nat} (hk : k < 10) : ((List.range 10).map (lvlF ns)).getD k 0 = lvlF ns k := by
  rw [List.getD_eq_getElem?_getD, List.getElem?_map, List.getElem?_range hk]; rfl
theorem lvl_bd (ns : List Int) (k : Nat) : 0 ≤ lvlF ns k ∧ lvlF ns k ≤ 16 := by
  unfold lvlF
  have h1 := fmod_lo (stockL.getD k 0 + moreF ns k) (show (0 : Int) < 17 by decide)
  have h2 := fmod_hi (stockL.getD k 0 + moreF ns k) (show (0 : Int) < 17 by decide)
  omega
theorem textF_len {ls ss : List Int} (h : ∀ k : Nat, k < 10 → 0 ≤ ls.getD k 0 ∧ ls.getD k 0 ≤ 16) : ∀ k : Nat, k ≤ 10 → (textF ls ss k).length ≤ 6 * k
  | 0, _ => Nat.le_refl _
  | k + 1, hk => text_len (h k hk) (textF_len h k (by omega))
theorem news_mach {h₀ h : Heap} {L : Addr} {a b c d e f x y : Addr × Obj} (N : News h₀ L h [a, b, c, d, e, f, x, y]) : News h₀ L h [x, a, b, c, d, e, f, y] := News.pick N ([a, b, c, d, e, f, x, y]) [] [6, 0, 1, 2, 3, 4, 5, 7] rfl rfl
theorem own_keys {l l' : List (Addr × Obj)} {b : List Addr} (h : OwnOff l b) (e : l'.map (·.1) = l.map (·.1)) : OwnOff l' b := fun q hq c hc => by
  have hm : q.1 ∈ l.map (·.1) := e ▸ List.mem_map_of_mem hq
  obtain ⟨q', hq', e'⟩ := List.mem_map.mp hm
  rw [← e']
  exact h q' hq' c hc
theorem news_j1 {w : World} {V : MV} {line : Int} {tl : Tok} {push : List Value} {pn : Nat} {p : Int} {tp : Tok} {x y z : Addr × Obj} {rest : List (Addr × Obj)} {h₀ h : Heap} {L : Addr} (N : News h₀ L h (x :: y :: z :: V.led w line tl push pn p tp rest)) :
    News h₀ L h (V.led w line tl push pn p tp (y :: x :: z :: rest)) := News.pick N (x :: y :: z :: V.led w line tl push pn p tp []) rest [3, 4, 5, 6, 7, 8, 9, 10, 11, 12, 13, 1, 0, 2] rfl rfl
theorem news_j2 {w : World} {V : MV} {line : Int} {tl : Tok} {push : List Value} {pn : Nat} {p : Int} {tp : Tok} {rest : List (Addr × Obj)} {h₀ h : Heap} {L : Addr} (N : News h₀ L h (V.led w line tl push pn p tp rest)) :
    News h₀ L h (V.led w line tl push pn p tp rest) := N
theorem news_back {w : World} {V : MV} {line : Int} {tl : Tok} {push : List Value} {pn : Nat} {p : Int} {tp : Tok} {x y z a b c d e f g : Addr × Obj} {h₀ h : Heap} {L : Addr} (N : News h₀ L h (x :: y :: z :: V.led w line tl push pn p tp [a, b, c, d, e, f, g])) :
    News h₀ L h (x :: V.led w line tl push pn p tp [a, b, c, d, e, f, g, y]) := News.pick N (x :: y :: z :: V.led w line tl push pn p tp [a, b, c, d, e, f, g]) [] [0, 3, 4, 5, 6, 7, 8, 9, 10, 11, 12, 13, 14, 15, 16, 17, 18, 19, 20, 1] rfl rfl
theorem news_back2 {w : World} {V : MV} {line : Int} {tl : Tok} {push : List Value} {pn : Nat} {p : Int} {tp : Tok} {x y z u a b c d e f g : Addr × Obj} {h₀ h : Heap} {L : Addr} (N : News h₀ L h (x :: u :: y :: z :: V.led w line tl push pn p tp [a, b, c, d, e, f, g])) :
    News h₀ L h (x :: V.led w line tl push pn p tp [a, b, c, d, e, f, g, y]) := News.pick N (x :: u :: y :: z :: V.led w line tl push pn p tp [a, b, c, d, e, f, g]) [] [0, 4, 5, 6, 7, 8, 9, 10, 11, 12, 13, 14, 15, 16, 17, 18, 19, 20, 21, 2] rfl rfl
section
theorem law_test : PySem.Challenge.rw_sh0031_01.Holds := hd (by
  k_with_none; w_top off
  k_with "call ref" => ((with_reducible show wpAny _ _ (call (Value.ref _) _) _ _ _); refine Hold.h ?_)
  k_with "compareOp NotEq ref ref" => ((with_reducible show wpAny _ _ (compareOp _ (Value.ref _) (Value.ref _)) _ _ _); refine Hold.h ?_)
  k_with "eval ListComp" => (k_here; k_dflt (refine ListComp_mine (by with_unfolding_all rfl) (by rfl) (by decide) ?_))
  k_with "exec Assign cons ListComp" => (k_here; k_dflt (refine Assign_ListComp_mine (by with_unfolding_all rfl) (by with_unfolding_all rfl) (by rfl) (by decide) ?_))
  k_with "exec Assign cons ListComp" => ((with_reducible show wpAny _ _ (exec (Stmt.Assign _ (Expr.ListComp _ [_, _] _ _) _) _) _ _ _); refine wpAny_Assign_Name ?_ (by with_unfolding_all rfl))
  k_with "exec Assign cons ListComp" => ((with_reducible show wpAny _ _ (exec (Stmt.Assign _ (Expr.ListComp _ [⟨_, _, [_], _⟩] _ _) _) _) _ _ _); k_here; k_dflt (refine Assign_ListComp_test (by with_unfolding_all rfl) (by with_unfolding_all rfl) (by rfl) (by decide) ?_))
  k_with "subscriptTail Name Name ref int" => ((with_reducible show wpAny _ _ (subscriptTail (Expr.Name _ _) (Expr.Name _ _) (Value.ref _) (Value.int _ _)) _ _ _); refine Hold.h ?_)
  k_with "eval ListComp" => ((with_reducible show wpAny _ _ (eval (Expr.ListComp _ [_, _] _ _) _) _ _ _); k_dflt (refine ListComp2_mine (by with_unfolding_all rfl) (by rfl) (by decide) ?_))
  k_go0
  all_goals try k_fold
  refine hideQE ?_
  intro Q9 E9 hQ9 _
  k_steps
  refine ⟨?_⟩
  rename List Int => ns0
  rename World => w0
  rename Shared => s1
  rename IntsAre _ _ => hI
  rename ¬ (63 : Int) < _ => hn63
  rename CodeHd _ (117, 113).1 _ => cA
  rename CodeHd _ (35, 31).1 _ => cB
  rename Heap.IsList (ghostOf _ _) _ _ => lifted
  rename Below _ _ _ _ => B0
  rename Fr (ghostOf _ _) _ _ _ => F0
  rename News (ghostOf _ _) _ _ _ => N0
  rename (hd.heap_1 _).In (ghostOf _ _) => X0
  rename Top _ _ _ _ _ (ghostOf _ _) => T0
  refine wpAny_call ?_
  refine drawn_ok _ _ _ hI ?hn _ _ _ _ _ _ _ _ _ _ _ _ _ _ _ _ _ _ _ _ _ _ lifted B0 F0 X0 N0 T0 cA cB ?k6 ?k7 ?k8 ?_
  case hn => omega
  case k6 => rfl
  case k7 => decide
  case k8 => decide +kernel
  clear F0 N0
  rintro v' h2 tk2 news2 ⟨TT, lL, lS, us1, c1, us2, c2, rfl, rfl, iS, iL, o1, o2, o3⟩ F1 N1
  have l1 := all_of_lt o3
  k_lt l1
  clear o3
  dsimp only
  k_steps
  refine ⟨?_⟩
  rename News (ghostOf _ _) _ _ _ => N2
  have hlv : ∀ k : Nat, k < 10 → 0 ≤ ((List.range 10).map (lvlF ns0)).getD k 0 ∧ ((List.range 10).map (lvlF ns0)).getD k 0 ≤ 16 := fun k hk => by rw [lvl_get _ hk]; exact lvl_bd _ k
  refine' (text_ok lL lS us1 us2 _ _ c1 c2 iS iL (by simp) (by simp) hlv _ o1 ?o2).use ?k1 ?k2 ?k3 (fun z hz => N2 z (.tail _ hz)) ?k5 ?c1 ?c2 ?k6 ?k7 ?k8 ?_
  case o2 => ((repeat (refine And.intro ?_ ?_; focus (dsimp only; krn_ne))); trivial)
  case k1 => k_asm
  case k2 => k_asm
  case k3 => k_asm
  case k5 => k_asm
  case c1 => assumption
  case c2 => assumption
  case k6 => rfl
  case k7 => decide
  case k8 => decide +kernel
  clear N2
  rintro v' h3 tk3 news3 ⟨tt, rfl, rfl⟩ F3 N3
  dsimp only
  k_steps
  refine ⟨?_⟩
  rename News (ghostOf _ _) _ _ _ => N4
  refine' (mach_ok _ _ ?hx _ ?hoff).use ?k1 ?k2 ?k3 (news_mach N4) ?k5 ?c1 ?c2 ?k6 ?k7 ?k8 ?_
  case hx => exact Nat.le_trans (textF_len hlv 10 (Nat.le_refl _)) (by decide)
  case hoff =>
    intro q hq b hb
    rw [List.mem_singleton.mp hb]
    simp only [List.mem_cons, List.not_mem_nil, or_false] at hq
    rcases hq with rfl | rfl | rfl | rfl | rfl | rfl | rfl
    all_goals (refine neN ?_; dsimp only; omega)
  case k1 => k_asm
  case k2 => k_asm
  case k3 => k_asm
  case k5 => k_asm
  case c1 => assumption
  case c2 => assumption
  case k6 => rfl
  case k7 => decide
  case k8 => decide +kernel
  clear N4
  rintro v' h4 tk4 news4 ⟨V, tl, pn, tp, ps, hV, hR, hlt, rfl, rfl⟩ F5 N5
  have l2 := all_of_lt hlt
  k_lt l2
  clear hlt
  have hV' := hV
  obtain ⟨p1, p2, p3, p4, p5, p6, p7, p8, p9, p10, p11⟩ := hV'
  have zhg0 : @LT.lt Nat _ (s1.heap.objs.size + 1 + 1 + 1 + 1) V.cTx := by simp only [l2]
  have zhg1 := Nat.lt_trans zhg0 p2
  have zhg2 := Nat.lt_trans zhg1 p3
  have zhg3 := Nat.lt_trans zhg2 p4
  have zhg4 := Nat.lt_trans zhg3 p5
  have zhg5 := Nat.lt_trans zhg4 p6
  have zhg6 := Nat.lt_trans zhg5 p7
  have zhg7 := Nat.lt_trans zhg6 p8
  have zhg8 := Nat.lt_trans zhg7 p9
  have zhg9 := Nat.lt_trans zhg8 p10
  have zhg10 := Nat.lt_trans zhg9 p11
  have zhh0 := Nat.lt_of_succ_lt zhg0
  have zhh1 := Nat.lt_of_succ_lt zhg1
  have zhh2 := Nat.lt_of_succ_lt zhg2
  have zhh3 := Nat.lt_of_succ_lt zhg3
  have zhh4 := Nat.lt_of_succ_lt zhg4
  have zhh5 := Nat.lt_of_succ_lt zhg5
  have zhh6 := Nat.lt_of_succ_lt zhg6
  have zhh7 := Nat.lt_of_succ_lt zhg7
  have zhh8 := Nat.lt_of_succ_lt zhg8
  have zhh9 := Nat.lt_of_succ_lt zhg9
  have zhh10 := Nat.lt_of_succ_lt zhg10
  have zhi0 := Nat.lt_of_succ_lt zhh0
  have zhi1 := Nat.lt_of_succ_lt zhh1
  have zhi2 := Nat.lt_of_succ_lt zhh2
  have zhi3 := Nat.lt_of_succ_lt zhh3
  have zhi4 := Nat.lt_of_succ_lt zhh4
  have zhi5 := Nat.lt_of_succ_lt zhh5
  have zhi6 := Nat.lt_of_succ_lt zhh6
  have zhi7 := Nat.lt_of_succ_lt zhh7
  have zhi8 := Nat.lt_of_succ_lt zhh8
  have zhi9 := Nat.lt_of_succ_lt zhh9
  have zhi10 := Nat.lt_of_succ_lt zhh10
  have zhk01 : @LT.lt Nat _ (s1.heap.objs.size + 1) (s1.heap.objs.size + 1 + 1) := by omega
  have zhk02 : @LT.lt Nat _ (s1.heap.objs.size + 1) (s1.heap.objs.size + 1 + 1 + 1) := by omega
  have zhk03 : @LT.lt Nat _ (s1.heap.objs.size + 1) (s1.heap.objs.size + 1 + 1 + 1 + 1) := by omega
  have zhk12 : @LT.lt Nat _ (s1.heap.objs.size + 1 + 1) (s1.heap.objs.size + 1 + 1 + 1) := by omega
  have zhk13 : @LT.lt Nat _ (s1.heap.objs.size + 1 + 1) (s1.heap.objs.size + 1 + 1 + 1 + 1) := by omega
  have zhk23 : @LT.lt Nat _ (s1.heap.objs.size + 1 + 1 + 1) (s1.heap.objs.size + 1 + 1 + 1 + 1) := by omega
  have zhl0 : @LT.lt Nat _ 113 s1.heap.objs.size := by omega
  have zhm0 : @LT.lt Nat _ 113 (s1.heap.objs.size + 1) := Nat.lt_succ_of_lt zhl0
  have zhn0 : @LT.lt Nat _ 31 (s1.heap.objs.size + 1) := Nat.lt_trans (by decide) zhm0
  have zhm1 : @LT.lt Nat _ 113 (s1.heap.objs.size + 1 + 1) := Nat.lt_succ_of_lt zhm0
  have zhn1 : @LT.lt Nat _ 31 (s1.heap.objs.size + 1 + 1) := Nat.lt_trans (by decide) zhm1
  have zhm2 : @LT.lt Nat _ 113 (s1.heap.objs.size + 1 + 1 + 1) := Nat.lt_succ_of_lt zhm1
  have zhn2 : @LT.lt Nat _ 31 (s1.heap.objs.size + 1 + 1 + 1) := Nat.lt_trans (by decide) zhm2
  have zhm3 : @LT.lt Nat _ 113 (s1.heap.objs.size + 1 + 1 + 1 + 1) := Nat.lt_succ_of_lt zhm2
  have zhn3 : @LT.lt Nat _ 31 (s1.heap.objs.size + 1 + 1 + 1 + 1) := Nat.lt_trans (by decide) zhm3
  have zhn9 : @LT.lt Nat _ 31 113 := by decide
  dsimp only [MV.led] at N5
  dsimp only
  k_steps
  rename IsRange _ _ _ _ _ _ _ _ => rg9
  rename Fr (ghostOf _ _) _ _ _ => F6
  rename News (ghostOf _ _) _ _ _ => N6'
  obtain ⟨o4, o3, oM, oL, hoM, hoL, ho3, ho4, N6⟩ : ∃ (o4 o3 oM oL : Obj), oM.data = Data.cell (some (.ref V.x)) ∧ oL.data = .cell (some (.ref lL)) ∧ o3.data = .cell none ∧ o4.data = .cell none ∧ News (ghostOf s1.heap [(117, 113), (35, 31)]) s1.heap.objs.size _ (V.led w0 1 tl [] pn ((0 : Nat) : Int) tp [(113, tabObj ps), (lS, W.listOf us1.toArray c1), (lL, W.listOf us2.toArray c2), (s1.heap.objs.size + 1 + 1 + 1 + 1, o4), (s1.heap.objs.size + 1 + 1 + 1, o3), (s1.heap.objs.size + 1 + 1, oM), (s1.heap.objs.size + 1, oL), (31, tabObj #[])]) := ⟨_, _, _, _, by assumption, by assumption, by assumption, by assumption, N6'⟩
  clear N6'
  have hlv' := hlv
  generalize hLS : (List.range 10).map (lvlF ns0) = LS at *
  generalize hSS : (List.range 10).map (styF ns0) = SS at *
  have hX0 : dr (textF LS SS 10) 0 = tailT LS SS 10 0 := by
    show (textF LS SS 10).cps.toList.drop 0 = _
    rw [List.drop_zero, text_all]
  have hx92 := text_92 (ls := LS) (ss := SS) hlv
  have hxl : (textF LS SS 10).length ≤ 1000 := Nat.le_trans (textF_len hlv 10 (Nat.le_refl _)) (by decide)
  have hown : OwnOff [(113, tabObj ps), (lS, W.listOf us1.toArray c1), (lL, W.listOf us2.toArray c2), (s1.heap.objs.size + 1 + 1 + 1 + 1, o4), (s1.heap.objs.size + 1 + 1 + 1, o3), (s1.heap.objs.size + 1 + 1, oM), (s1.heap.objs.size + 1, oL), (31, tabObj #[])] V.adr := own_of hV (by obtain ⟨q1, q2, q3, q4, q5, q6, q7, q8⟩ := l2; exact ⟨q1, q2, q3, q4, q5, q6, q7, q8, trivial⟩)
  refine' CIterG.rangeA (n := 11) (Dr := fun d => d = s1.drawn) (T := SeenT w0 V LS SS [(113, tabObj ps), (lS, W.listOf us1.toArray c1), (lL, W.listOf us2.toArray c2), (s1.heap.objs.size + 1 + 1 + 1 + 1, o4), (s1.heap.objs.size + 1 + 1 + 1, o3), (s1.heap.objs.size + 1 + 1, oM), (s1.heap.objs.size + 1, oL), (31, tabObj #[])]) ?hy ?hp ?hcell ?hkind ?hx ?hh ?F ?N ?rg ?hsm ?hn ?hz ?h0 ?hDr ?turn ?fin
  case F => exact F6
  case N => exact N6
  case rg => exact rg9
  case hy => rfl
  case hp => rfl
  case hcell => decide
  case hkind => rfl
  case hx => rfl
  case hh => rfl
  case hsm => decide
  case hn => rfl
  case hz => decide
  case hDr => rfl
  case h0 => exact ⟨_, _, _, 0, by rw [hX0]; congr 1; omega, .nil, Nat.zero_le _, hX0⟩
  case turn =>
    clear F6 N6 rg9
    rintro i ys nw v I oI C oC D m₂ h dw tk E' hi hlen ⟨pn', tl', tp', p', rfl, hS, hp, hd⟩ ⟨tv, rfl⟩ hC hx F9 N9 off ne rfl
    k_steps
    refine ⟨?_⟩
    rename News (ghostOf _ _) _ _ _ => N10
    refine' (tok_ok V hV (textF LS SS 10) hR hx92 hxl _ tl' pn' p' tp' _ hp (off3_own (oI := oI) (oC := oC) (oD := LCg.lst ys) off hown)).use ?k1 ?k2 ?k3 (news_rot3 N10) ?k5 ?c1 ?c2 ?k6 ?k7 ?k8 ?_
    case k1 => k_asm
    case k2 => k_asm
    case k3 => k_asm
    case k5 => k_asm
    case c1 => assumption
    case c2 => assumption
    case k6 => rfl
    case k7 => decide
    case k8 => decide +kernel
    clear N10
    rintro v' h5 tk5 news5 ⟨t5, tl5, tp5, pn5, p5, rfl, hp5, hd5, rfl⟩ F10 N10
    have e5 : 1 + nl (tailT LS SS 10 0) - nl (dr (textF LS SS 10) p') + nl (dr (textF LS SS 10) p') - nl (dr (textF LS SS 10) p5) = 1 + nl (tailT LS SS 10 0) - nl (dr (textF LS SS 10) p5) := by omega
    rw [e5] at N10
    dsimp only
    refine ⟨_, _, _, _, rfl, rfl, F10, news_unrot3 N10, off, _, _, _, _, rfl, ?_, hp5, ?_⟩
    · rw [List.range_succ, List.map_append, hd]
      exact kct_snoc hS
    · rw [hd5, hd]; rfl
  case fin =>
    clear F6 N6 rg9
    rintro ys nw hlen ⟨pn', tl', tp', p', rfl, hS, hp, hd⟩ D h dw tk rfl F9 N9 off
    have hd11 : dr (textF LS SS 10) p' = [] := hd.trans (tok_ten hlv).2
    have e4 : 1 + nl (tailT LS SS 10 0) - nl (dr (textF LS SS 10) p') = 4 := by rw [hd11, nl_text hlv]; rfl
    rw [e4] at N9
    obtain ⟨t0, t1, t2, t3, t4, t5, t6, t7, t8, t9, t10, rfl⟩ := strs11 hS
    have e10 : (⟨(tokAt (tailT LS SS 10 0) 10).toArray⟩ : Str) = Str.ofString "" := by rw [(tok_ten hlv).1]; rfl
    rw [e10] at N9
    clear hS hd hd11 e4 e10
    k_steps
    rename_i D2 hD2 F7 N7 l7
    have hLl : LS.length = 10 := by rw [← hLS]; simp
    obtain ⟨B8, eB8⟩ : ∃ B8, B8 = (D2, W.listOf #[.str ⟨(tokAt (tailT LS SS 10 0) 0).toArray⟩ t0, .str ⟨(tokAt (tailT LS SS 10 0) 1).toArray⟩ t1, .str ⟨(tokAt (tailT LS SS 10 0) 2).toArray⟩ t2, .str ⟨(tokAt (tailT LS SS 10 0) 3).toArray⟩ t3, .str ⟨(tokAt (tailT LS SS 10 0) 4).toArray⟩ t4, .str ⟨(tokAt (tailT LS SS 10 0) 5).toArray⟩ t5, .str ⟨(tokAt (tailT LS SS 10 0) 6).toArray⟩ t6, .str ⟨(tokAt (tailT LS SS 10 0) 7).toArray⟩ t7, .str ⟨(tokAt (tailT LS SS 10 0) 8).toArray⟩ t8, .str ⟨(tokAt (tailT LS SS 10 0) 9).toArray⟩ t9] 0) ::
      V.led w0 4 tl' [] pn' ((p' : Nat) : Int) tp' [(113, tabObj ps), (lS, W.listOf us1.toArray c1), (lL, W.listOf us2.toArray c2), (s1.heap.objs.size + 1 + 1 + 1 + 1, o4), (s1.heap.objs.size + 1 + 1 + 1, o3), (s1.heap.objs.size + 1 + 1, oM), (s1.heap.objs.size + 1, oL)] := ⟨_, rfl⟩
    have N8 : News (ghostOf s1.heap [(117, 113), (35, 31)]) s1.heap.objs.size hD2 ((31, tabObj #[]) :: B8) := by
      rw [eB8]
      exact news_last N7
    have hb8 : OwnOff B8 [31] := by
      intro q hq b hb
      rw [List.mem_singleton.mp hb]
      rw [eB8] at hq
      rcases List.mem_cons.mp hq with rfl | hq
      · exact Nat.ne_of_gt (by simp only [l7])
      · refine led_low hV (by decide) ?_ q hq
        intro q hq
        simp only [List.mem_cons, List.not_mem_nil, or_false] at hq
        rcases hq with rfl | rfl | rfl | rfl | rfl | rfl | rfl
        all_goals (refine neN ?_; dsimp only; omega)
    have hD8 : (D2, W.listOf #[.str ⟨(tokAt (tailT LS SS 10 0) 0).toArray⟩ t0, .str ⟨(tokAt (tailT LS SS 10 0) 1).toArray⟩ t1, .str ⟨(tokAt (tailT LS SS 10 0) 2).toArray⟩ t2, .str ⟨(tokAt (tailT LS SS 10 0) 3).toArray⟩ t3, .str ⟨(tokAt (tailT LS SS 10 0) 4).toArray⟩ t4, .str ⟨(tokAt (tailT LS SS 10 0) 5).toArray⟩ t5, .str ⟨(tokAt (tailT LS SS 10 0) 6).toArray⟩ t6, .str ⟨(tokAt (tailT LS SS 10 0) 7).toArray⟩ t7, .str ⟨(tokAt (tailT LS SS 10 0) 8).toArray⟩ t8, .str ⟨(tokAt (tailT LS SS 10 0) 9).toArray⟩ t9] 0) ∈ B8 := by rw [eB8]; exact .head _
    clear N7
    refine' CIter.list (Dr := fun _ => True) (its := #[.str ⟨(tokAt (tailT LS SS 10 0) 0).toArray⟩ t0, .str ⟨(tokAt (tailT LS SS 10 0) 1).toArray⟩ t1, .str ⟨(tokAt (tailT LS SS 10 0) 2).toArray⟩ t2, .str ⟨(tokAt (tailT LS SS 10 0) 3).toArray⟩ t3, .str ⟨(tokAt (tailT LS SS 10 0) 4).toArray⟩ t4, .str ⟨(tokAt (tailT LS SS 10 0) 5).toArray⟩ t5, .str ⟨(tokAt (tailT LS SS 10 0) 6).toArray⟩ t6, .str ⟨(tokAt (tailT LS SS 10 0) 7).toArray⟩ t7, .str ⟨(tokAt (tailT LS SS 10 0) 8).toArray⟩ t8, .str ⟨(tokAt (tailT LS SS 10 0) 9).toArray⟩ t9])
      (T := fun i ys nw => IntsAre ys (LS.take i) ∧ TabI B8 nw) ?hcell ?hkind ?hx ?hh ?F ?N ?hsz ?hsrc ?h0 ?hDr ?turn ?fin
    case F => exact F7
    case N => exact N8
    case hcell => decide
    case hkind => rfl
    case hx => rfl
    case hh => rfl
    case hsz => show 10 ≤ sizeLine; decide
    case hDr => trivial
    case h0 => exact ⟨.nil, .inl rfl⟩
    case hsrc =>
      rintro i ys nw ⟨_, hT⟩
      rcases hT with rfl | ⟨c, oc, _, rfl⟩
      · exact .inr ⟨_, .tail _ hD8, rfl, _, rfl⟩
      · exact .inr ⟨_, .tail _ (.tail _ hD8), rfl, _, rfl⟩
    case turn =>
      clear F7 N8
      rintro i ys nw v I oI C oC D9 m₂ h dw tk E' hi hlen ⟨hI9, hT9⟩ hv hC hx F9 N9 off ne _
      obtain ⟨tv, rfl⟩ := tenAt (f := fun i => ⟨(tokAt (tailT LS SS 10 0) i).toArray⟩) hv
      have hi : i < 10 := hi
      k_steps
      refine ⟨?_⟩
      rename News (ghostOf _ _) _ _ _ => N10
      rename Fr (ghostOf _ _) _ _ _ => F10
      obtain ⟨n, hn⟩ := Int.eq_ofNat_of_zero_le (hlv i hi).1
      have hn17 : n < 17 := by have := (hlv i hi).2; omega
      have htk := tok_at (ls := LS) (ss := SS) hlv hi
      have hrt := read_tok hn17 (SS.getD i 0)
      have hnn : (LS.getD i 0).toNat = n := by rw [hn]; rfl
      rw [hnn] at htk
      rw [← htk] at hrt
      refine' ifs_turn ?k1 F10 ?k3 ?k5 ?c1 ?c2 ?k6 ?k7 ?k8 N10 off hT9 hb8 _ tv n hrt.2 hrt.1 hn17 ?hs ?hR
      case k1 => k_asm
      case k3 => k_asm
      case k5 => k_asm
      case c1 => assumption
      case c2 => assumption
      case k6 => rfl
      case k7 => decide
      case k8 => decide +kernel
      case hs => exact ⟨_, _, _, rfl⟩
      case hR =>
        intro t nw' ht'
        refine ⟨?_, ht'⟩
        rw [take_snoc (by omega), hn]
        exact ksk_snoc hI9
    case fin =>
      clear F7 N8
      rintro ys nw hlen9 ⟨hI9, hT9⟩ D9 h dw tk _ F9 N9 off
      rw [show LS.take _ = LS from List.take_of_length_le (by rw [hLl]; exact Nat.le_refl 10)] at hI9
      obtain ⟨q31, N11⟩ : ∃ q31, News (ghostOf s1.heap [(117, 113), (35, 31)]) s1.heap.objs.size h ((D9, LCg.lst ys) :: V.led w0 4 tl' [] pn' ((p' : Nat) : Int) tp' [(113, tabObj ps), (lS, W.listOf us1.toArray c1), (lL, W.listOf us2.toArray c2), (s1.heap.objs.size + 1 + 1 + 1 + 1, o4), (s1.heap.objs.size + 1 + 1 + 1, o3), (s1.heap.objs.size + 1 + 1, oM), (s1.heap.objs.size + 1, oL), (31, tabObj q31)]) := by
        rcases hT9 with rfl | ⟨c, oc, _, rfl⟩
        · exact ⟨_, news_back (by rw [eB8] at N9; exact N9)⟩
        · exact ⟨_, news_back2 (by rw [eB8] at N9; exact N9)⟩
      clear N9 off hT9 hD8 hb8 eB8
      dsimp only [MV.led] at N11
      k_steps
      refine ⟨?_⟩
      rename News (ghostOf _ _) _ _ _ => N12
      refine ke_ne_ints (xs := ys) (ys := us2) ⟨_, (N12 (D9, LCg.lst ys) (by simp)).1, rfl, _, rfl⟩ ⟨_, (N12 (lL, W.listOf us2.toArray c2) (by simp)).1, rfl, _, rfl⟩ hI9 iL (by ktr_units) ?_
      rw [decide_eq_true (rfl : LS = LS)]
      dsimp only [Bool.not_true]
      have N13 : News (ghostOf s1.heap [(117, 113), (35, 31)]) s1.heap.objs.size _ _ := fun q hq => N12 q (.tail _ hq)
      clear N12
      k_steps
      rename IsRange _ _ _ _ _ _ _ _ => rg14
      rename Fr (ghostOf _ _) _ _ _ => F14
      rename News (ghostOf _ _) _ _ _ => N14
      refine' CIter2.range (n := 4) (g := fun i => 4 - i) (T := WordsT) ?hh ?hlen ?hstep ?hcell ?hkind ?hx ?hy ?hxy ?hs F14 N14 rg14 ?hsm ?hn ?h0 ?src ?turn ?fin
      case hh => rfl
      case hlen => exact fun _ _ _ h => words_len h
      case hstep => exact fun _ _ hi h => words_step hi h
      case hcell => decide
      case hkind => rfl
      case hx => rfl
      case hy => rfl
      case hxy => decide
      case hs => intro _ _; rfl
      case hsm => decide
      case hn => rfl
      case h0 => exact ⟨Nat.zero_le _, Nat.zero_le _, .nil⟩
      case src =>
        clear F14 N14 rg14
        rintro i ys I oI C oC D m₂ h tk t E' hi hC hx F9 N9
        k_steps
        · exact rs_small hi
        · exact rs_size hi
        · rename Fr (ghostOf _ _) _ _ _ => F10; exact F10
        · rename News (ghostOf _ _) _ _ _ => N10; exact N10
      case turn =>
        clear F14 N14 rg14
        rintro i j ys I2 oI2 I oI C oC D m₂ h tk t u E' hi hj hT hC hx hy F9 N9
        k_steps
        · rename Fr (ghostOf _ _) _ _ _ => F10; exact F10
        · rename News (ghostOf _ _) _ _ _ => N10; exact N10
        · exact words_snoc hi hj hT
      case fin =>
        clear F14 N14 rg14
        rintro yw D h tk hT F9 N9 off
        have iW := words_all hT
        clear hT
        have F9 : Fr (ghostOf s1.heap [(117, 113), (35, 31)]) s1.heap.objs.size h _ := F9
        have N9 : News (ghostOf s1.heap [(117, 113), (35, 31)]) s1.heap.objs.size h _ := N9
        have offW := all_of_lt off
        k_lt offW
        clear off
        dsimp only
        k_steps
        refine ⟨?_⟩
        rename Fr (ghostOf _ _) _ _ _ => F15
        rename News (ghostOf _ _) _ _ _ => N15
        rename IntsAre _ (List.take 4 LS) => i0
        rename IntsAre _ (List.take (min 7 LS.length - 4) (List.drop 4 LS)) => i1
        rename IntsAre _ (List.take (min 9 LS.length - 7) (List.drop 7 LS)) => i2
        rename IntsAre _ (List.drop 9 LS) => i3
        have e1 : List.take (min 7 LS.length - 4) (List.drop 4 LS) = (LS.drop 4).take 3 := by rw [hLl]; rfl
        have e2 : List.take (min 9 LS.length - 7) (List.drop 7 LS) = (LS.drop 7).take 2 := by rw [hLl]; rfl
        rw [e1] at i1
        rw [e2] at i2
        have hLv : ∀ k : Nat, k < 10 → Lv (LS.getD k 0) := fun k hk => ⟨(hlv k hk).1, by have := (hlv k hk).2; omega⟩
        obtain ⟨v0, v1, v2, v3⟩ := lv_parts hLl hLv
        refine' (folded_ok _ _ _ _ _ _ _ _ _ _ _ _ _ _ _ _ _ _ i0 i1 i2 i3 (by simp [hLl]) (by simp [hLl]) (by simp [hLl]) (by simp [hLl]) v0 v1 v2 v3 _).use ?k1 ?k2 ?k3 N15 ?k5 ?c1 ?c2 ?k6 ?k7 ?k8 ?_
        case k1 => k_asm
        case k2 => k_asm
        case k3 => k_asm
        case k5 => k_asm
        case c1 => assumption
        case c2 => assumption
        case k6 => rfl
        case k7 => decide
        case k8 => decide +kernel
        clear F15 N15 F9 N9
        rintro v' h6 tk6 news6 ⟨tF, rfl, rfl⟩ F16 N16
        generalize hFV : (rowF (rowF (rowF (LS.drop 9) ((LS.drop 7).take 2)) (rowF ((LS.drop 7).take 2) ((LS.drop 4).take 3))) (rowF (rowF ((LS.drop 7).take 2) ((LS.drop 4).take 3)) (rowF ((LS.drop 4).take 3) (LS.take 4)))).getD 0 0 = FV
        have hFV' : foldV (LS.take 4) ((LS.drop 4).take 3) ((LS.drop 7).take 2) (LS.drop 9) = FV := hFV
        dsimp only
        k_steps
        rename IsRange _ _ _ _ _ _ _ _ => rg17
        rename Fr (ghostOf _ _) _ _ _ => F17
        rename News (ghostOf _ _) _ _ _ => N17
        (try clear F16 N16)
        refine' CIterT.rangeA (n := 10) (T := OnT LS fun a => decide (FV ≤ a)) ?hy ?hp ?hh ?hlen ?hcell ?hkind ?hx F17 N17 rg17 ?hsm ?hn ?h0 ?turn ?fin
        case hy => rfl
        case hp => rfl
        case hh => rfl
        case hlen => exact fun _ _ hi h => on_size hi h
        case hcell => decide
        case hkind => rfl
        case hx => rfl
        case hsm => decide
        case hn => rfl
        case h0 => exact .nil
        case turn =>
          clear F17 N17 rg17
          rintro i ys I oI C oC D2 m₂ h tk t E' hi hT hC hx F9 N9
          k_steps
          refine ⟨?_⟩
          rename News (ghostOf _ _) _ _ _ => N10
          obtain ⟨tv, ev⟩ := ints_at iL (k := i) (by rw [hLl]; exact hi)
          refine item_litK (v := .int (LS.getD i 0) tv) ⟨_, (N10 (lL, W.listOf us2.toArray c2) (by simp)).1, rfl, _, rfl⟩ (by omega) (by omega) (by rw [Int.toNat_natCast]; exact ev) ?_
          k_steps
          · refine ⟨?_⟩
            rename News (ghostOf _ _) _ _ _ => N11
            rename Fr (ghostOf _ _) _ _ _ => F11
            obtain ⟨tw, ew⟩ := strs_at iW (k := i) hi
            refine item_litK (v := .str (Wd i) tw) ⟨_, (N11 (D, LCg.lst yw) (by simp)).1, rfl, _, rfl⟩ (by omega) (by omega) (by rw [Int.toNat_natCast]; exact ew) ?_
            exact ⟨_, _, rfl, F11, N11, on_t hT (decide_eq_true (by assumption))⟩
          · rename News (ghostOf _ _) _ _ _ => N11
            rename Fr (ghostOf _ _) _ _ _ => F11
            exact ⟨_, _, rfl, F11, N11, on_f hT (decide_eq_false (by assumption))⟩
        case fin =>
          clear F17 N17 rg17
          rintro yU DU h tk hTU F9 N9 off
          have F9 : Fr (ghostOf s1.heap [(117, 113), (35, 31)]) s1.heap.objs.size h _ := F9
          have N9 : News (ghostOf s1.heap [(117, 113), (35, 31)]) s1.heap.objs.size h _ := N9
          have offU := all_of_lt off
          k_lt offU
          clear off
          have iU : StrsAre yU (onW LS fun a => decide (FV ≤ a)) := hTU
          clear hTU
          dsimp only
          k_steps
          rename IsRange _ _ _ _ _ _ _ _ => rg18
          rename Fr (ghostOf _ _) _ _ _ => F18
          rename News (ghostOf _ _) _ _ _ => N18
          refine' CIterT.rangeA (n := 10) (T := OnT LS fun a => decide (a ≤ FV)) ?hy ?hp ?hh ?hlen ?hcell ?hkind ?hx F18 N18 rg18 ?hsm ?hn ?h0 ?turn ?fin
          case hy => rfl
          case hp => rfl
          case hh => rfl
          case hlen => exact fun _ _ hi h => on_size hi h
          case hcell => decide
          case hkind => rfl
          case hx => rfl
          case hsm => decide
          case hn => rfl
          case h0 => exact .nil
          case turn =>
            clear F18 N18 rg18
            rintro i ys I oI C oC D2 m₂ h tk t E' hi hT hC hx F9 N9
            k_steps
            refine ⟨?_⟩
            rename News (ghostOf _ _) _ _ _ => N10
            obtain ⟨tv, ev⟩ := ints_at iL (k := i) (by rw [hLl]; exact hi)
            refine item_litK (v := .int (LS.getD i 0) tv) ⟨_, (N10 (lL, W.listOf us2.toArray c2) (by simp)).1, rfl, _, rfl⟩ (by omega) (by omega) (by rw [Int.toNat_natCast]; exact ev) ?_
            k_steps
            · refine ⟨?_⟩
              rename News (ghostOf _ _) _ _ _ => N11
              rename Fr (ghostOf _ _) _ _ _ => F11
              obtain ⟨tw, ew⟩ := strs_at iW (k := i) hi
              refine item_litK (v := .str (Wd i) tw) ⟨_, (N11 (D, LCg.lst yw) (by simp)).1, rfl, _, rfl⟩ (by omega) (by omega) (by rw [Int.toNat_natCast]; exact ew) ?_
              exact ⟨_, _, rfl, F11, N11, on_t hT (decide_eq_true (by assumption))⟩
            · rename News (ghostOf _ _) _ _ _ => N11
              rename Fr (ghostOf _ _) _ _ _ => F11
              exact ⟨_, _, rfl, F11, N11, on_f hT (decide_eq_false (by assumption))⟩
          case fin =>
            clear F18 N18 rg18
            rintro yD DD h tk hTD F9 N9 off
            have F9 : Fr (ghostOf s1.heap [(117, 113), (35, 31)]) s1.heap.objs.size h _ := F9
            have N9 : News (ghostOf s1.heap [(117, 113), (35, 31)]) s1.heap.objs.size h _ := N9
            have offD := all_of_lt off
            k_lt offD
            clear off
            have iD : StrsAre yD (onW LS fun a => decide (a ≤ FV)) := hTD
            clear hTD
            dsimp only
            k_steps
            refine ⟨?_⟩
            rename News (ghostOf _ _) _ _ _ => N19
            have hg := game hLl hLv
            rw [hFV'] at hg
            have lU : @LT.lt Nat _ V.pl DU := by simp only [offU]
            have lDD : @LT.lt Nat _ V.pl DD := by simp only [offD]
            have lW : @LT.lt Nat _ V.pl D := by simp only [offW]
            refine' (joins_ok V hV 4 tl' pn' p' tp' DU yU yU.length _ iU (on_w10 _ _) (Nat.le_trans (on_len _ _) (by decide)) _ ?ho lU).use ?k1 ?k2 ?k3 (news_j1 N19) ?k5 ?c1 ?c2 ?k6 ?k7 ?k8 ?_
            case ho => exact off_cons hV lDD (off_cons hV lW (own_keys hown rfl))
            case k1 => k_asm
            case k2 => k_asm
            case k3 => k_asm
            case k5 => k_asm
            case c1 => assumption
            case c2 => assumption
            case k6 => rfl
            case k7 => decide
            case k8 => decide +kernel
            clear N19
            rintro v' h6 tk6 news6 ⟨pn6, rfl, rfl⟩ F20 N20
            rw [hg.1]
            dsimp only [MV.led] at N20
            dsimp only
            k_steps
            refine ⟨?_⟩
            rename News (ghostOf _ _) _ _ _ => N21
            refine' (joins_ok V hV 4 tl' pn6 p' tp' DD yD yD.length _ iD (on_w10 _ _) (Nat.le_trans (on_len _ _) (by decide)) _ ?ho lDD).use ?k1 ?k2 ?k3 (news_j2 N21) ?k5 ?c1 ?c2 ?k6 ?k7 ?k8 ?_
            case ho => exact off_cons hV lW (own_keys hown rfl)
            case k1 => k_asm
            case k2 => k_asm
            case k3 => k_asm
            case k5 => k_asm
            case c1 => assumption
            case c2 => assumption
            case k6 => rfl
            case k7 => decide
            case k8 => decide +kernel
            clear N21
            rintro v' h7 tk7 news7 ⟨pn7, rfl, rfl⟩ F22 N22
            rw [hg.2]
            dsimp only [MV.led] at N22
            dsimp only
            k_steps
            refine hQ9 _ _ ?_
            dsimp only
            k_steps
            done)
end
end Mine
end
theorem PySem.Challenge.cw_sh0031_01_holds : PySem.Challenge.rw_sh0031_01.Holds := by
  exact Mine.law_test
