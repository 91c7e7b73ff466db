import PyProof.Rows.All
import Wide.All
import OpenK.AllK
import Wide.FinOn
import Lean
import PySem.Challenge.RW_kh0013_01
set_option Elab.async false
set_option linter.all false
/-! H1 -/
section H1_part
open PySem PySem.W PyProof.Rows
set_option maxRecDepth 100000
namespace Mine
section
local macro_rules | `(tactic| o_head $_) => `(tactic| assumption)
/-- the kit's line writes the heap behind the given program's top out as hd.heap_1; the head itself is ours (left2) -/
theorem hd (x : PySem.Challenge.rw_kh0013_01.row.Holds) : PySem.Challenge.rw_kh0013_01.row.Holds := by k_head
end
/-- the given program with the statements of these places alone -/
def hd.view_39 : Program := PySem.W.view PySem.Challenge.rw_kh0013_01.row.toRowW.prog [0, 2, 4, 5, 7, 8, 10, 11, 12, 13, 14, 15]
end Mine
end H1_part
/-! E2 -/
section E2_part
open PySem PySem.W PyProof.Rows
set_option maxRecDepth 1000000
set_option maxHeartbeats 0
namespace Mine
/-- the written part with the code table of FQP.__init__ -/
noncomputable def K2 (P : Params) : Frag := (51, { cls := .none, data := .fields #[] }) :: Mine.hd.heap_1 P
def as2 : List Addr := 51 :: [2,3,15,17,18,20,21,22,24,25,27,28,29,31,32,34,35,36,38,39,41,42,50,53,54,55,57,58,60,61,62,65,66,67,70,71,72,74,75,77,78,79,82,83,84,86,87,89,90,91,94,95,96,98,99,101,102,103,106,107,108,111,112,113,115,116,118,119,120,122,123,125,126,127,129,130,132,133,134,137,138,139,141,142,144,145,146,147,149,150,152,153,154,156,157,159,160,161,162,163,164,165,168,175,177,178,180,181,182,184,185,187,188,189,190,191,192,195,197,198,200,201,202,204,205,207,208,209,211,212,214,215,216,218,219,221,222,223,225,226,228,229,230,233,234]
theorem as2_ok (P : Params) : as2 = (K2 P).map (·.1) := by kernel_rfl
/-- the head: one look of the kernel, by the library's quick twins of topRun, treeTable and openSeen -/
theorem left2 : LeftO PySem.Challenge.rw_kh0013_01.row.toRowW.prog Mine.hd.view_39 [Str.ofString "FQP", Str.ofString "FQ2"] (fun s => xlAt Mine.hd.view_39 [] s && recOk (RowW.records PySem.Challenge.rw_kh0013_01.row.toRowW) s) (Hook.obs (kHook K2 as2 as2_ok)) (Hook.val (kHook K2 as2 as2_ok)) 3100 := by
  intro w
  delta openEnds topFrom
  rw [PySem.W.Fast.te14082659384304107361, PySem.W.Fast.te14364793385576792824, PySem.W.Fast.te4187177175401517315]
  kernel_rfl
/-- the row says well what it says: one look of the kernel -/
theorem ws_ok : PySem.Challenge.rw_kh0013_01.wellSaid = true := by
  refine (congrFun PySem.W.Fast.te9446332074065402090 _).trans ?_
  kernel_rfl
end Mine
end E2_part
/-! P1 -/
section P1_part
namespace Mine
/-- what the loop of the inverse keeps -/
def Eu (x n lm hm low high : Int) : Prop :=
  (1 ≤ low ∧ low < high ∧ high ≤ n ∧ -n ≤ lm ∧ lm ≤ n ∧ -n ≤ hm ∧ hm ≤ n) ∧ n ∣ lm * x - low ∧ n ∣ hm * x - high ∧ Int.gcd low high = 1 ∧
  ((0 ≤ lm ∧ hm ≤ 0 ∧ lm * high - hm * low = n) ∨ (lm ≤ 0 ∧ 0 ≤ hm ∧ hm * low - lm * high = n))

theorem eu_start {x n : Int} (h0 : 1 ≤ x) (h1 : x < n) (hg : Int.gcd x n = 1) : Eu x n 1 0 x n := by
  refine ⟨by omega, ?_, ?_, hg, .inl (by omega)⟩
  · simp
  · simp

theorem eu_step {x n lm hm low high : Int} (h : Eu x n lm hm low high) (hl : 1 < low) :
    Eu x n (hm - lm * (high / low)) lm (high - low * (high / low)) low := by
  obtain ⟨⟨h1, h2, h3, h4, h5, h6, h7⟩, d1, d2, hg, hs⟩ := h
  have hr : high - low * (high / low) = high % low := by
    have := Int.emod_add_mul_ediv high low; omega
  have hb : high % low < low := Int.emod_lt_of_pos _ (by omega)
  have hn : 0 ≤ high % low := Int.emod_nonneg _ (by omega)
  have hne : high % low ≠ 0 := by
    intro e
    have hdvd : low ∣ high := Int.dvd_of_emod_eq_zero e
    have h9 : Int.gcd low high = low.natAbs := Int.gcd_eq_left_iff_dvd (by omega) |>.mpr hdvd |> fun e => by omega
    omega
  have hq : 1 ≤ high / low := by
    have := Int.emod_add_mul_ediv high low
    rcases Int.lt_or_le (high / low) 1 with h | h
    · have : low * (high / low) ≤ 0 := Int.mul_nonpos_of_nonneg_of_nonpos (by omega) (by omega)
      omega
    · exact h
  generalize hqd : high / low = q at *
  have key : (0 ≤ hm - lm * q ∧ lm ≤ 0 ∧ (hm - lm * q) * low - lm * (high - low * q) = n) ∨ (hm - lm * q ≤ 0 ∧ 0 ≤ lm ∧ lm * (high - low * q) - (hm - lm * q) * low = n) := by
    rcases hs with ⟨a, b, c⟩ | ⟨a, b, c⟩
    · right
      have : 0 ≤ lm * q := Int.mul_nonneg a (by omega)
      refine ⟨by omega, a, ?_⟩
      grind
    · left
      have : lm * q ≤ 0 := Int.mul_nonpos_of_nonpos_of_nonneg a (by omega)
      refine ⟨by omega, a, ?_⟩
      grind
  have hbd : -n ≤ hm - lm * q ∧ hm - lm * q ≤ n := by
    rcases key with ⟨a, b, c⟩ | ⟨a, b, c⟩
    · have e1 : lm * (high - low * q) ≤ 0 := Int.mul_nonpos_of_nonpos_of_nonneg b (by omega)
      have e2 : (hm - lm * q) * 1 ≤ (hm - lm * q) * low := Int.mul_le_mul_of_nonneg_left (by omega) a
      omega
    · have e1 : 0 ≤ lm * (high - low * q) := Int.mul_nonneg b (by omega)
      have e2 : (hm - lm * q) * low ≤ (hm - lm * q) * 1 := Int.mul_le_mul_of_nonpos_left a (by omega)
      omega
  refine ⟨⟨by omega, by omega, by omega, hbd.1, hbd.2, h4, h5⟩, ?_, d1, ?_, key⟩
  · have e : (hm - lm * q) * x - (high - low * q) = (hm * x - high) - (lm * x - low) * q := by grind
    rw [e]
    exact Int.dvd_sub d2 (Int.dvd_mul_of_dvd_left d1)
  · rw [Int.gcd_comm, Int.gcd_sub_mul_left_right]
    exact hg

theorem eu_end {x n lm hm low high : Int} (h : Eu x n lm hm low high) (hl : ¬ 1 < low) : 0 ≤ lm % n ∧ lm % n < n ∧ (lm % n * x) % n = 1 := by
  obtain ⟨⟨h1, h2, h3, h4, h5, h6, h7⟩, d1, d2, hg, hs⟩ := h
  have e : low = 1 := by omega
  subst e
  refine ⟨Int.emod_nonneg _ (by omega), Int.emod_lt_of_pos _ (by omega), ?_⟩
  have e2 : (lm % n * x) % n = (lm * x) % n := by
    rw [Int.mul_emod, Int.emod_emod, ← Int.mul_emod]
  rw [e2]
  have e3 := Int.emod_eq_emod_iff_emod_sub_eq_zero.mpr (Int.emod_eq_zero_of_dvd d1)
  rw [e3]
  exact Int.emod_eq_of_lt (by omega) (by omega)

def EuB (x n lm hm low high : Int) : Prop := Eu x n lm hm low high ∧ (1 ≤ low ∧ low < high ∧ high ≤ n ∧ -n ≤ lm ∧ lm ≤ n ∧ -n ≤ hm ∧ hm ≤ n)
theorem fm_of {x n : Int} (h0 : 0 ≤ x) (h1 : x < n) : x.fmod n = x := by
  rw [Int.fmod_eq_emod_of_nonneg _ (by omega)]; exact Int.emod_eq_of_lt h0 h1
theorem pfi_start {x n : Int} (h0 : 1 ≤ x) (h1 : x < n) (hg : Int.gcd x n = 1) : Eu x n 1 0 ((x.fmod n).fmod n) n ∧
    1 ≤ (x.fmod n).fmod n ∧ (x.fmod n).fmod n < n ∧ n ≤ n ∧ -n ≤ 1 ∧ 1 ≤ n ∧ -n ≤ 0 ∧ 0 ≤ n := by
  rw [fm_of (x := x) (by omega) h1, fm_of (x := x) (by omega) h1]
  exact ⟨eu_start h0 h1 hg, by omega⟩
theorem pfi_step {x n lm hm low high : Int} (h : Eu x n lm hm low high ∧ (1 ≤ low ∧ low < high ∧ high ≤ n ∧ -n ≤ lm ∧ lm ≤ n ∧ -n ≤ hm ∧ hm ≤ n)) (hl : 1 < low) :
    Eu x n (hm - lm * high.fdiv low) lm (high - low * high.fdiv low) low ∧ (1 ≤ high - low * high.fdiv low ∧ high - low * high.fdiv low < low ∧ low ≤ n ∧ -n ≤ hm - lm * high.fdiv low ∧ hm - lm * high.fdiv low ≤ n ∧ -n ≤ lm ∧ lm ≤ n) := by
  rw [Int.fdiv_eq_ediv_of_nonneg _ (by omega)]
  have := eu_step h.1 hl
  exact ⟨this, this.1⟩
theorem pfi_end {x n lm hm low high : Int} (h : Eu x n lm hm low high ∧ (1 ≤ low ∧ low < high ∧ high ≤ n ∧ -n ≤ lm ∧ lm ≤ n ∧ -n ≤ hm ∧ hm ≤ n)) (hl : ¬ 1 < low) : 0 ≤ lm.fmod n ∧ lm.fmod n < n ∧ (lm.fmod n * x) % n = 1 := by
  rw [Int.fmod_eq_emod_of_nonneg _ (by omega)]
  exact eu_end h.1 hl
theorem pfi_less {x n lm hm low high : Int} (h : Eu x n lm hm low high ∧ (1 ≤ low ∧ low < high ∧ high ≤ n ∧ -n ≤ lm ∧ lm ≤ n ∧ -n ≤ hm ∧ hm ≤ n)) (hl : 1 < low) : (high - low * high.fdiv low).toNat < low.toNat := by
  have := (pfi_step h hl).2
  omega
theorem pfi_zero {x n : Int} (h0 : 1 ≤ x) (h1 : x < n) (h : x.fmod n = 0) : False := by
  rw [fm_of (by omega) h1] at h; omega
end Mine
end P1_part
/-! M0 -/
section M0_part
open PySem PySem.W PyProof.Rows
namespace Mine

/-- a turn's end: the state `c'`, with a smaller measure -/
def WhEnd {σ : Type} (h₀ : Heap) (L : Addr) (s : Shared) (G : Array GenState → Prop) (Led : σ → List (Addr × Obj)) (ps : σ → List (Str × Value)) (P : σ → Prop) (μ : σ → Nat) (c : σ) (s₂ : Shared) : Prop :=
  ∃ (c' : σ) (h' : Heap) (g' : Array GenState) (tk : Nat) (m' : Str → Option Value) (news' : List (Addr × Obj)),
    s₂ = { s with heap := h', gens := g', toks := tk } ∧ G g' ∧ Fr h₀ L h' m' ∧ News h₀ L h' news' ∧ (∀ p ∈ Led c', p ∈ news') ∧ (∀ p ∈ ps c', m' p.1 = some p.2) ∧ P c' ∧ μ c' < μ c
def WhPost {σ : Type} (h₀ : Heap) (L : Addr) (s : Shared) (G : Array GenState → Prop) (Led : σ → List (Addr × Obj)) (ps : σ → List (Str × Value)) (P : σ → Prop) (μ : σ → Nat) (Q : Flow → Shared → Prop) (c : σ) (f : Flow) (s₂ : Shared) : Prop :=
  match f with
  | .ret v => Q (.ret v) s₂
  | .brk => Q .next s₂
  | _ => WhEnd h₀ L s G Led ps P μ c s₂
theorem WhEnd.intro {σ : Type} {h₀ : Heap} {L : Addr} {s : Shared} {G : Array GenState → Prop} {Led : σ → List (Addr × Obj)} {ps : σ → List (Str × Value)} {P : σ → Prop} {μ : σ → Nat} {c : σ} {h' : Heap} {g' : Array GenState} {tk : Nat} {m' : Str → Option Value} {news' : List (Addr × Obj)}
    (F : Fr h₀ L h' m') (N : News h₀ L h' news') (hg : G g') (c' : σ) (hn : ∀ p ∈ Led c', p ∈ news') (hk : ∀ p ∈ ps c', m' p.1 = some p.2) (hp : P c') (hm : μ c' < μ c) :
    WhEnd h₀ L s G Led ps P μ c { s with heap := h', gens := g', toks := tk } := ⟨c', h', g', tk, m', news', rfl, hg, F, N, hn, hk, hp, hm⟩
theorem kstB_same {m : Str → Option Value} {ps : List (Str × Value)} (h : ∀ p ∈ ps, m p.1 = some p.2) : kstB m ps = m := by
  funext z
  exact kstB_eq h fun _ => rfl

section
variable {prog : Program} {w : World} {A : Around} {E : Value → Shared → Prop} {Q : Flow → Shared → Prop} {s : Shared} {env : Env} {h₀ : Heap} {L : Addr}
/-- a while by its state: the names' values, the ledger, the generators -/
theorem while_st {σ : Type} {test : Expr} {body : List Stmt} {pos : Pos} {m₀ : Str → Option Value} (G : Array GenState → Prop) (Led : σ → List (Addr × Obj)) (ps : σ → List (Str × Value)) (P : σ → Prop) (μ : σ → Nat) (c₀ : σ)
    (F : Fr h₀ L s.heap m₀) (N : News h₀ L s.heap (Led c₀)) (hg : G s.gens) (hk : ∀ p ∈ ps c₀, m₀ p.1 = some p.2) (hp : P c₀)
    (turn : ∀ (c : σ) (u : Str → Option Value) h g tk, G g → P c → Fr h₀ L h (kstB u (ps c)) → News h₀ L h (Led c) →
      wpAny (model prog w) A (isTrue test env (eval test env)) (fun b s₂ =>
        if b = true then wpAny (model prog w) A (execs body env) (WhPost h₀ L s G Led ps P μ Q c) E s₂ else Q .next s₂) E { s with heap := h, gens := g, toks := tk })
    (hE : PassesOwn (model prog w) A env E := by passes_own) :
    wpAny (model prog w) A (exec (.While test body [] pos) env) Q E s := by
  refine wpAny_While (codeAny_whileLoop (fun n s' => ∃ (c : σ) (h : Heap) (g : Array GenState) (tk : Nat) (m : Str → Option Value), s' = { s with heap := h, gens := g, toks := tk } ∧ μ c = n ∧ G g ∧ P c ∧ Fr h₀ L h m ∧ News h₀ L h (Led c) ∧ (∀ p ∈ ps c, m p.1 = some p.2)) ?_ (μ c₀) ⟨c₀, s.heap, s.gens, s.toks, m₀, rfl, rfl, hg, hp, F, N, hk⟩)
  rintro n s' ⟨c, h, g, tk, m, rfl, rfl, hg', hp', F', N', hk'⟩
  refine wpAny_mono (turn c m h g tk hg' hp' (by rw [kstB_same hk']; exact F') N') (fun b s₂ h₂ => ?_) hE
  cases b with
  | false =>
    simp only [Bool.false_eq_true, if_false] at h₂ ⊢
    exact wpAny_execs_nil h₂
  | true =>
    simp only [if_true] at h₂ ⊢
    refine wpAny_mono h₂ (fun f s₃ h₃ => ?_) hE
    cases f with
    | next =>
      obtain ⟨c', h', g', tk', m', news', rfl, hg9, F9, N9, hn9, hk9, hp9, hm9⟩ := h₃
      exact ⟨μ c', hm9, c', h', g', tk', m', rfl, rfl, hg9, hp9, F9, fun p hp => N9 p (hn9 p hp), hk9⟩
    | cont =>
      obtain ⟨c', h', g', tk', m', news', rfl, hg9, F9, N9, hn9, hk9, hp9, hm9⟩ := h₃
      exact ⟨μ c', hm9, c', h', g', tk', m', rfl, rfl, hg9, hp9, F9, fun p hp => N9 p (hn9 p hp), hk9⟩
    | brk => exact h₃
    | ret v => exact h₃
end
end Mine
end M0_part
/-! LT0 -/
section LT0_part
open PySem PySem.W PyProof.Rows
namespace Mine
theorem let_entry {M : Model} {A : Around} {body : List Stmt} {env : Env} {Q : Flow → Shared → Prop} {E : Value → Shared → Prop} {s : Shared} (h : let M' := M; let A' := A; let e' := env; let E' := E; let Q' := Q; wpAny M' A' (execs body e') Q' E' s) : wpAny M A (execs body env) Q E s := h
theorem let_cons {M : Model} {A : Around} {E : Value → Shared → Prop} {s : Shared} {env : Env} {st : Stmt} {rest : List Stmt} {Q : Flow → Shared → Prop}
    (h : let s0 := s; let Q0 := Q; let Q1 : Flow → Shared → Prop := fun f s' => match f with | .next => wpAny M A (execs rest env) Q0 E s' | f => Q0 f s'; wpAny M A (exec st env) Q1 E s0) : wpAny M A (execs (st :: rest) env) Q E s := wpAny_execs_cons h
theorem let_one {M : Model} {A : Around} {E : Value → Shared → Prop} {s : Shared} {env : Env} {st : Stmt} {Q : Flow → Shared → Prop}
    (h : let s0 := s; let Q0 := Q; wpAny M A (exec st env) Q0 E s0) : wpAny M A (execs [st] env) Q E s := wpAny_execs_cons (wpAny_mono h (fun f s' hq => by
      cases f <;> first | exact hq | exact wpAny_execs_nil hq) (fun _ _ h => h))
end Mine
end LT0_part
/-! C1 -/
section C1_part
open PySem PySem.W PyProof.Rows
namespace Mine
section
local macro_rules | `(tactic| walk_at $s:str) => `(tactic| k_extra $s)
set_option genInjectivity false in
set_option genSizeOf false in
structure PfiSt where
  lm : Int
  hm : Int
  low : Int
  high : Int
  t1 : Tok
  t2 : Tok
  t3 : Tok
  t4 : Tok
def PfiInv (x n : Int) (c : PfiSt) : Prop := Eu x n c.lm c.hm c.low c.high ∧ (1 ≤ c.low ∧ c.low < c.high ∧ c.high ≤ n ∧ -n ≤ c.lm ∧ c.lm ≤ n ∧ -n ≤ c.hm ∧ c.hm ≤ n)
set_option maxRecDepth 100000 in
set_option maxHeartbeats 8000000 in
theorem pfi (w : World) (p : Program) (loose : List Str) (mean : ExcName → Option Value) (mg mb : Str → Option Value)
    (x n : Int) (t tn : Tok) (news : List (Addr × Obj)) (dp un : Nat) (gd : Option (List Code)) (cn : Str) (cs : Scope) (a : Addr) (ccd : Value) (cl : List (Str × Addr)) (outer : List Env) (A₀ : Around) (base h₀ : Heap) (L : Addr) (m : Str → Option Value) (s : Shared) (Q E : Value → Shared → Prop)
    (B : Below A₀ base outer h₀) (F : Fr h₀ L s.heap m) (X : (hd.heap_1 w.params).In h₀) (N : News h₀ L s.heap news) (T : Top p loose mean mg mb h₀) (hk : cs.kind = .function)
    (h0 : 1 ≤ x) (h1 : x < n) (h2 : n < 1000) (hg : Int.gcd x n = 1) (hdp : dp + 1 < recursionLimit) (hu : un + 8 < cLine)
    (hret : ∀ (r : Int) (t : Tok) h' tk', Fr h₀ L h' m → News h₀ L h' news → 0 ≤ r ∧ r < n ∧ (r * x) % n = 1 → Q (.int r t) { s with heap := h', toks := tk' }) :
    wpAny (model PySem.Challenge.rw_kh0013_01.row.prog w) (ktrTop dp un gd cn cs L a ccd cl outer) (call (.ref 35) [.int x t, .int n tn]) Q E s := by
  w_on
  have _h : (PySem.Challenge.rw_kh0013_01 = PySem.Challenge.rw_kh0013_01) ∧ (Mine.hd.heap_1 = Mine.hd.heap_1) := by
    k_fill
    exact ⟨rfl, rfl⟩
  clear _h
  k_with_none
  k_with "execs cons" => ((try dsimp only); first | (refine let_one ?_; intro s7 Qk) | (refine let_cons ?_; intro s7 Qk Qk))
  k_with "eval Constant int" => (refine wpAny_Constant_int ?_; (try dsimp only))
  k_with "mine_step" => (first | (with_reducible show Qk _ _; dsimp only [Qk]; clear Qk) | (k_unfold; (try dsimp only)) | (k_end; kc_close) | walk1 | (dsimp only; walk1) | (leave1; walk_say "STEP leave1"; (try dsimp only)))
  (k_with "exec While Compare cons nil" => (
    (rename Fr _ _ _ _ => lF'); (rename News _ _ _ _ => lN');
    (with_unfolding_all refine' while_st (σ := PfiSt) (fun g => g = s.gens) (fun _ => news) (fun c => [(Str.ofString "lm", .int c.lm c.t1), (Str.ofString "hm", .int c.hm c.t2), (Str.ofString "low", .int c.low c.t3), (Str.ofString "high", .int c.high c.t4), (Str.ofString "n", .int n tn)]) (PfiInv x n) (fun c => c.low.toNat) ⟨1, 0, (x.fmod n).fmod n, n, _, _, _, _⟩ lF' (cb_drop lN' ?k1) rfl ?k2 ?k3 ?k4);
    (case k2 => kst_all);
    (case k1 => kcj_all);
    (case k3 => exact pfi_start h0 h1 hg);
    clear lF' lN';
    intro c u' h' g' tk' hg' hI' F' N'; subst hg'; (have hI2 := hI'.2); (try dsimp only); (try k_fold)))
  refine wpAny_call ?_
  k_dflt cell_enter
  refine let_entry ?_
  intro M9 A9 e9 E9 Qk
  w_strict (repeat' (k_extra "mine_step"))
  all_goals first
    | exact (pfi_zero h0 h1 (by assumption)).elim
    | (refine hret _ _ _ _ (by assumption) (cb_drop (by assumption) ?_) (pfi_end (by assumption) (by first | assumption | omega)); kcj_all)
    | (dsimp only [WhPost]; refine' WhEnd.intro (by assumption) (by assumption) rfl ⟨?b1, ?b2, ?b3, ?b4, ?b5, ?b6, ?b7, ?b8⟩ ?a1 ?a2 ?a3 ?a4; (case a2 => kst_all); (case a1 => kcj_all); (case a3 => exact pfi_step (by assumption) (by first | assumption | omega)); (case a4 => exact pfi_less (by assumption) (by first | assumption | omega)))
end
end Mine
end C1_part
/-! R0 -/
section R0_part
open PySem PySem.W PyProof.Rows
open Sem (wp)
open AutoSeq1 (wpAny_loadPart')
set_option maxRecDepth 100000
namespace Mine
section
variable {prog : Program} {w : World} {A : Around} {E : Value → Shared → Prop} {s : Shared}

/-- one item of a tuple's iterator, as `next` draws it -/
theorem draw_tup_item {it t : Addr} {i : Nat} {items : Array Value} {x : Value} {Q : Value → Shared → Prop} (hit : IsTupIter s.heap it t i) (ht : IsTup s.heap t items) (hx : items[i]? = some x)
    (hQ : ∀ h', IsTupIter h' it t (i + 1) → Heap.SameBut it s.heap h' → Q x { s with heap := h' }) :
    wpAny (model prog w) A (Builtin.SmallTypes.nextOf (.ref it)) Q E s := by
  obtain ⟨o, ho, hc, hd⟩ := id hit
  obtain ⟨ol, hol, _, nl, hdl⟩ := ht
  unfold Builtin.SmallTypes.nextOf
  refine wpAny_bind (wpAny_callSpecial?_slot (name := Str.ofString "__next__") hit.typeIs slot_tupleiter_next
    (wpAny_call_entry slot_tupleiter_next hit.typeIs entry_tupleiter_next ?_ (args_tupleiter_next _)))
  show wpAny _ _ (field (.ref it) 0 >>= _) _ _ s
  refine wpAny_bind (wpAny_field ho hd (x := .ref t) rfl ?_)
  show wpAny _ _ (if (Value.ref t == Value.none) = true then _ else _) _ _ s
  rw [if_neg (show ¬ ((Value.ref t == Value.none) = true) from Bool.false_ne_true)]
  show wpAny _ _ (field (.ref it) 1 >>= _) _ _ s
  refine wpAny_bind (wpAny_field ho hd (x := .int i 0) rfl ?_)
  show wpAny _ _ (seqItems? (.ref t) >>= _) _ _ s
  refine wpAny_bind (wpAny_seqItems hol hdl ?_)
  simp only [Int.toNat_natCast, hx]
  refine wpAny_bind (wpAny_setField ho hd (by simp) (wpAny_pure ⟨x, rfl, wpAny_pure (hQ _ ?_ (Heap.SameBut.update ..))⟩))
  exact ⟨_, Heap.get?_update_self _ ho (Obj.isFreed_of_fields (Obj.data_mapFields hd _)), (Obj.cls_mapFields ..).trans hc, by
    rw [Obj.data_mapFields hd]; simp [rawInt]⟩

theorem draw_tup_end {it t : Addr} {i : Nat} {items : Array Value} {Q : Value → Shared → Prop} (hh : A.handled = none) (hit : IsTupIter s.heap it t i) (ht : IsTup s.heap t items) (hx : items[i]? = none)
    (hE : ∀ h' e, Heap.ExtBut it s.heap h' → (∃ o, h'.get? e = some o ∧ o.cls = .type "StopIteration") → E (.ref e) { s with heap := h' }) :
    wpAny (model prog w) A (Builtin.SmallTypes.nextOf (.ref it)) Q E s := by
  obtain ⟨o, ho, hc, hd⟩ := id hit
  obtain ⟨ol, hol, _, nl, hdl⟩ := ht
  unfold Builtin.SmallTypes.nextOf
  refine wpAny_bind (wpAny_callSpecial?_slot (name := Str.ofString "__next__") hit.typeIs slot_tupleiter_next
    (wpAny_call_entry slot_tupleiter_next hit.typeIs entry_tupleiter_next ?_ (args_tupleiter_next _)))
  show wpAny _ _ (field (.ref it) 0 >>= _) _ _ s
  refine wpAny_bind (wpAny_field ho hd (x := .ref t) rfl ?_)
  show wpAny _ _ (if (Value.ref t == Value.none) = true then _ else _) _ _ s
  rw [if_neg (show ¬ ((Value.ref t == Value.none) = true) from Bool.false_ne_true)]
  show wpAny _ _ (field (.ref it) 1 >>= _) _ _ s
  refine wpAny_bind (wpAny_field ho hd (x := .int i 0) rfl ?_)
  show wpAny _ _ (seqItems? (.ref t) >>= _) _ _ s
  refine wpAny_bind (wpAny_seqItems hol hdl ?_)
  simp only [Int.toNat_natCast, hx]
  refine wpAny_bind (wpAny_rule (wpAny_bind (wpAny_setField ho hd (by simp) ?_)))
  show wpAny _ _ (newExc (.type "StopIteration") [] >>= _) _ _ _
  refine wpAny_bind ?_
  simp only [newExc, newTuple]
  refine wpAny_bind (wpAny_newObj_type ?_ (by size_fits))
  refine wpAny_bind (m := firstArgMember _ _) (wpAny_of_eq (a := Value.none) (by first | rfl | (simp only [firstArgMember]; rfl)) ?_)
  refine wpAny_newObj_type ?_ (by size_fits)
  simp only [raiseNew]
  refine wpAny_bind (wpAny_handled ?_)
  first | rw [show A.in1.handled = none from hh] | rw [hh]
  refine wpAny_bind (wpAny_pure (wpAny_throw ?_))
  exact hE _ _ (((Heap.SameBut.update ..).extBut.push _).push _) ⟨_, Heap.get?_push_size _ rfl, rfl⟩
end

theorem draws_tup {prog : Program} {w : World} {A : Around} (hh : A.handled = none) (it t : Addr) (hne : t ≠ it) (items : Array Value) :
    Draws prog w A it [it, t] items.size (fun i v => items[i]? = some v) (fun i h => IsTupIter h it t i ∧ IsTup h t items) where
  live := fun _ _ st => let ⟨o, ho, _⟩ := st.1; ⟨o, ho⟩
  frame := fun _ _ _ st hk => ⟨let ⟨o, ho, r⟩ := st.1; ⟨o, hk it (by simp) o ho, r⟩, let ⟨o, ho, r⟩ := st.2; ⟨o, hk t (by simp) o ho, r⟩⟩
  item := fun i s Q E hi st hQ => by
    refine draw_tup_item st.1 st.2 (x := items[i]) (by simp [hi]) fun h' hit' hs' => ?_
    exact hQ _ h' s.toks (by simp [hi]) ⟨hit', st.2.extBut hs'.extBut hne⟩ hs'
  done := fun s Q E st hE => draw_tup_end hh st.1 st.2 (by simp) hE

theorem enum_new_tup (l : Addr) (items : Array Value) (n : Nat) (dct : Option Addr) (sl : Array (Option Value)) :
    Meets (Builtin.«enumerate.__new__» ⟨[.type "enumerate", .ref l], []⟩) (fun _ R s => s.heap.get? l = some { cls := .type "tuple", dict := dct, data := .seq items n, slots := sl } ∧
      R (.ok (.ret (.ref (s.heap.push { cls := .type "tuple_iterator", data := .fields #[.ref l, .int 0 0] }).objs.size)))
        { s with heap := (s.heap.push { cls := .type "tuple_iterator", data := .fields #[.ref l, .int 0 0] }).push { cls := .type "enumerate", data := .fields #[.none, .bool false, .ref s.heap.objs.size, rawInt 0, .none, .none] } }) :=
  .of_wp fun prog w A R s h => by
    obtain ⟨hp, g, d, tk, os⟩ := s; obtain ⟨hl, h⟩ := h
    have hsub := sub_enumerate
    have hL : IsTup (Shared.heap ⟨hp, g, d, tk, os⟩) l items := ⟨_, hl, rfl, n, rfl⟩
    wp_walk using wpAny_loadPart' hl
    refine wpAny_stack_any fun st => wpAny_pure ?_
    split
    · rename_i c _ _ _ _ _
      cases (c == Value.type "enumerate")
      · wp_walk using wpAny_loadPart' hl, iter_tuple hL
        exact ⟨_, rfl, h⟩
      · wp_walk using wpAny_loadPart' hl, iter_tuple hL
        exact ⟨_, rfl, h⟩
    · wp_walk using wpAny_loadPart' hl, iter_tuple hL
      exact ⟨_, rfl, h⟩

section
variable {prog : Program} {w : World} {A : Around} {E : Value → Shared → Prop} {s : Shared}
theorem call_enum_tup {l : Addr} {items : Array Value} {Q : Value → Shared → Prop} (hL : IsTup s.heap l items)
    (h : ∀ h', IsEnum h' (s.heap.objs.size + 1) s.heap.objs.size 0 .none → IsTupIter h' s.heap.objs.size l 0 → h'.objs.size = s.heap.objs.size + 2 →
      (∀ b o, s.heap.get? b = some o → h'.get? b = some o) → Q (.ref (s.heap.objs.size + 1)) { s with heap := h' }) :
    wpAny (model prog w) A (call (.type "enumerate") [.ref l]) Q E s := by
  obtain ⟨⟨c, dct, dt, sl⟩, hl, hc, n, hd⟩ := hL
  replace hc : c = .type "tuple" := hc
  replace hd : dt = .seq items n := hd
  subst hc hd
  refine callType_new F.called_enumerate (by decide) (F.typeCall_enumerate_1 _) (F.newCall_enumerate_1 _) (fun obj => F.args_object_init_2 obj _) F.entry_enumerate_new
    (enum_new_tup l items n dct sl) ⟨hl, ?_⟩
  have hz : (s.heap.push { cls := .type "tuple_iterator", data := .fields #[.ref l, .int 0 0] }).objs.size = s.heap.objs.size + 1 := Heap.size_push ..
  show _ ∧ _
  rw [hz]
  have he : IsEnum ((s.heap.push { cls := .type "tuple_iterator", data := .fields #[.ref l, .int 0 0] }).push
      { cls := .type "enumerate", data := .fields #[.none, .bool false, .ref s.heap.objs.size, rawInt 0, .none, .none] }) (s.heap.objs.size + 1) s.heap.objs.size 0 .none := by
    have := Heap.get?_push_size (s.heap.push { cls := .type "tuple_iterator", data := .fields #[.ref l, .int 0 0] })
      (o := { cls := .type "enumerate", data := .fields #[.none, .bool false, .ref s.heap.objs.size, rawInt 0, .none, .none] }) rfl
    rw [hz] at this; exact this
  exact ⟨⟨_, he, rfl⟩, h _ he ⟨_, Heap.get?_push_of_some _ (Heap.get?_push_size _ rfl), rfl, rfl⟩ (by rw [Heap.size_push, hz]) fun b o x => Heap.get?_push_of_some _ (Heap.get?_push_of_some _ x)⟩
end
end Mine
end R0_part
/-! R1 -/
section R1_part
open PySem PySem.W PyProof.Rows PyProof.Rows.LCg
set_option maxRecDepth 100000
namespace Mine
section
variable {prog : Program} {w : World} {A : Around} {E : Value → Shared → Prop} {s : Shared} {env : Env}

/-- where the pairs come from, and what is to hold behind the block: the tuple (1, 0) by enumerate -/
def McSrc (Q : Value → Shared → Prop) (xv : Value) (s₁ : Shared) : Prop :=
  ∃ (e it l : Addr) (t1 t2 : Tok), xv = .ref e ∧ IsEnum s₁.heap e it 0 .none ∧ IsTupIter s₁.heap it l 0 ∧ IsTup s₁.heap l #[.int 1 t1, .int 0 t2] ∧ e ≠ it ∧ l ≠ e ∧ l ≠ it ∧
    ∀ D T ti h' tk', (∀ b o, b ≠ e → b ≠ it → s₁.heap.get? b = some o → h'.get? b = some o) → h'.get? D = some (lst [.ref T]) → h'.get? T = some { cls := .type "tuple", data := .seq [.int 0 ti, .int 1 t1].toArray } →
      s₁.heap.objs.size ≤ D → D < T → Q (.ref D) { s₁ with heap := h', toks := tk' }

theorem mc_comp {iter : Expr} {a b : Str} {pa pb pa' pb' pb2 p0 tp : Pos} {k0 kk : Nat} {scope : Scope} {cl : List (Str × Addr)} {pos : Pos} {Q : Value → Shared → Prop} (hh : A.handled = none)
    (hclos : closureFor scope env = pure cl) (hcell : ∀ y ∈ scope.names, y.2 ≠ .cell) (hkind : scope.kind = .function)
    (hnames : ∀ y ∈ scope.names, y.2 = .local → scope.names.lookup y.1 = some .local) (hxa : scope.names.lookup a = some .local) (hxb : scope.names.lookup b = some .local) (hab : ¬ a = b)
    (hda : (a == ("__debug__" : Str)) = false) (hdb : (b == ("__debug__" : Str)) = false)
    (h : wpAny (model prog w) A (eval iter env) (McSrc Q) E s)
    (hs : ∀ x, foldedSetIterable iter env x = pure x := by intro _; rfl) :
    wpAny (model prog w) A (eval (.ListComp (.Tuple [.Name a pa, .Name b pb] k0 p0) [⟨.Tuple [.Name a pa', .Name b pb'] kk tp, iter, [.Name b pb2], 0⟩] scope pos) env) Q E s := by
  rw [eval_ListComp]
  refine wpAny_comprehension_free (use := none) rfl hs hclos hkind hnames (wpAny_mono h (fun xv s₁ h₁ => ?_) fun _ _ e => e)
  obtain ⟨e, it, l, t1, t2, rfl, he, hit, hl, hei, hle, hli, hQ⟩ := h₁
  refine wpAny_pyIter_enum he ?_
  have hel : e < s₁.heap.objs.size := Heap.lt_size he
  have hitl : it < s₁.heap.objs.size := let ⟨_, x, _⟩ := hit; Heap.lt_size x
  have hll : l < s₁.heap.objs.size := let ⟨_, x, _⟩ := hl; Heap.lt_size x
  have W := WalksT.enumerateD (prog := prog) (w := w) (A := A) (draws_tup (A := A.in1) hh it l hli #[.int 1 t1, .int 0 t2]) e hei (by simp [hei, Ne.symm hle]) (by simp)
  refine wpAny_newObj_type (wpAny_newFunctionEnv hcell (by intro y hy; simp at hy) (fun h₁ hns₁ hsb₁ => ?_) hkind)
  dsimp only at hns₁ hsb₁ ⊢
  generalize hH2 : s₁.heap.push { cls := .type "list", dict := none, data := .seq ([] : List Value).toArray } = H2 at hns₁ hsb₁ ⊢
  have hC : H2.objs.size = s₁.heap.objs.size + 1 := by rw [← hH2, Heap.size_push]
  have hsz1 : h₁.objs.size = s₁.heap.objs.size + 2 := by rw [hsb₁.1, Heap.size_push, hC]
  have hDC : s₁.heap.objs.size < H2.objs.size := by omega
  have hC1 : H2.objs.size < h₁.objs.size := by omega
  generalize hDd : s₁.heap.objs.size = D at *
  generalize hCd : H2.objs.size = C at *
  have old : ∀ b o, s₁.heap.get? b = some o → h₁.get? b = some o := fun b o x => by
    have hb : b < D := hDd ▸ Heap.lt_size x
    exact hsb₁.extBut b o (Nat.ne_of_lt (Nat.lt_trans hb hDC)) (Heap.get?_push_of_some _ (hH2 ▸ Heap.get?_push_of_some _ x))
  have hacc : h₁.get? D = some (lst []) := hsb₁.extBut _ _ (Nat.ne_of_lt hDC) (Heap.get?_push_of_some _ (hH2 ▸ hDd ▸ Heap.get?_push_size _ rfl))
  have hst₁ : (∃ old, IsEnum h₁ e it ((0 : Nat) : Int) old) ∧ (IsTupIter h₁ it l 0 ∧ IsTup h₁ l #[.int 1 t1, .int 0 t2]) :=
    ⟨⟨_, old _ _ he⟩, let ⟨o, x, r⟩ := hit; ⟨o, old _ _ x, r⟩, let ⟨o, x, r⟩ := hl; ⟨o, old _ _ x, r⟩⟩
  have eD : (D : Nat) ≠ e := Nat.ne_of_gt hel
  have iD : (D : Nat) ≠ it := Nat.ne_of_gt hitl
  have lD : (D : Nat) ≠ l := Nat.ne_of_gt hll
  have eC : (C : Nat) ≠ e := Nat.ne_of_gt (Nat.lt_trans hel hDC)
  have iC : (C : Nat) ≠ it := Nat.ne_of_gt (Nat.lt_trans hitl hDC)
  have lC : (C : Nat) ≠ l := Nat.ne_of_gt (Nat.lt_trans hll hDC)
  let St : Nat → Heap → Prop := fun i h => (∃ old, IsEnum h e it ((i : Nat) : Int) old) ∧ (IsTupIter h it l i ∧ IsTup h l #[.int 1 t1, .int 0 t2])
  let J : Nat → Heap → Prop := fun i h => St i h ∧ (∃ m', h.Ns C m') ∧ (∀ b o, b ≠ e → b ≠ it → s₁.heap.get? b = some o → h.get? b = some o) ∧
    match i with
    | 0 => h.get? D = some (lst [])
    | _ => ∃ T ti, (D : Nat) < T ∧ (C : Nat) < T ∧ h.get? D = some (lst [.ref T]) ∧ h.get? T = some { cls := .type "tuple", data := .seq [.int 0 ti, .int 1 t1].toArray }
  have loop : ∀ s₃ : Shared, s₃ = { s₁ with heap := h₁, toks := s₁.toks + ([] : List (Str × Value)).length } →
      codeAny (model prog w) A (.compLoop (.ListComp (.Tuple [.Name a pa, .Name b pb] k0 p0) [⟨.Tuple [.Name a pa', .Name b pb'] kk tp, iter, [.Name b pb2], 0⟩] scope pos) 0 (.ref e) (.ref D) (compEnvC scope cl C env))
        (compPost (model prog w) A E none Q (.ref D) C) s₃ := by
    rintro s₃ rfl
    let Inv : Nat → Shared → Prop := fun k s' => ∃ h' tk i, s' = { s₁ with heap := h', toks := tk } ∧ i ≤ 2 ∧ k = 3 - i ∧ J i h'
    refine kct_loop Inv ?_ 3 ⟨h₁, _, 0, rfl, by omega, rfl, hst₁, ⟨_, hns₁⟩, fun b o _ _ x => old b o x, hacc⟩
    rintro k s' ⟨h', tk, i, rfl, hi, rfl, hst, ⟨m', hn⟩, hk, hj⟩
    by_cases hlt : i < 2
    · refine W.item i _ _ _ hlt hst fun T vals h₂ tk₂ hP hT hIT hMid hk₂ => ?_
      refine W.go [.Name a pa', .Name b pb'] kk tp i T _ _ _ hMid fun h₃ hst₃ hk₃ => ?_
      obtain ⟨t, x, hx, rfl⟩ := hP
      have hTw := W.apart _ _ _ hMid
      have hk23 : ∀ b o, b ≠ e → b ≠ it → h'.get? b = some o → h₃.get? b = some o := fun b o q1 q2 x => hk₃ b o (by simp [q1, q2]) (hk₂ b o (by simp [q1, q2]) x)
      have hT3 : IsTup h₃ T #[.int i t, x] := let ⟨o, g, r⟩ := hIT; ⟨o, hk₃ T o hTw g, r⟩
      refine assign_Tuple_tuple hh hT3 rfl rfl fun h₅ he5 => ?_
      have he5' : ∀ b o, h₃.get? b = some o → h₅.get? b = some o := fun b o g => he5 b o (Nat.ne_of_lt (Heap.lt_size g)) g
      have hn5 : h₅.Ns C m' := (hn.at' fun o g => hk23 C o eC iC g).at' fun o g => he5' C o g
      refine assignInOrder_cons (wpAny_assign_Name (wpAny_storeName_local (lookup_relabel_local hxa) hn5 (fun h₆ hn₆ hs₆ => ?_) (by simp [compEnvC, relabel, hkind])))
      refine assignInOrder_cons (wpAny_assign_Name (wpAny_storeName_local (lookup_relabel_local hxb) hn₆ (fun h₇ hn₇ hs₇ => ?_) (by simp [compEnvC, relabel, hkind])))
      refine assignInOrder_nil ?_
      have hk7 : ∀ b o, b ≠ e → b ≠ it → b ≠ C → h'.get? b = some o → h₇.get? b = some o := fun b o q1 q2 q3 g => hs₇.extBut b o q3 (hs₆.extBut b o q3 (he5' b o (hk23 b o q1 q2 g)))
      have hst7 : St (i + 1) h₇ := W.frame _ _ _ hst₃ fun b hb o g => by
        have hbC : b ≠ C := fun q => by
          rcases List.mem_cons.mp hb with r | hb
          · exact eC (q ▸ r)
          rcases List.mem_cons.mp hb with r | hb
          · exact iC (q ▸ r)
          · exact lC (q ▸ List.mem_singleton.mp hb)
        exact hs₇.extBut b o hbC (hs₆.extBut b o hbC (he5' b o g))
      have hk7' : ∀ b o, b ≠ e → b ≠ it → s₁.heap.get? b = some o → h₇.get? b = some o := fun b o q1 q2 g =>
        hk7 b o q1 q2 (fun q => Nat.lt_irrefl _ (Nat.lt_trans hDC (q ▸ hDd ▸ Heap.lt_size g))) (hk b o q1 q2 g)
      have hmb : (fun y => if y = b then some x else if y = a then some (Value.int (i : Int) t) else m' y) b = some x := by simp
      have hma : (fun y => if y = b then some x else if y = a then some (Value.int (i : Int) t) else m' y) a = some (Value.int (i : Int) t) := by simp [hab]
      have hi' : i = 0 ∨ i = 1 := by omega
      rcases hi' with rfl | rfl
      · have hx' : x = .int 1 t1 := by simpa using hx.symm
        subst hx'
        have hj' : h'.get? D = some (lst []) := hj
        have hj7 : h₇.get? D = some (lst []) := hk7 _ _ eD iD (Nat.ne_of_lt hDC) hj'
        refine isTrue_plain (ldVarK hn₇ hmb (truthy_int ?_) hkind (lookup_relabel_local hxb) hdb)
        rw [if_pos (by decide)]
        refine Tuple_ (spliced_more (ldVarK hn₇ hma ?_ hkind (lookup_relabel_local hxa) hda))
        refine spliced_more (ldVarK hn₇ hmb ?_ hkind (lookup_relabel_local hxb) hdb)
        refine spliced_none (wpAny_newObj_type ?_ (by show ([Value.int ((0 : Nat) : Int) t, Value.int 1 t1] : List Value).toArray.size ≤ sizeLine; rw [List.size_toArray]; size_fits))
        have hDT : (D : Nat) < h₇.objs.size := Heap.lt_size hj7
        have hCT : (C : Nat) < h₇.objs.size := hn₇.lt
        refine append_at (its := #[]) (n := 0) (Heap.get?_push_of_some _ hj7) (fun h₈ hs₈ hD₈ => ?_) (by size_fits)
        have kp : ∀ b o, b ≠ D → h₇.get? b = some o → h₈.get? b = some o := fun b o hb g => hs₈.extBut b o hb (Heap.get?_push_of_some _ g)
        refine ⟨2, by omega, h₈, _, 1, rfl, by omega, rfl, W.frame _ _ _ hst7 (fun b hb o g => kp b o (fun q => ?_) g), ⟨_, hn₇.at' fun o g => kp C o (Nat.ne_of_gt hDC) g⟩, fun b o q1 q2 g => kp b o (fun q => Nat.lt_irrefl _ (q ▸ hDd ▸ Heap.lt_size g)) (hk7' b o q1 q2 g), h₇.objs.size, t, hDT, hCT, hD₈, ?_⟩
        · rcases List.mem_cons.mp hb with r | hb
          · exact eD (q ▸ r)
          rcases List.mem_cons.mp hb with r | hb
          · exact iD (q ▸ r)
          · exact lD (q ▸ List.mem_singleton.mp hb)
        · exact hs₈.extBut _ _ (Nat.ne_of_gt hDT) (Heap.get?_push_size _ rfl)
      · have hx' : x = .int 0 t2 := by simpa using hx.symm
        subst hx'
        refine isTrue_plain (ldVarK hn₇ hmb (truthy_int ?_) hkind (lookup_relabel_local hxb) hdb)
        rw [if_neg (by decide)]
        obtain ⟨T', ti, h1, hCT, h2, h3⟩ := (show ∃ T ti, (D : Nat) < T ∧ (C : Nat) < T ∧ h'.get? D = some (lst [.ref T]) ∧ h'.get? T = some { cls := .type "tuple", data := .seq [.int 0 ti, .int 1 t1].toArray } from hj)
        have Te : (T' : Nat) ≠ e := Nat.ne_of_gt (Nat.lt_trans hel h1)
        have Ti : (T' : Nat) ≠ it := Nat.ne_of_gt (Nat.lt_trans hitl h1)
        exact ⟨1, by omega, h₇, _, 2, rfl, by omega, rfl, hst7, ⟨_, hn₇⟩, hk7', T', ti, h1, hCT, hk7 _ _ eD iD (Nat.ne_of_lt hDC) h2, hk7 _ _ Te Ti (Nat.ne_of_gt hCT) h3⟩
    · have hi2 : i = 2 := by omega
      subst hi2
      refine W.done _ _ _ hst fun h₂ tk₂ hk₂ => ?_
      have kp : ∀ b o, b ≠ e → b ≠ it → h'.get? b = some o → h₂.get? b = some o := fun b o q1 q2 g => hk₂ b o (by simp [q1, q2]) g
      obtain ⟨T', ti, h1, hCT, h2, h3⟩ := (show ∃ T ti, (D : Nat) < T ∧ (C : Nat) < T ∧ h'.get? D = some (lst [.ref T]) ∧ h'.get? T = some { cls := .type "tuple", data := .seq [.int 0 ti, .int 1 t1].toArray } from hj)
      have Te : (T' : Nat) ≠ e := Nat.ne_of_gt (Nat.lt_trans hel h1)
      have Ti : (T' : Nat) ≠ it := Nat.ne_of_gt (Nat.lt_trans hitl h1)
      refine ⟨m', hn.at' fun o g => kp C o eC iC g, fun h₃ hs₃ => ?_⟩
      have kp3 : ∀ b o, b ≠ e → b ≠ it → b ≠ C → h'.get? b = some o → h₃.get? b = some o := fun b o q1 q2 q3 g => hs₃.extBut b o q3 (kp b o q1 q2 g)
      exact hQ D T' ti h₃ _ (fun b o q1 q2 g => kp3 b o q1 q2 (fun q => Nat.lt_irrefl _ (Nat.lt_trans hDC (q ▸ hDd ▸ Heap.lt_size g))) (hk b o q1 q2 g)) (kp3 _ _ eD iD (Nat.ne_of_lt hDC) h2) (kp3 _ _ Te Ti (Nat.ne_of_gt hCT) h3) (Nat.le_refl _) h1
  exact codeAny_compStart_list (loop _ rfl) (wpAny_pyIter_enum (old _ _ he) (loop _ rfl))

theorem mc_call {h₀ : Heap} {L l : Addr} {m : Str → Option Value} {news : List (Addr × Obj)} {t1 t2 : Tok} {n : Nat} {Q : Value → Shared → Prop} (F : Fr h₀ L s.heap m) (N : News h₀ L s.heap news)
    (hm : (l, ({ cls := .type "tuple", data := .seq #[.int 1 t1, .int 0 t2] n } : Obj)) ∈ news)
    (hQ : ∀ D T ti h' tk', Fr h₀ L h' m → News h₀ L h' ((D, lst [.ref T]) :: (T, { cls := .type "tuple", data := .seq [.int 0 ti, .int 1 t1].toArray }) :: news) → (∀ p ∈ news, p.1 < D) → D < T → Q (.ref D) { s with heap := h', toks := tk' }) :
    wpAny (model prog w) A (call (.type "enumerate") [.ref l]) (McSrc Q) E s := by
  have hlg := (N _ hm).1
  have hll : l < s.heap.objs.size := Heap.lt_size hlg
  refine call_enum_tup (items := #[.int 1 t1, .int 0 t2]) ⟨_, hlg, rfl, n, rfl⟩ fun h' he hit hz hk => ?_
  refine ⟨_, _, l, t1, t2, rfl, he, hit, ⟨_, hk _ _ hlg, rfl, n, rfl⟩, ?_, ?_, ?_, ?_⟩
  · exact Nat.succ_ne_self _
  · exact Nat.ne_of_lt (Nat.lt_succ_of_lt hll)
  · exact Nat.ne_of_lt hll
  · intro D T ti h'' tk' kp hD hT hsD hDT
    have hzD : s.heap.objs.size < D := by
      have : h'.objs.size ≤ D := hsD
      omega
    have up : ∀ b o, s.heap.get? b = some o → h''.get? b = some o := fun b o g => by
      have hb : b < s.heap.objs.size := Heap.lt_size g
      exact kp b o (Nat.ne_of_lt (Nat.lt_succ_of_lt hb)) (Nat.ne_of_lt hb) (hk b o g)
    have fresh : ∀ a : Addr, s.heap.objs.size ≤ a → h₀.get? a = none := fun a ha => by
      cases e : h₀.get? a with
      | none => rfl
      | some o => exact absurd (Heap.lt_size (F.keep _ _ e)) (Nat.not_lt.mpr ha)
    have hL : L < s.heap.objs.size := F.ns.lt
    refine hQ D T ti h'' tk' (F.keeps up) (fun p hp => ?_) (fun p hp => Nat.lt_trans (Heap.lt_size (N p hp).1) hzD) hDT
    rcases List.mem_cons.mp hp with rfl | hp
    · exact ⟨hD, Nat.ne_of_gt (Nat.lt_trans hL hzD), fresh _ (Nat.le_of_lt hzD)⟩
    rcases List.mem_cons.mp hp with rfl | hp
    · exact ⟨hT, Nat.ne_of_gt (Nat.lt_trans (Nat.lt_trans hL hzD) hDT), fresh _ (Nat.le_of_lt (Nat.lt_trans hzD hDT))⟩
    · exact ⟨up _ _ (N p hp).1, (N p hp).2⟩
end
end Mine
end R1_part
/-! R2 -/
section R2_part
open PySem PySem.W PyProof.Rows PyProof.Rows.LCg
set_option maxRecDepth 100000
namespace Mine

/-- a code table, as the interpreter grows it -/
def TabOk (tb : Obj) : Prop := ∃ ps : Array Value, tb = { cls := .none, data := .fields ps } ∧ TriplesOk ps.toList

/-- the code of FQP.__init__ and its table -/
theorem initCode {P : Params} {h : Heap} (X : (Mine.hd.heap_1 P).In h) {ps : Array Value} (ht : h.get? 51 = some { cls := .none, data := .fields ps }) (hp : TriplesOk ps.toList) : h.IsCode 53 51 ps ∧ h.TableAt 53 51 ps := by
  have e : ∃ o vs file tf flags tg inF text tt, (Mine.hd.heap_1 P).lookup 53 = some o ∧ o.cls = .type "code" ∧ o.data = .fields vs ∧ vs[11]? = some (.ref 51) ∧ vs.getD 11 .none = .ref 51 ∧ vs.getD 18 .none = .str file tf ∧
    vs.getD 7 .none = .int flags tg ∧ vs.getD 9 .none = .bool inF ∧ vs.getD 10 .none = .int text tt :=
    ⟨_, _, _, _, _, _, _, _, _, rfl, rfl, rfl, rfl, rfl, rfl, rfl, rfl, rfl⟩
  obtain ⟨o, vs, file, tf, flags, tg, inF, text, tt, e1, e2, e3, e4, e5, e6, e7, e8, e9⟩ := e
  exact ⟨⟨o, vs, file, tf, flags, tg, inF, text, tt, _, X _ _ e1, e3, e5, e6, e7, e8, e9, ht, rfl, hp, by decide⟩, ⟨⟨o, vs, X _ _ e1, e2, e3, e4⟩, ht⟩⟩

section
variable {prog : Program} {w : World} {A : Around} {E : Value → Shared → Prop} {s : Shared} {env : Env}

/-- the generator at `a`: it will give two ints -/
def GenR (prog : Program) (w : World) (A : Around) (h₀ : Heap) (L : Addr) (news : List (Addr × Obj)) (a : Addr) (x y : Int) (s : Shared) : Prop :=
  ∃ fp wr g St, WalksS prog w A.in4 a fp wr (GenOnlyQ g) 2 (fun j v => ∃ t, v = .int (if j = 0 then x else y) t) St ∧ St 0 s ∧ (∀ i s', St i s' → s'.TypeIs (.ref a) "generator") ∧ a ∈ fp ∧ (∀ b ∈ fp, b < s.heap.objs.size) ∧
    ∀ b ∈ wr, b ≠ L ∧ h₀.get? b = none ∧ ∀ p ∈ news, p.1 ≠ b

theorem gen_tuple {h₀ : Heap} {L a : Addr} {m : Str → Option Value} {news : List (Addr × Obj)} {x y : Int} {Q : Value → Shared → Prop} (F : Fr h₀ L s.heap m) (N : News h₀ L s.heap news) (G : AllBare s.gens) (X : GenR prog w A h₀ L news a x y s)
    (hQ : ∀ D t1 t2 h' g' tk', AllBare g' → Fr h₀ L h' m → News h₀ L h' ((D, { cls := .type "tuple", data := .seq #[.int x t1, .int y t2] }) :: news) → (∀ p ∈ news, p.1 < D) → Q (.ref D) { s with heap := h', gens := g', toks := tk' }) :
    wpAny (model prog w) A (call (.type "tuple") [.ref a]) Q E s := by
  obtain ⟨fp, wr, g, St, W, hst, hT, ha, hfp, hwr⟩ := X
  refine call_tuple_gen (hsz := by size_fits) W.in4_3 hT hst hfp ha fun s' acc hm hacc => ?_
  obtain ⟨h', g', d', tk', os'⟩ := s'
  have e1 : d' = s.drawn := hm.drawn
  have e2 : os' = s.os := hm.os
  subst e1 e2
  obtain ⟨hsz, hit⟩ := hacc
  have h0 : acc = #[acc[0], acc[1]] := by
    apply Array.ext
    · simp [hsz]
    · intro i h1 h2
      have : i = 0 ∨ i = 1 := by omega
      rcases this with rfl | rfl <;> rfl
  obtain ⟨t1, q1⟩ := hit 0 acc[0] (by simp)
  obtain ⟨t2, q2⟩ := hit 1 acc[1] (by simp)
  rw [q1, q2] at h0
  simp only [if_pos, if_neg, Nat.one_ne_zero, not_false_eq_true] at h0
  subst h0
  have hk : ∀ b o, b ∉ wr → s.heap.get? b = some o → h'.get? b = some o := hm.heap
  have F1 : Fr h₀ L h' m := ⟨F.ns.at' fun o e => hk L o (fun q => (hwr L q).1 rfl) e, fun b o e => hk b o (fun q => by rw [(hwr b q).2.1] at e; cases e) (F.keep b o e), F.above⟩
  have N1 : News h₀ L h' news := fun p hp => ⟨hk _ _ (fun q => (hwr _ q).2.2 p hp rfl) (N p hp).1, (N p hp).2⟩
  exact hQ _ t1 t2 _ g' tk' (G.movedS hm) (F1.push _) (N1.push F1 _) fun p hp => Heap.lt_size (N1 p hp).1
end
end Mine
end R2_part
/-! R3 -/
section R3_part
open PySem PySem.W PyProof.Rows PyProof.Rows.LCg
set_option maxRecDepth 100000
namespace Mine
section
variable {prog : Program} {w : World} {A : Around} {E : Value → Shared → Prop} {s : Shared} {env : Env}

theorem code_trip {h : Heap} {c P : Addr} {ps : Array Value} (x : h.IsCode c P ps) : TriplesOk ps.toList := by
  obtain ⟨_, _, _, _, _, _, _, _, _, _, _, _, _, _, _, _, _, _, _, htr, _⟩ := x
  exact htr
theorem fm_find {P : Params} {es : List DictEntry} {n : Nat} {v : Value} (hl : getL (Str.ofString "field_modulus") es = some (some v)) :
    findIn (Mine.hd.heap_1 P) (.ref 192) "__getattribute__" = some (some (.builtin "object.__getattribute__")) ∧ findObj (Mine.hd.heap_1 P) 192 (some (dictOf es n)) (Str.ofString "field_modulus") = some (.value v) :=
  ⟨by kernel_rfl, findObj_own (attr := none) (by kernel_rfl) (by kernel_rfl) (by kernel_rfl) hl⟩

theorem gen_make {p : Program} {loose : List Str} {mean : ExcName → Option Value} {mg mb : Str → Option Value} {h₀ : Heap} {m : Str → Option Value} {news : List (Addr × Obj)} {tb : Obj} {l cs sx d : Addr} {oc : Obj} {x y q : Int} {t1 t2 tq : Tok} {k n : Nat} {es : List DictEntry} {Q : Value → Shared → Prop}
    {xn yn sn : Str} {px1 ps pa pb px py pos : Pos} {scope : Scope}
    (F : Fr h₀ env.locals s.heap m) (N : News h₀ env.locals s.heap ((51, tb) :: news)) (hn51 : ∀ p ∈ news, p.1 ≠ 51) (htb : TabOk tb) (G : AllBare s.gens) (X : (Mine.hd.heap_1 w.params).In h₀) (T : Top p loose mean mg mb h₀) (hh : A.handled = none)
    (hcode : env.code = .ref 53) (hgl : env.globals = mainGlobals) (hroom : A.depth < recursionLimit) (hek : env.scope.kind = .function) (hey : env.kindOf yn = some .local) (hdy : (yn == ("__debug__" : Str)) = false) (hvy : m yn = some (.ref l))
    (hml : (l, ({ cls := .type "list", data := .seq #[.int x t1, .int y t2] k } : Obj)) ∈ news) (hmc : (cs, oc) ∈ news) (hoc : oc.data = .cell (some (.ref sx))) (hms : (sx, instObj 192 d) ∈ news) (hmd : (d, dictOf es n) ∈ news)
    (hfm : getL (Str.ofString "field_modulus") es = some (some (.int q tq))) (hq : q ≠ 0)
    (hco : scope.isCoroutine = false) (hclos : closureFor scope env = pure [(sn, cs)]) (hcell : ∀ y ∈ scope.names, y.2 ≠ .cell) (h0 : scope.names.lookup (".0" : Str) = some NameKind.local)
    (hx : scope.names.lookup xn = some .local) (hsn : scope.names.lookup sn = some .free) (hkind : scope.kind = .function) (hdx : (xn == ("__debug__" : Str)) = false) (hds : (sn == ("__debug__" : Str)) = false) (hdc : (sn == ("__classdict__" : Str)) = false)
    (hQ : ∀ a tb' h' g' tk', AllBare g' → TabOk tb' → Fr h₀ env.locals h' m → News h₀ env.locals h' ((51, tb') :: news) → GenR prog w A h₀ env.locals ((51, tb') :: news) a (x.fmod q) (y.fmod q) { s with heap := h', gens := g', toks := tk' } →
      Q (.ref a) { s with heap := h', gens := g', toks := tk' }) :
    wpAny (model prog w) A (eval (.GeneratorExp (.BinOp (.Name xn px1) .Mod (.Attribute (.Name sn ps) (Str.ofString "field_modulus") pa) pb) [⟨.Name xn px, .Name yn py, [], 0⟩] scope pos) env) Q E s := by
  refine wpAny_GeneratorExp_walksQ hh hco hclos hcell h0 hx hkind hroom ?_ (fun _ => rfl)
  refine wpAny_Name (wpAny_loadName_local hek hey F.ns hvy ?_) hdy
  have hlg := (N _ (List.mem_cons_of_mem _ hml)).1
  have hl : s.heap.IsList l #[.int x t1, .int y t2] := ⟨_, hlg, rfl, k, rfl⟩
  have hll : l < s.heap.objs.size := Heap.lt_size hlg
  have hL : env.locals < s.heap.objs.size := F.ns.lt
  refine wpAny_pyIter_list hl ⟨(T.nolimit.keeps F.keep).push _, ?_⟩
  generalize hI : s.heap.objs.size = I at hll hL ⊢
  generalize hS2 : s.heap.push { cls := .type "list_iterator", data := .fields #[.ref l, .int 0 0] } = S2
  have up2 : ∀ b o, s.heap.get? b = some o → S2.get? b = some o := fun b o e => hS2 ▸ Heap.get?_push_of_some _ e
  have hz2 : S2.objs.size = I + 1 := by rw [← hS2, Heap.size_push, hI]
  have hIit : S2.IsListIter I l 0 := ⟨_, by rw [← hS2, ← hI]; exact Heap.get?_push_size _ rfl, rfl, rfl⟩
  obtain ⟨pt, rfl, hpt⟩ := htb
  have h51s := N _ (List.mem_cons_self)
  have h51 : s.heap.get? 51 = some { cls := .none, data := .fields pt } := h51s.1
  have h51₀ : h₀.get? 51 = none := h51s.2.2
  have h51L : (51 : Addr) ≠ env.locals := h51s.2.1
  have C2 := initCode (X.keeps fun b o e => up2 b o (F.keep b o e)) (up2 _ _ h51) hpt
  let Iv : Value := .ref I
  let Post : Value → Addr → Shared → Prop := fun code => fun bi s₄ => ∃ I fp wr n₀ P St₀ pz F, Iv = .ref I ∧ (∀ A' : Around, A'.handled = none → Walks prog w A' I fp wr n₀ P St₀) ∧ St₀ 0 s₄.heap ∧ (∀ b ∈ fp, b < s₄.heap.objs.size) ∧ s₄.heap.NoLimit ∧ cStatics ∉ wr ∧
            (∀ href : Heap, (∀ b o, s₄.heap.get? b = some o → href.get? b = some o) →
              QuietGen prog w (genEnv scope [(sn, cs)] s₄.heap.objs.size code bi env) xn [] (.BinOp (.Name xn px1) .Mod (.Attribute (.Name sn ps) (Str.ofString "field_modulus") pa) pb) (List.range s₄.heap.objs.size) wr P pz F href) ∧
            (∀ a h₅ tk gs, gs.bare = true → s₄.heap.objs.size < a → h₅.objs.size = a + 1 → (∀ b o, s₄.heap.get? b = some o → h₅.get? b = some o) →
              WalksS prog w A.in4 a (a :: s₄.heap.objs.size :: List.range s₄.heap.objs.size) (s₄.heap.objs.size :: wr) (GenOnlyQ s₄.gens.size) (passing pz n₀ 0).length
                (fun j y => ∃ i, (passing pz n₀ 0)[j]? = some i ∧ F i y) (GenAt prog w A.in4 a s₄.gens.size s₄.heap.objs.size (List.range s₄.heap.objs.size) wr pz n₀ F) →
              GenAt prog w A.in4 a s₄.gens.size s₄.heap.objs.size (List.range s₄.heap.objs.size) wr pz n₀ F 0 { s₄ with gens := s₄.gens.push gs, toks := tk, heap := h₅ } →
              Q (.ref a) { s₄ with gens := s₄.gens.push gs, toks := tk, heap := h₅ })
  -- behind the code object
  have main : ∀ (code : Value) (h₃ : Heap) (tk₃ : Nat) (ps' : Array Value), TriplesOk ps'.toList → h₃.get? 51 = some { cls := .none, data := .fields ps' } → S2.objs.size ≤ h₃.objs.size → Heap.ExtBut 51 S2 h₃ →
      wpAny (model prog w) A (builtinsFor env.globals env.builtins) (Post code) E { s with heap := h₃, toks := tk₃ } := by
    intro code h₃ tk₃ ps' hp' ht' hz hx₃
    have up3 : ∀ b o, b ≠ 51 → s.heap.get? b = some o → h₃.get? b = some o := fun b o hb e => hx₃ b o hb (up2 b o e)
    have keep3 : ∀ b o, h₀.get? b = some o → h₃.get? b = some o := fun b o e => up3 b o (fun r => by rw [r, h51₀] at e; cases e) (F.keep b o e)
    obtain ⟨bm, ob, hb1, hb2, hb3, hb4, hb5, hb6⟩ := T.bmain
    refine wpAny_builtinsFor (hgl ▸ T.g.keeps keep3) hb1 hb2 (keep3 _ _ hb3) hb4 hb5 hb6 ?_
    have hIz : I < h₃.objs.size := by omega
    have hlz : l < h₃.objs.size := Nat.lt_trans hll hIz
    have hI51 : (I : Nat) ≠ 51 := Nat.ne_of_gt (hI ▸ Heap.lt_size h51)
    have hl51 : l ≠ 51 := hn51 _ hml
    have hcI : cStatics < I := by
      obtain ⟨_, z, _⟩ := T.nolimit.keeps F.keep
      exact hI ▸ z.lt
    refine ⟨I, [I, l], [I], 2, (fun i v => (#[Value.int x t1, .int y t2] : Array Value)[i]? = some v), _, (fun _ => true), (fun i v => ∃ t, v = .int (if i = 0 then x.fmod q else y.fmod q) t), rfl,
      fun A' hA => Walks.list hA I l (Nat.ne_of_lt hll) #[.int x t1, .int y t2], ⟨let ⟨o, g, r⟩ := hIit; ⟨o, hx₃ _ _ hI51 g, r⟩, let ⟨o, g, r⟩ := hl; ⟨o, up3 _ _ hl51 g, r⟩⟩, ?_, T.nolimit.keeps keep3, ?_, ?_, ?_⟩
    · intro b hb
      rcases List.mem_cons.mp hb with rfl | hb
      · exact hIz
      · rw [List.mem_singleton.mp hb]; exact hlz
    · intro hm
      exact Nat.ne_of_lt hcI (List.mem_singleton.mp hm)
    · intro href hhref
      have pass : ∀ (t : Shared), (∀ b ∈ List.range h₃.objs.size, b ∉ [I] → ∀ o, href.get? b = some o → t.heap.get? b = some o) → ∀ b o, b ≠ 51 → s.heap.get? b = some o → t.heap.get? b = some o := fun t hk b o hb e => by
        have g := up3 b o hb e
        refine hk b (List.mem_range.mpr (Heap.lt_size g)) (fun hm => ?_) o (hhref b o g)
        rw [List.mem_singleton.mp hm, ← hI] at e
        exact Nat.lt_irrefl _ (Heap.lt_size e)
      refine ⟨fun A' E' i v t m₂ hA hP hn hmx hk => wpAny_pure ⟨rfl, t.heap, t.toks, rfl, fun _ _ e => e⟩, fun A' E' i v t m₂ hA hP hpz hn hmx hk => ?_⟩
      have hv : v = .int (if i = 0 then x else y) (if i = 0 then t1 else t2) := by
        have hi : i < 2 := by
          have := (Array.getElem?_eq_some_iff.mp hP).1
          simpa using this
        have hi' : i = 0 ∨ i = 1 := by omega
        rcases hi' with rfl | rfl
        · simpa using hP.symm
        · simpa using hP.symm
      subst hv
      refine wpAny_BinOp (ldG hn hmx ?_ hkind hx hdx)
      have hcell' : t.heap.IsCell cs (some (.ref sx)) := ⟨oc, pass t hk _ _ (hn51 _ hmc) (N _ (List.mem_cons_of_mem _ hmc)).1, hoc⟩
      refine Attribute_any_ (wpAny_Name (wpAny_loadName_free (env := genEnv scope [(sn, cs)] h₃.objs.size code builtinsNs env) hkind hsn (by simp [genEnv]) hcell' ?_ hdc) hds)
      have XK : (Mine.hd.heap_1 w.params).In t.heap := X.keeps fun b o e => pass t hk b o (fun r => by rw [r, h51₀] at e; cases e) (F.keep b o e)
      have IA : InstAt t.heap sx (instObj 192 d) 192 (some (dictOf es n)) := ⟨pass t hk _ _ (hn51 _ hms) (N _ (List.mem_cons_of_mem _ hms)).1, rfl, rfl, pass t hk _ _ (hn51 _ hmd) (N _ (List.mem_cons_of_mem _ hmd)).1⟩
      refine get_value XK IA (fm_find (n := n) hfm).1 (fm_find (n := n) hfm).2 rfl ?_
      refine mod_int' hq ⟨⟨t.toks + 1, ?_⟩, t.heap, _, rfl, fun _ _ e => e⟩
      · congr 1
        split <;> rfl
    · intro a h₅ tk gs hb hag hz5 hk5 W hat
      have epass : passing (fun _ => true) 2 0 = [0, 1] := by decide
      rw [epass] at W
      have W' := W.imp (P' := fun j v => ∃ t, v = .int (if j = 0 then x.fmod q else y.fmod q) t) fun j v hjv => by
        obtain ⟨i, hi, t, hv⟩ := hjv
        have : i = j := by
          match j, hi with
          | 0, hi => simpa using hi.symm
          | 1, hi => simpa using hi.symm
          | j + 2, hi => simp at hi
        subst this
        exact ⟨t, hv⟩
      have keep5 : ∀ b o, b ≠ 51 → s.heap.get? b = some o → h₅.get? b = some o := fun b o hb e => hk5 b o (up3 b o hb e)
      have fresh : ∀ b : Addr, s.heap.objs.size ≤ b → h₀.get? b = none := fun b hb => by
        cases e : h₀.get? b with
        | none => rfl
        | some o => exact absurd (Heap.lt_size (F.keep _ _ e)) (Nat.not_lt.mpr hb)
      refine hQ a _ h₅ _ tk (G.push hb) ⟨ps', rfl, hp'⟩ ⟨F.ns.at' fun o e => keep5 _ o (Ne.symm h51L) e, fun b o e => hk5 b o (keep3 b o e), F.above⟩ (fun r hr => ?_) ⟨_, _, _, _, W', hat, fun i s' st => st.1.typeIs, List.mem_cons_self, fun b hb => ?_, fun b hb => ?_⟩
      · rcases List.mem_cons.mp hr with rfl | hr
        · exact ⟨hk5 _ _ ht', h51L, h51₀⟩
        · have z := N _ (List.mem_cons_of_mem _ hr)
          exact ⟨keep5 _ _ (hn51 _ hr) z.1, z.2⟩
      · show b < h₅.objs.size
        have hag' : h₃.objs.size < a := hag
        rw [hz5]
        rcases List.mem_cons.mp hb with rfl | hb
        · exact Nat.lt_succ_self _
        · rcases List.mem_cons.mp hb with rfl | hb
          · exact Nat.lt_succ_of_lt hag'
          · exact Nat.lt_succ_of_lt (Nat.lt_trans (List.mem_range.mp hb) hag')
      · have hbI : s.heap.objs.size ≤ b := by
          rw [hI]
          rcases List.mem_cons.mp hb with rfl | hb
          · exact Nat.le_of_lt hIz
          · rw [List.mem_singleton.mp hb]; exact Nat.le_refl _
        refine ⟨Nat.ne_of_gt (Nat.lt_of_lt_of_le (hI ▸ hL) hbI), fresh b hbI, fun r hr => ?_⟩
        rcases List.mem_cons.mp hr with rfl | hr
        · exact Nat.ne_of_lt (Nat.lt_of_lt_of_le (Heap.lt_size h51) hbI)
        · exact Nat.ne_of_lt (Nat.lt_of_lt_of_le (Heap.lt_size (N _ (List.mem_cons_of_mem _ hr)).1) hbI)
  have hpred : S2.objs.size.pred = I := by rw [hz2]; rfl
  have hpv : Value.ref S2.objs.size.pred = Iv := by rw [hpred]
  cases hnf : codeAmong pos pt.toList with
  | some cv => exact wpAny_genexprCode_hit hcode C2.1 hnf (main cv S2 s.toks pt hpt (up2 _ _ h51) (Nat.le_refl _) (fun b o _ e => e))
  | none =>
    refine wpAny_genexprCodeX hcode C2.1 C2.2 hnf fun c' h₃ tk₃ hx₃ hge hlt hcode₃ _ htab₃ _ => ?_
    have htr := code_trip hcode₃
    exact main (.ref c') h₃ tk₃ _ htr htab₃.2 (Nat.le_trans hge (Nat.le_of_lt hlt)) hx₃
end
end Mine
end R3_part
/-! M1 -/
section M1_part
open PySem PySem.W PyProof.Rows PySem.Calls
set_option maxRecDepth 100000
namespace Mine
section
variable {prog : Program} {w : World} {A₀ A : Around} {s : Shared} {base h₀ : Heap} {outer : List Env} {L : Addr} {m mg mb : Str → Option Value} {env : Env} {news : List (Addr × Obj)} {K : Frag} {p : Program} {loose : List Str} {mean : ExcName → Option Value}
  {R : Result → Shared → Prop} {name qual : Str} {params : Arguments} {body : List Stmt} {scope : Scope} {dV kV doc pm cdv ct oc : Value} {an od : Option Addr} {osl : Array (Option Value)} {f : Addr} {args : Args} {binds : List (Str × Value)}

/-- what stood before the call and is not in the ledger stands in the callee's base -/
def Based0 (h : Heap) (news : List (Addr × Obj)) (g : Heap) (L' : Addr) : Prop := (∀ b o, h.get? b = some o → (∀ q ∈ news, q.1 ≠ b) → g.get? b = some o) ∧ h.objs.size ≤ L'

theorem enter_def (B : Below A₀ base outer h₀) (F : Fr h₀ L s.heap m) (X₀ : K.In h₀) (N : News h₀ L s.heap news) (T : Top p loose mean mg mb h₀) (hA : A.frames = some (env :: outer)) (hf : env.frame = some L) (hke : env.scope.kind = .function)
    (ho : K.lookup f = some ⟨oc, od, .func (fnOf name qual params body scope dV kV doc pm an cdv ct), osl⟩) (hcd : codeIn K cdv qual = true) (hroom : A.depth < recursionLimit)
    (hbind : BindsTo s (fnOf name qual params body scope dV kV doc pm an cdv ct) args binds) (hloc : ∀ y ∈ binds, scope.names.lookup y.1 = some .local)
    (h : ∀ g L' h₁, Fr h₀ L g m → Fr g L' h₁ (fun y => binds.reverse.lookup y) → News g L' h₁ news → Below A base (env :: outer) g → K.In g → Top p loose mean mg mb g → Based0 s.heap news g L' →
      wpAny (model prog w) (A.deeper (envOf qual scope L' f cdv)) (execs body (envOf qual scope L' f cdv))
        (fun fl s' => LeaveK h₀ L m g R (match fl with | .ret v => v | _ => .none) s')
        (fun e s' => wpAny (model prog w) (A.deeper (envOf qual scope L' f cdv)) (leaving (envOf qual scope L' f cdv) e) (fun _ s'' => R (.error e) s'') (fun e' s'' => R (.error e') s'') s')
        { s with heap := h₁, toks := s.toks + binds.length })
    (hco : scope.isCoroutine = false) (hgen : scope.isGenerator = false) (hk : scope.kind = .function)
    (hcell : ∀ x ∈ scope.names, x.2 ≠ .cell) : codeAny (model prog w) A (.call (.ref f) args) R s := by
  obtain ⟨FG, BG, st, lv⟩ := groundX (R := R) B F N hA hf hke
  refine codeAny_call_def (fd := fnX name qual params body scope [] dV kV doc pm an cdv ct) (body := body) (binds := binds) hroom ((X₀.keeps F.keep) _ _ ho) rfl (T.nolimit.keeps F.keep) (codeRec_of (X₀.keeps F.keep) hcd) rfl hbind hcell hloc (fun h₁ hns hk₁ => ?_) hco hgen hk
  refine wpAny_mono (h _ s.heap.objs.size h₁ FG ⟨hns, fun b o e => hk₁ b o (of_hideAll _ e), Nat.le_of_eq (hideAll_size _ _)⟩
    (fun p hp => ⟨hk₁ _ _ (N p hp).1, Nat.ne_of_lt (Heap.lt_size (N p hp).1), hideAll_none _ (List.mem_map_of_mem hp)⟩) BG (X₀.keeps st) (T.keeps st) ⟨fun b o e hn => ?_, Nat.le_refl _⟩) (fun fl s' hl => lv _ _ hl) fun _ _ y => y
  refine hideAll_get _ e fun hm => ?_
  obtain ⟨q, hq, r⟩ := List.mem_map.mp hm
  exact hn q hq r

theorem enter_defC (B : Below A₀ base outer h₀) (F : Fr h₀ L s.heap m) (X₀ : K.In h₀) (N : News h₀ L s.heap news) (T : Top p loose mean mg mb h₀) (hA : A.frames = some (env :: outer)) (hf : env.frame = some L) (hke : env.scope.kind = .function)
    (ho : K.lookup f = some ⟨oc, od, .func (fnOf name qual params body scope dV kV doc pm an cdv ct), osl⟩) (hcd : codeIn K cdv qual = true) (hroom : A.depth < recursionLimit)
    (hbind : BindsTo s (fnOf name qual params body scope dV kV doc pm an cdv ct) args binds) (hkind : (binds.all fun y => scope.names.lookup y.1 == some .local || scope.names.lookup y.1 == some .cell) = true)
    (hnd : ((cellsFrom 0 scope.names []).map (·.1)).Nodup)
    (h : ∀ g L' h₁ tk cells, Fr h₀ L g m → Fr g L' h₁ (bindL (envOfC qual scope L' f cdv).kindOf binds fun _ => none) → News g L' h₁ (cells ++ news) →
      CellsAre (bindC (envOfC qual scope L' f cdv).kindOf binds fun _ => none) (cellsFrom (L' + 1) scope.names []) cells → Below A base (env :: outer) g → K.In g → Top p loose mean mg mb g → (∀ p ∈ news, p.1 < L') → Based0 s.heap news g L' →
      wpAny (model prog w) (A.deeper (envOfC qual scope L' f cdv)) (execs body (envOfC qual scope L' f cdv))
        (fun fl s' => LeaveK h₀ L m g R (match fl with | .ret v => v | _ => .none) s')
        (fun e s' => wpAny (model prog w) (A.deeper (envOfC qual scope L' f cdv)) (leaving (envOfC qual scope L' f cdv) e) (fun _ s'' => R (.error e) s'') (fun e' s'' => R (.error e') s'') s')
        { s with heap := h₁, toks := tk })
    (hco : scope.isCoroutine = false) (hgen : scope.isGenerator = false) (hk : scope.kind = .function) : codeAny (model prog w) A (.call (.ref f) args) R s := by
  obtain ⟨FG, BG, st, lv⟩ := groundX (R := R) B F N hA hf hke
  refine codeAny_call_function hroom ((X₀.keeps F.keep) _ _ ho) rfl hco hgen rfl (codeRec_of (X₀.keeps F.keep) hcd) (hbind _ _ _ _ ?_)
  refine wpAny_newFunctionEnv_cells hk (kindsX hkind _) fun env' he s' x => ?_
  subst he
  refine ⟨(T.nolimit.keeps F.keep).keeps x.toInCall.keep, codeAny_func ?_⟩
  obtain ⟨h₁, tk, rfl, _⟩ := x.done
  have hk₁ := x.toInCall.keep
  obtain ⟨cells, NC, Y⟩ := Cl.news (h₀ := s.heap) (Nat.le_refl _) fun n c hm => ⟨x.cell n c (lookup_of_mem_nodup (cellsFrom_names scope.names 0 (s.heap.objs.size + 1) [] [] rfl ▸ hnd) hm), x.above n c hm⟩
  refine wpAny_mono (h _ s.heap.objs.size h₁ tk cells FG ⟨x.toInCall.ns, fun b o e => hk₁ b o (of_hideAll _ e), Nat.le_of_eq (hideAll_size _ _)⟩ (fun p hp => ?_) Y BG (X₀.keeps st) (T.keeps st) (fun p hp => Heap.lt_size (N p hp).1) ⟨fun b o e hn => ?_, Nat.le_refl _⟩) (fun fl s' hl => lv _ _ hl) fun _ _ y => y
  · rcases List.mem_append.mp hp with hp | hp
    · refine ⟨(NC p hp).1, (NC p hp).2.1, ?_⟩
      cases q : (hideAll s.heap (news.map (·.1))).get? p.1 with
      | none => rfl
      | some o => have := of_hideAll _ q; rw [(NC p hp).2.2] at this; cases this
    · exact ⟨hk₁ _ _ (N p hp).1, Nat.ne_of_lt (Heap.lt_size (N p hp).1), hideAll_none _ (List.mem_map_of_mem hp)⟩
  · refine hideAll_get _ e fun hm => ?_
    obtain ⟨q, hq, r⟩ := List.mem_map.mp hm
    exact hn q hq r

/-- the ledger with the table's row taken to its head -/
inductive Split (tb : Obj) : List (Addr × Obj) → List (Addr × Obj) → Prop
  | here {r : List (Addr × Obj)} : Split tb ((51, tb) :: r) r
  | skip {q : Addr × Obj} {l r : List (Addr × Obj)} (h : Split tb l r) : Split tb (q :: l) (q :: r)
theorem Split.mem {tb : Obj} {l r : List (Addr × Obj)} (h : Split tb l r) : ∀ q ∈ (51, tb) :: r, q ∈ l := by
  induction h with
  | here => exact fun _ h => h
  | skip _ ih =>
    intro q hq
    rcases List.mem_cons.mp hq with e | hq
    · exact .tail _ (ih q (e ▸ .head _))
    · rcases List.mem_cons.mp hq with e | hq
      · exact e ▸ .head _
      · exact .tail _ (ih q (.tail _ hq))
theorem Split.toNews {h : Heap} {tb : Obj} {l r : List (Addr × Obj)} (N : News h₀ L h l) (x : Split tb l r) : News h₀ L h ((51, tb) :: r) := fun q hq => N q (x.mem q hq)

theorem news_cons {h : Heap} {q : Addr × Obj} {tl r : List (Addr × Obj)} (Nt : News h₀ L h tl) (hq : q ∈ tl) (Nr : News h₀ L h r) : News h₀ L h (q :: r) := fun p hp => by
  rcases List.mem_cons.mp hp with rfl | hp
  · exact Nt _ hq
  · exact Nr p hp

/-- the caller's other objects, behind the call -/
theorem rest_after {h h' g : Heap} {L' : Addr} {m' : Str → Option Value} {rest : List (Addr × Obj)} {ex tl : List (Addr × Obj)} (hg : Based0 h news g L') (F' : Fr g L' h' m') (N : News h₀ L h rest) (Nt : News h₀ L h' tl)
    (hne : ∀ q ∈ news, q ∈ ex ∨ ∀ r ∈ rest, r.1 ≠ q.1) (hex : ∀ q ∈ ex, h.get? q.1 = some q.2 ∧ q ∈ tl) : News h₀ L h' rest := by
  intro r hr
  · refine ⟨?_, (N r hr).2⟩
    by_cases hq : ∃ q ∈ news, q.1 = r.1
    · obtain ⟨q, hq, e⟩ := hq
      rcases hne q hq with he | he
      · have h1 := (hex q he).1
        have h2 := (N r hr).1
        rw [e, h2] at h1
        have e2 : r.2 = q.2 := Option.some.inj h1
        have h3 := (Nt q (hex q he).2).1
        rw [e, ← e2] at h3
        exact h3
      · exact absurd e.symm (he r hr)
    · exact F'.keep _ _ (hg.1 _ _ (N r hr).1 fun q hq' e => hq ⟨q, hq', e⟩)
end
end Mine
end M1_part
/-! R4 -/
section R4_part
open PySem PySem.W PyProof.Rows PyProof.Rows.LCg
open Sem (wp)
set_option maxRecDepth 100000
namespace Mine
section
variable {prog : Program} {w : World} {A : Around} {E : Value → Shared → Prop} {s : Shared}

theorem alive_any {M : Model} {α : Type} {a : Addr} {k : Option Obj → Sem α} {Q : α → Shared → Prop} (h : wpAny M A (k (s.heap.get? a)) Q E s) : wpAny M A (Sem.loadIfAlive a k) Q E s := fun Γ p hΓ => by
  rw [Sem.wp_loadIfAlive]; exact h Γ p hΓ

/-- the second pair of enumerate, the first one still held -/
theorem enum_again {e it l T : Addr} {i : Nat} {items : Array Value} {x item : Value} {oT : Obj} {Q : Option Value → Shared → Prop} (he : IsEnumOut s.heap e it i item T) (hT : s.heap.get? T = some oT)
    (hit : IsTupIter s.heap it l i) (hl : IsTup s.heap l items) (hx : items[i]? = some x) (hei : e ≠ it) (hTi : T ≠ it) (hTe : T ≠ e) (hle : l ≠ e) (hli : l ≠ it)
    (hQ : ∀ h' tk, (∃ f, h'.get? e = some { cls := .type "enumerate", dict := none, data := .fields #[rawInt T, f, .ref it, rawInt ((i : Int) + 1), .none, item], slots := #[] }) → IsTupIter h' it l (i + 1) → IsTup h' l items →
      h'.get? s.heap.objs.size = some { cls := .type "tuple", data := .seq #[.int i tk, x] } → h'.objs.size = s.heap.objs.size + 1 →
      (∀ b o, b ≠ e → b ≠ it → s.heap.get? b = some o → h'.get? b = some o) → Q (some (.ref s.heap.objs.size)) { s with heap := h', toks := tk + 1 }) :
    wpAny (model prog w) A (pyNext (.ref e)) Q E s := by
  have hTy : s.TypeIs (.ref e) "enumerate" := ⟨_, he, rfl⟩
  unfold pyNext
  refine wpAny_bind (wpAny_attempt (wpAny_callSpecial?_slot (name := Str.ofString "__next__") hTy F.slot_enumerate_next (wpAny_call_entry F.slot_enumerate_next hTy F.entry_enumerate_next ?_ (F.args_enumerate_next_1 _))))
  obtain ⟨hp, g, d, tk₀, os⟩ := s
  show wpAny _ _ (field (.ref e) 2 >>= _) _ _ _
  refine wpAny_bind (wpAny_field he rfl (x := .ref it) rfl ?_)
  refine wpAny_bind (draw_tup_item hit hl hx fun h₁ hit₁ hs₁ => ?_)
  replace hs₁ : Heap.SameBut it hp h₁ := hs₁
  have he₁ : IsEnumOut h₁ e it i item T := (hs₁.2 e hei).trans he
  have hel : e < hp.objs.size := Heap.lt_size he
  show wpAny _ _ (field (.ref e) 3 >>= _) _ _ ⟨h₁, g, d, tk₀, os⟩
  refine wpAny_bind (wpAny_field he₁ rfl (x := rawInt i) rfl ?_)
  show wpAny _ _ (field (.ref e) 4 >>= _) _ _ ⟨h₁, g, d, tk₀, os⟩
  refine wpAny_bind (wpAny_field he₁ rfl (x := .none) rfl ?_)
  show wpAny _ _ (mkInt i >>= _) _ _ ⟨h₁, g, d, tk₀, os⟩
  refine wpAny_bind (wpAny_mkInt ?_)
  show wpAny _ _ (setField (.ref e) 3 (rawInt ((i : Int) + 1)) >>= _) _ _ ⟨h₁, g, d, tk₀ + 1, os⟩
  refine wpAny_bind (wpAny_setField_rec he₁ (by simp) fun h₂ he₂ hs₂ => ?_)
  replace hs₂ : Heap.SameBut e h₁ h₂ := hs₂
  replace he₂ : IsEnumOut h₂ e it ((i : Int) + 1) item T := he₂
  show wpAny _ _ (setField (.ref e) 4 .none >>= _) _ _ ⟨h₂, g, d, tk₀ + 1, os⟩
  refine wpAny_bind (wpAny_setField_rec he₂ (by simp) fun h₃ he₃ hs₃ => ?_)
  replace hs₃ : Heap.SameBut e h₂ h₃ := hs₃
  replace he₃ : IsEnumOut h₃ e it ((i : Int) + 1) item T := he₃
  show wpAny _ _ (newTuple [.int i tk₀, x] >>= _) _ _ ⟨h₃, g, d, tk₀ + 1, os⟩
  refine wpAny_bind (wpAny_newTuple ?_)
  have hsz : h₃.objs.size = hp.objs.size := by rw [hs₃.1, hs₂.1, hs₁.1]
  generalize hh₄ : h₃.push { cls := .type "tuple", data := .seq [Value.int i tk₀, x].toArray } = h₄
  have he₄ : IsEnumOut h₄ e it ((i : Int) + 1) item T := hh₄ ▸ Heap.get?_push_of_some _ he₃
  have ht₄ : h₄.get? hp.objs.size = some { cls := .type "tuple", data := .seq #[.int i tk₀, x] } := by rw [← hh₄, ← hsz]; exact Heap.get?_push_size _ rfl
  have hz₄ : h₄.objs.size = hp.objs.size + 1 := by rw [← hh₄, Heap.size_push, hsz]
  have hk₄ : ∀ b o, b ≠ e → b ≠ it → hp.get? b = some o → h₄.get? b = some o := fun b o hbe hbi hb => by
    rw [← hh₄]; exact Heap.get?_push_of_some _ (hs₃.extBut b o hbe (hs₂.extBut b o hbe (hs₁.extBut b o hbi hb)))
  have hi₄ : IsTupIter h₄ it l (i + 1) := let ⟨o, q, r⟩ := hit₁; ⟨o, hh₄ ▸ Heap.get?_push_of_some _ (hs₃.extBut it o (Ne.symm hei) (hs₂.extBut it o (Ne.symm hei) q)), r⟩
  have hl₄ : IsTup h₄ l items := let ⟨o, q, r⟩ := hl; ⟨o, hk₄ l o hle hli q, r⟩
  have hT₄ : h₄.get? T = some oT := hk₄ T oT hTe hTi hT
  show wpAny _ _ (Builtin.SmallTypes.ownedTupleIsFree (.ref e) >>= _) _ _ ⟨h₄, g, d, tk₀ + 1, os⟩
  rw [hsz]
  refine wpAny_bind ?_
  unfold Builtin.SmallTypes.ownedTupleIsFree
  refine wpAny_bind (wpAny_field he₄ rfl (x := rawInt T) rfl ?_)
  show wpAny _ _ (loadIfAlive ((T : Int)).toNat >>= _) _ _ ⟨h₄, g, d, tk₀ + 1, os⟩
  rw [Int.toNat_natCast]
  refine wpAny_bind (alive_any ?_)
  show wpAny _ _ (pure (h₄.get? T)) _ _ _
  rw [hT₄]
  refine wpAny_pure ?_
  show wpAny _ _ (field (.ref e) 1 >>= _) _ _ ⟨h₄, g, d, tk₀ + 1, os⟩
  refine wpAny_bind (wpAny_field he₄ rfl (x := .bool false) rfl ?_)
  show wpAny _ _ (setField (.ref e) 1 (.bool true) >>= _) _ _ ⟨h₄, g, d, tk₀ + 1, os⟩
  refine wpAny_bind (wpAny_setField_rec he₄ (by simp) fun h₅ he₅ hs₅ => ?_)
  replace hs₅ : Heap.SameBut e h₄ h₅ := hs₅
  refine wpAny_pure ?_
  refine wpAny_pure ⟨_, rfl, wpAny_pure (hQ h₅ tk₀ ⟨.bool true, he₅⟩ ?_ ?_ ?_ ?_ ?_)⟩
  · exact let ⟨o, q, r⟩ := hi₄; ⟨o, hs₅.extBut it o (Ne.symm hei) q, r⟩
  · exact let ⟨o, q, r⟩ := hl₄; ⟨o, hs₅.extBut l o hle q, r⟩
  · exact hs₅.extBut _ _ (Nat.ne_of_gt hel) ht₄
  · rw [hs₅.1, hz₄]
  · exact fun b o hbe hbi hb => hs₅.extBut b o hbe (hk₄ b o hbe hbi hb)
end
end Mine
end R4_part
/-! R5 -/
section R5_part
open PySem PySem.W PyProof.Rows PyProof.Rows.LCg
open Sem (wp)
set_option maxRecDepth 100000
namespace Mine
theorem enum_nolen : typeLookup (.type "enumerate") "__len__" = pure none := by rw [typeLookup_type, builtinLookup_eq_fast]; kernel_rfl
theorem enum_nohint : typeLookup (.type "enumerate") "__length_hint__" = pure none := by rw [typeLookup_type, builtinLookup_eq_fast]; kernel_rfl
section
variable {prog : Program} {w : World} {A : Around} {E : Value → Shared → Prop} {s : Shared} {R : Result → Shared → Prop}

theorem enum_end {e it l : Addr} {i : Nat} {items : Array Value} {vs : Array Value} {Q : Option Value → Shared → Prop} (hh : A.handled = none) (he : s.heap.get? e = some { cls := .type "enumerate", dict := none, data := .fields vs, slots := #[] }) (h2 : vs[2]? = some (.ref it))
    (hit : IsTupIter s.heap it l i) (hl : IsTup s.heap l items) (hx : items[i]? = none)
    (hQ : ∀ h', Heap.ExtBut it s.heap h' → Q none { s with heap := h' }) : wpAny (model prog w) A (pyNext (.ref e)) Q E s := by
  have hTy : s.TypeIs (.ref e) "enumerate" := ⟨_, he, rfl⟩
  unfold pyNext
  refine wpAny_bind (wpAny_attempt (wpAny_callSpecial?_slot (name := Str.ofString "__next__") hTy F.slot_enumerate_next (wpAny_call_entry F.slot_enumerate_next hTy F.entry_enumerate_next ?_ (F.args_enumerate_next_1 _))))
  show wpAny _ _ (field (.ref e) 2 >>= _) _ _ _
  refine wpAny_bind (wpAny_field he rfl h2 ?_)
  refine wpAny_bind (draw_tup_end (A := A.in1) hh hit hl hx fun h' x he' hx' => ?_)
  obtain ⟨o, ho, hc⟩ := hx'
  refine wpAny_bind (wpAny_isInstance (T := "StopIteration") (b := true) ⟨o, ho, hc⟩ isSubtype_stop ?_)
  exact wpAny_pure (hQ _ he')

/-- the loop that fills the list `S` from an enumerate over two items -/
theorem extend_enum {e it l S : Addr} {x y res : Value} {c : Nat} (hh : A.handled = none) (he : IsEnum s.heap e it 0 .none) (hit : IsTupIter s.heap it l 0) (hl : IsTup s.heap l #[x, y])
    (hei : e ≠ it) (hle : l ≠ e) (hli : l ≠ it) (hSe : S ≠ e) (hSi : S ≠ it) (hSl : S ≠ l) (hS : s.heap.get? S = some { cls := .type "list", dict := none, data := .seq #[] c, slots := #[] })
    (hR : ∀ h' T1 T2 k1 k2 c' tk', (∀ b o, b ≠ S → b ≠ e → b ≠ it → s.heap.get? b = some o → h'.get? b = some o) → h'.get? S = some { cls := .type "list", dict := none, data := .seq #[.ref T1, .ref T2] c', slots := #[] } →
      h'.get? T1 = some { cls := .type "tuple", data := .seq #[.int 0 k1, x] } → h'.get? T2 = some { cls := .type "tuple", data := .seq #[.int 1 k2, y] } → s.heap.objs.size ≤ T1 → T1 < T2 → R (.ok (.ret res)) { s with heap := h', toks := tk' }) :
    codeAny (model prog w) A (.builtin "list.extend.loop" ⟨[.ref S, .ref e, res], []⟩) R s := by
  have hel : e < s.heap.objs.size := Heap.lt_size he
  have hil : it < s.heap.objs.size := let ⟨_, q, _⟩ := hit; Heap.lt_size q
  have hll : l < s.heap.objs.size := let ⟨_, q, _⟩ := hl; Heap.lt_size q
  have hSl' : S < s.heap.objs.size := Heap.lt_size hS
  -- the first pair
  refine codeAny_builtin F.entry_extend_loop ?_
  rw [Around.under_plainId F.plain_extend_loop _]
  show wpAny _ A.in1 (pyNext (.ref e) >>= _) _ _ s
  refine wpAny_bind (wpAny_pyNext_enum_itemD (A := A.in1) (draws_tup (A := A.in1.in1) hh it l hli #[x, y]) (i := 0) he ⟨hit, hl⟩ (by simp) hei (by simp [hei, Ne.symm hle]) fun x1 h1 tk1 hP1 ho1 hst1 hT1 hz1 hk1 => ?_)
  have hx1 : x1 = x := by simpa using hP1.symm
  subst hx1
  have hS1 := hk1 S _ hSe hSi hS
  show wpAny _ A.in1 (updateSeq S (·.push (.ref s.heap.objs.size)) >>= _) _ _ _
  refine wpAny_bind (wpAny_updateSeq hS1 rfl (wpAny_pure ⟨plainId_quiet F.plain_extend_loop _, ?_⟩))
  have up1 : ∀ b o, b ≠ S → h1.get? b = some o → (h1.update S (Obj.mapSeq (·.push (.ref s.heap.objs.size)))).get? b = some o := fun b o hb q => (Heap.get?_update_other _ _ (Ne.symm hb)).trans q
  have hS1' := Heap.get?_update_self (h := h1) (Obj.mapSeq (·.push (Value.ref s.heap.objs.size))) hS1 rfl
  generalize hU1 : h1.update S (Obj.mapSeq (·.push (.ref s.heap.objs.size))) = u1 at up1 hS1'
  have hzu1 : u1.objs.size = s.heap.objs.size + 1 := by rw [← hU1, Heap.size_after_update, hz1]
  have hT1S : s.heap.objs.size ≠ S := Nat.ne_of_gt hSl'
  -- the second
  refine codeAny_builtin F.entry_extend_loop ?_
  rw [Around.under_plainId F.plain_extend_loop _]
  show wpAny _ A.in1 (pyNext (.ref e) >>= _) _ _ _
  refine wpAny_bind (enum_again (A := A.in1) (i := 1) (T := s.heap.objs.size) (x := y) (items := #[x1, y]) (up1 _ _ (Ne.symm hSe) ho1) (up1 _ _ hT1S hT1) (let ⟨o, q, r⟩ := hst1.1; ⟨o, up1 _ _ (Ne.symm hSi) q, r⟩) (let ⟨o, q, r⟩ := hst1.2; ⟨o, up1 _ _ (Ne.symm hSl) q, r⟩) (by simp) hei (Nat.ne_of_gt hil) (Nat.ne_of_gt hel) hle hli fun h2 tk2 hf2 hi2 hl2 hT2 hz2 hk2 => ?_)
  obtain ⟨f2, he2⟩ := hf2
  have hS2 := hk2 S _ hSe hSi hS1'
  show wpAny _ A.in1 (updateSeq S (·.push (.ref u1.objs.size)) >>= _) _ _ _
  refine wpAny_bind (wpAny_updateSeq hS2 rfl (wpAny_pure ⟨plainId_quiet F.plain_extend_loop _, ?_⟩))
  have up2 : ∀ b o, b ≠ S → h2.get? b = some o → (h2.update S (Obj.mapSeq (·.push (.ref u1.objs.size)))).get? b = some o := fun b o hb q => (Heap.get?_update_other _ _ (Ne.symm hb)).trans q
  have hS2' := Heap.get?_update_self (h := h2) (Obj.mapSeq (·.push (Value.ref u1.objs.size))) hS2 rfl
  generalize hU2 : h2.update S (Obj.mapSeq (·.push (.ref u1.objs.size))) = u2 at up2 hS2'
  have hT2S : u1.objs.size ≠ S := by rw [hzu1]; exact Nat.ne_of_gt (Nat.lt_succ_of_lt hSl')
  -- the end
  refine codeAny_builtin F.entry_extend_loop ?_
  rw [Around.under_plainId F.plain_extend_loop _]
  show wpAny _ A.in1 (pyNext (.ref e) >>= _) _ _ _
  refine wpAny_bind (enum_end (A := A.in1) (i := 2) (items := #[x1, y]) hh (up2 _ _ (Ne.symm hSe) he2) rfl (let ⟨o, q, r⟩ := hi2; ⟨o, up2 _ _ (Ne.symm hSi) q, r⟩) (let ⟨o, q, r⟩ := hl2; ⟨o, up2 _ _ (Ne.symm hSl) q, r⟩) (by simp) fun h3 hx3 => ?_)
  have hT1e : s.heap.objs.size ≠ e := Nat.ne_of_gt hel
  have hT1i : s.heap.objs.size ≠ it := Nat.ne_of_gt hil
  have hT2i : u1.objs.size ≠ it := by rw [hzu1]; exact Nat.ne_of_gt (Nat.lt_succ_of_lt hil)
  exact wpAny_pure (hR h3 s.heap.objs.size u1.objs.size tk1 tk2 _ _ (fun b o q1 q2 q3 g => hx3 b o q3 (up2 b o q1 (hk2 b o q2 q3 (up1 b o q1 (hk1 b o q2 q3 g))))) (hx3 _ _ hSi hS2') (hx3 _ _ hT1i (up2 _ _ hT1S (hk2 _ _ hT1e hT1i (up1 _ _ hT1S hT1)))) (hx3 _ _ hT2i (up2 _ _ hT2S hT2)) (Nat.le_refl _) (by rw [hzu1]; exact Nat.lt_succ_self _))
end
end Mine
end R5_part
/-! R6 -/
section R6_part
open PySem PySem.W PyProof.Rows PyProof.Rows.LCg
open Sem (wp)
set_option maxRecDepth 100000
namespace Mine
section
variable {prog : Program} {w : World} {A : Around} {E : Value → Shared → Prop} {s : Shared} {R : Result → Shared → Prop}

theorem extendWith_enum {e it l S : Addr} {x y res : Value} {c : Nat} (hh : A.handled = none) (he : IsEnum s.heap e it 0 .none) (hit : IsTupIter s.heap it l 0) (hl : IsTup s.heap l #[x, y])
    (hei : e ≠ it) (hle : l ≠ e) (hli : l ≠ it) (hSe : S ≠ e) (hSi : S ≠ it) (hSl : S ≠ l) (hS : s.heap.get? S = some { cls := .type "list", dict := none, data := .seq #[] c, slots := #[] })
    (hR : ∀ h' T1 T2 k1 k2 c' tk', (∀ b o, b ≠ S → b ≠ e → b ≠ it → s.heap.get? b = some o → h'.get? b = some o) → h'.get? S = some { cls := .type "list", dict := none, data := .seq #[.ref T1, .ref T2] c', slots := #[] } →
      h'.get? T1 = some { cls := .type "tuple", data := .seq #[.int 0 k1, x] } → h'.get? T2 = some { cls := .type "tuple", data := .seq #[.int 1 k2, y] } → s.heap.objs.size ≤ T1 → T1 < T2 → R (.ok (.ret res)) { s with heap := h', toks := tk' }) :
    wpAny (model prog w) A.in1 (Builtin.List.listExtendWith (.ref S) (.ref e) res)
      (fun fin s' => match fin with | .done f => R (.ok f) s' | .again c' => c'.quiet = true ∧ codeAny (model prog w) A c' R s') (fun e s' => R (.error e) s') s := by
  have hTy : s.TypeIs (.ref e) "enumerate" := ⟨_, he, rfl⟩
  unfold Builtin.List.listExtendWith
  refine wpAny_bind (wpAny_typeOf hTy ?_)
  have h1 : Builtin.List.listSameRef (.ref S) (.ref e) = false := by simp [Builtin.List.listSameRef, hSe]
  have h2 : (Value.type "enumerate" == Value.type "list") = false := by decide
  have h3 : (Value.type "enumerate" == Value.type "tuple") = false := by decide
  simp only [h1, h2, h3, Bool.or_false, Bool.false_eq_true, if_false]
  refine wpAny_bind (wpAny_pyIter_enum he ?_)
  refine wpAny_bind (wpAny_holding ?_)
  unfold Builtin.List.listLengthHint
  refine wpAny_bind (wpAny_specialOf hTy enum_nolen ?_)
  show wpAny _ A.in1 (specialOf (Value.ref e) (Str.ofString "__length_hint__") >>= _) _ _ _
  refine wpAny_bind (wpAny_specialOf hTy enum_nohint ?_)
  refine wpAny_pure ?_
  show wpAny _ A.in1 (rule "list.extend.makes-room" >>= fun _ => Builtin.List.listTouch (.ref S) >>= fun _ =>
    again (.builtin "list.extend.loop" ⟨[.ref S, .ref e, res], []⟩)) _ _ _
  refine wpAny_bind (wpAny_rule ?_)
  refine wpAny_bind ?_
  show wpAny _ A.in1 (updateSeq S (·.push .none) >>= fun _ => updateSeq S (·.pop)) _ _ _
  refine wpAny_bind (wpAny_updateSeq hS rfl ?_)
  have hS₂ := Heap.get?_update_self (Obj.mapSeq (·.push Value.none)) hS rfl
  refine wpAny_updateSeq hS₂ rfl ?_
  have hS₃ := Heap.get?_update_self (Obj.mapSeq (·.pop)) hS₂ rfl
  have oth : ∀ b o, b ≠ S → s.heap.get? b = some o → ((s.heap.update S (Obj.mapSeq (·.push Value.none))).update S (Obj.mapSeq (·.pop))).get? b = some o :=
    fun b o hb q => (Heap.get?_update_other _ _ (Ne.symm hb)).trans ((Heap.get?_update_other _ _ (Ne.symm hb)).trans q)
  have hz : ((s.heap.update S (Obj.mapSeq (·.push Value.none))).update S (Obj.mapSeq (·.pop))).objs.size = s.heap.objs.size := by rw [Heap.size_after_update, Heap.size_after_update]
  generalize hU : (s.heap.update S (Obj.mapSeq (·.push Value.none))).update S (Obj.mapSeq (·.pop)) = U at hS₃ oth hz ⊢
  refine wpAny_pure ⟨plainId_quiet F.plain_extend_loop _, extend_enum (s := { s with heap := U }) hh (oth _ _ (Ne.symm hSe) he) (let ⟨o, q, r⟩ := hit; ⟨o, oth _ _ (Ne.symm hSi) q, r⟩) (let ⟨o, q, r⟩ := hl; ⟨o, oth _ _ (Ne.symm hSl) q, r⟩) hei hle hli hSe hSi hSl hS₃ fun h' T1 T2 k1 k2 c' tk' hk hS' hT1 hT2 hz1 hz2 => ?_⟩
  exact hR h' T1 T2 k1 k2 c' tk' (fun b o q1 q2 q3 g => hk b o q1 q2 q3 (oth b o q1 g)) hS' hT1 hT2 (hz ▸ hz1) hz2

theorem call_list_enum {e it l : Addr} {x y : Value} {Q : Value → Shared → Prop} (hh : A.handled = none) (he : IsEnum s.heap e it 0 .none) (hit : IsTupIter s.heap it l 0) (hl : IsTup s.heap l #[x, y])
    (hei : e ≠ it) (hle : l ≠ e) (hli : l ≠ it)
    (hQ : ∀ h' S T1 T2 k1 k2 c' tk', (∀ b o, b ≠ e → b ≠ it → s.heap.get? b = some o → h'.get? b = some o) → h'.get? S = some { cls := .type "list", dict := none, data := .seq #[.ref T1, .ref T2] c', slots := #[] } →
      h'.get? T1 = some { cls := .type "tuple", data := .seq #[.int 0 k1, x] } → h'.get? T2 = some { cls := .type "tuple", data := .seq #[.int 1 k2, y] } → s.heap.objs.size ≤ S → S < T1 → T1 < T2 → Q (.ref S) { s with heap := h', toks := tk' }) :
    wpAny (model prog w) A (call (.type "list") [.ref e]) Q E s := by
  have hel : e < s.heap.objs.size := Heap.lt_size he
  have hil : it < s.heap.objs.size := let ⟨_, q, _⟩ := hit; Heap.lt_size q
  have hll : l < s.heap.objs.size := let ⟨_, q, _⟩ := hl; Heap.lt_size q
  refine callType_codes (Q₁ := fun obj s₁ => obj = .ref s.heap.objs.size ∧ s₁ = { s with heap := s.heap.push { cls := .type "list", data := .seq #[] } }) F.called_list (F.typeCall_list_1 _) F.entry_list_init
    (code_list_new _ ⟨rfl, rfl⟩) fun obj s₁ h₁ => ?_
  obtain ⟨rfl, rfl⟩ := h₁
  have hS : (s.heap.push { cls := .type "list", data := .seq #[] }).get? s.heap.objs.size = some { cls := .type "list", data := .seq #[] } := Heap.get?_push_size _ rfl
  refine ⟨⟨_, hS, rfl⟩, F.args_list_init_2 _ _, ?_⟩
  have hz : (s.heap.push { cls := .type "list", data := .seq #[] }).objs.size = s.heap.objs.size + 1 := Heap.size_push ..
  have up : ∀ b o, s.heap.get? b = some o → (s.heap.push { cls := .type "list", data := .seq #[] }).get? b = some o := fun b o q => Heap.get?_push_of_some _ q
  generalize hPd : s.heap.push { cls := .type "list", data := .seq #[] } = P at hS hz up ⊢
  show wpAny _ A.in1.in1 (do let old ← Builtin.List.listItems (.ref s.heap.objs.size); Builtin.List.listUpdate (.ref s.heap.objs.size) (fun _ => #[]); letGo old.toList.reverse; Builtin.List.listExtendWith (.ref s.heap.objs.size) (.ref e) .none) _ _ _
  refine wpAny_bind ?_
  unfold Builtin.List.listItems
  refine wpAny_bind (wpAny_seqItems hS rfl (wpAny_pure ?_))
  show wpAny _ A.in1.in1 (updateSeq s.heap.objs.size (fun _ => #[]) >>= fun _ => letGo (#[] : Array Value).toList.reverse >>= fun _ => Builtin.List.listExtendWith (.ref s.heap.objs.size) (.ref e) .none) _ _ _
  refine wpAny_bind (wpAny_updateSeq hS rfl ?_)
  have hS₂ := Heap.get?_update_self (h := P) (Obj.mapSeq (fun _ => (#[] : Array Value))) hS rfl
  have oth : ∀ b o, b ≠ s.heap.objs.size → P.get? b = some o → (P.update s.heap.objs.size (Obj.mapSeq (fun _ => (#[] : Array Value)))).get? b = some o :=
    fun b o hb q => (Heap.get?_update_other _ _ (Ne.symm hb)).trans q
  have hzu : (P.update s.heap.objs.size (Obj.mapSeq (fun _ => (#[] : Array Value)))).objs.size = s.heap.objs.size + 1 := by rw [Heap.size_after_update, hz]
  generalize hUd : P.update s.heap.objs.size (Obj.mapSeq (fun _ => (#[] : Array Value))) = U at hS₂ oth hzu ⊢
  refine wpAny_bind (wpAny_letGo ?_)
  have old : ∀ b o, s.heap.get? b = some o → U.get? b = some o := fun b o q => oth b o (Nat.ne_of_lt (Heap.lt_size q)) (up b o q)
  refine extendWith_enum (A := A.in1) (s := { s with heap := U }) hh (old _ _ he) (let ⟨o, q, r⟩ := hit; ⟨o, old _ _ q, r⟩) (let ⟨o, q, r⟩ := hl; ⟨o, old _ _ q, r⟩) hei hle hli (Nat.ne_of_gt hel) (Nat.ne_of_gt hil) (Nat.ne_of_gt hll) hS₂ fun h' T1 T2 k1 k2 c' tk' hk hS' hT1 hT2 hz1 hz2 => ?_
  have hz1' : s.heap.objs.size + 1 ≤ T1 := by
    have : U.objs.size ≤ T1 := hz1
    omega
  exact ⟨rfl, hQ h' s.heap.objs.size T1 T2 k1 k2 c' tk' (fun b o q1 q2 q => hk b o (Nat.ne_of_lt (Heap.lt_size q)) q1 q2 (old b o q)) hS' hT1 hT2 (Nat.le_refl _) hz1' hz2⟩

/-- an enumerate just made over the tuple `l` -/
def EnumF (h₀ : Heap) (L : Addr) (news : List (Addr × Obj)) (h : Heap) (e : Addr) (x y : Value) : Prop :=
  ∃ it l, IsEnum h e it 0 .none ∧ IsTupIter h it l 0 ∧ IsTup h l #[x, y] ∧ e ≠ it ∧ l ≠ e ∧ l ≠ it ∧ e ≠ L ∧ it ≠ L ∧ h₀.get? e = none ∧ h₀.get? it = none ∧ ∀ p ∈ news, p.1 ≠ e ∧ p.1 ≠ it

theorem enum_make {h₀ : Heap} {L l : Addr} {m : Str → Option Value} {news : List (Addr × Obj)} {x y : Value} {n : Nat} {Q : Value → Shared → Prop} (F : Fr h₀ L s.heap m) (N : News h₀ L s.heap news)
    (hm : (l, ({ cls := .type "tuple", data := .seq #[x, y] n } : Obj)) ∈ news)
    (hQ : ∀ e h', Fr h₀ L h' m → News h₀ L h' news → EnumF h₀ L news h' e x y → Q (.ref e) { s with heap := h' }) :
    wpAny (model prog w) A (call (.type "enumerate") [.ref l]) Q E s := by
  have hlg := (N _ hm).1
  have hll : l < s.heap.objs.size := Heap.lt_size hlg
  have hL : L < s.heap.objs.size := F.ns.lt
  have fresh : ∀ a : Addr, s.heap.objs.size ≤ a → h₀.get? a = none := fun a ha => by
    cases e : h₀.get? a with
    | none => rfl
    | some o => exact absurd (Heap.lt_size (F.keep _ _ e)) (Nat.not_lt.mpr ha)
  refine call_enum_tup (items := #[x, y]) ⟨_, hlg, rfl, n, rfl⟩ fun h' he hit hz hk => ?_
  exact hQ _ h' (F.keeps hk) (fun p hp => ⟨hk _ _ (N p hp).1, (N p hp).2⟩) ⟨_, l, he, hit, ⟨_, hk _ _ hlg, rfl, n, rfl⟩, Nat.succ_ne_self _, Nat.ne_of_lt (Nat.lt_succ_of_lt hll), Nat.ne_of_lt hll, Nat.ne_of_gt (Nat.lt_succ_of_lt hL), Nat.ne_of_gt hL, fresh _ (Nat.le_succ _), fresh _ (Nat.le_refl _),
    fun p hp => ⟨Nat.ne_of_lt (Nat.lt_succ_of_lt (Heap.lt_size (N p hp).1)), Nat.ne_of_lt (Heap.lt_size (N p hp).1)⟩⟩

theorem enum_list {h₀ : Heap} {L e : Addr} {m : Str → Option Value} {news : List (Addr × Obj)} {x y : Value} {Q : Value → Shared → Prop} (hh : A.handled = none) (F : Fr h₀ L s.heap m) (N : News h₀ L s.heap news) (X : EnumF h₀ L news s.heap e x y)
    (hQ : ∀ S T1 T2 k1 k2 c' h' tk', Fr h₀ L h' m → News h₀ L h' ((S, { cls := .type "list", data := .seq #[.ref T1, .ref T2] c' }) :: (T1, { cls := .type "tuple", data := .seq #[.int 0 k1, x] }) :: (T2, { cls := .type "tuple", data := .seq #[.int 1 k2, y] }) :: news) →
      (∀ p ∈ news, p.1 < S) → S < T1 → T1 < T2 → Q (.ref S) { s with heap := h', toks := tk' }) :
    wpAny (model prog w) A (call (.type "list") [.ref e]) Q E s := by
  obtain ⟨it, l, he, hit, hl, hei, hle, hli, heL, hiL, he₀, hi₀, hn⟩ := X
  have hL : L < s.heap.objs.size := F.ns.lt
  refine call_list_enum hh he hit hl hei hle hli fun h' S T1 T2 k1 k2 c' tk' hk hS hT1 hT2 hz hST hTT => ?_
  have fresh : ∀ a : Addr, s.heap.objs.size ≤ a → a ≠ L ∧ h₀.get? a = none := fun a ha => ⟨Nat.ne_of_gt (Nat.lt_of_lt_of_le hL ha), by
    cases e : h₀.get? a with
    | none => rfl
    | some o => exact absurd (Heap.lt_size (F.keep _ _ e)) (Nat.not_lt.mpr ha)⟩
  have F' : Fr h₀ L h' m := ⟨F.ns.at' fun o q => hk L o (Ne.symm heL) (Ne.symm hiL) q, fun b o q => hk b o (fun r => by rw [r, he₀] at q; cases q) (fun r => by rw [r, hi₀] at q; cases q) (F.keep b o q), F.above⟩
  have z1 : s.heap.objs.size ≤ T1 := Nat.le_of_lt (Nat.lt_of_le_of_lt hz hST)
  have z2 : s.heap.objs.size ≤ T2 := Nat.le_of_lt (Nat.lt_of_le_of_lt z1 hTT)
  refine hQ S T1 T2 k1 k2 c' h' tk' F' (fun p hp => ?_) (fun p hp => Nat.lt_of_lt_of_le (Heap.lt_size (N p hp).1) hz) hST hTT
  rcases List.mem_cons.mp hp with rfl | hp
  · exact ⟨hS, fresh _ hz⟩
  rcases List.mem_cons.mp hp with rfl | hp
  · exact ⟨hT1, fresh _ z1⟩
  rcases List.mem_cons.mp hp with rfl | hp
  · exact ⟨hT2, fresh _ z2⟩
  · exact ⟨hk _ _ (hn p hp).1 (hn p hp).2 (N p hp).1, (N p hp).2⟩
end
end Mine
end R6_part
/-! R7 -/
section R7_part
open PySem PySem.W PyProof.Rows PyProof.Rows.LCg
open Sem (wp)
set_option maxRecDepth 100000
namespace Mine
section
variable {prog : Program} {w : World} {A : Around} {E : Value → Shared → Prop} {s : Shared} {env : Env} {h₀ : Heap} {body : List Stmt} {Q : Flow → Shared → Prop}

/-- «for i, v in enumerate(t)», t a tuple of the ledger -/
theorem enum_turns {elts : List Expr} {k : Nat} {pos : Pos} {l : Addr} {lo : Obj} {vs : List Value} {xs : List Itm} {n : Nat} {m₀ : Str → Option Value} {news : List (Addr × Obj)}
    (hh : A.handled = none) (F : Fr h₀ env.locals s.heap m₀) (N : News h₀ env.locals s.heap news) (hm : (l, lo) ∈ news) (hc : lo.cls = .type "tuple") (hd : lo.data = .seq vs.toArray n) (hx : enumItems 0 vs = xs)
    (rest₀ : ∀ I : Addr, (∀ p ∈ news, p.1 < I) → ItemsRest prog w A E h₀ env (.Tuple elts k pos) body Q s [(I + 1, "enumerate"), (I, "tuple_iterator")] [(l, lo)] xs m₀ news) :
    wpAny (model prog w) A (call (.type "enumerate") [.ref l]) (fun xv s₁ => wpAny (model prog w) A (pyIter xv) (fun it s₂ => TurnsAt prog w A h₀ env (.Tuple elts k pos) body Q E it s₂) E s₁) E s := by
  subst hx
  have hax := N _ hm
  have hl : IsTup s.heap l vs.toArray := ⟨lo, hax.1, hc, n, hd⟩
  have hlt : l < s.heap.objs.size := Heap.lt_size hax.1
  have hLs : env.locals < s.heap.objs.size := F.ns.lt
  refine call_enum_tup hl fun h' hE hI hsz hk => ?_
  refine wpAny_pyIter_enum hE ?_
  have hei : s.heap.objs.size + 1 ≠ s.heap.objs.size := Nat.succ_ne_self _
  have hle : l ≠ s.heap.objs.size + 1 := Nat.ne_of_lt (Nat.lt_succ_of_lt hlt)
  have hli : l ≠ s.heap.objs.size := Nat.ne_of_lt hlt
  refine ktu_core (tk0 := s.toks) (keep := [(l, lo)]) (KTurns.ofWalksU (WalksT.enumerateD (draws_tup (A := A.in1) hh s.heap.objs.size l hli vs.toArray) (s.heap.objs.size + 1) hei (by simp [hei, Ne.symm hle]) (by simp)).toU) (by simp [enumItems_length]) ?_ ?_ ?_ ?_ ?_ ?_ ?_ ?_ (F.keeps hk) (N.grown hk) (And.intro hm trivial) (rest₀ _ fun p hp => Heap.lt_size (N p hp).1)
  · rintro i v h ⟨T, vals, rfl, ⟨t, x, hx, rfl⟩, hT⟩
    refine ⟨_, enumItems_get vs 0 i (v := x) (by simpa using hx), T, t, rfl, ?_⟩
    show IsTup h T #[.int ((0 + i : Nat) : Int) t, x]
    rw [Nat.zero_add]
    exact hT
  · rintro i h ⟨⟨old, he⟩, ⟨oi, hoi, hic, _⟩, _⟩
    have he' : ∃ oe : Obj, h.get? (s.heap.objs.size + 1) = some oe ∧ oe.cls = .type "enumerate" := ⟨_, he, rfl⟩
    obtain ⟨oe, h1, h2⟩ := he'
    refine ⟨[(s.heap.objs.size + 1, oe), (s.heap.objs.size, oi)], ⟨⟨rfl, h2⟩, ⟨rfl, hic⟩, trivial⟩, fun p hp => ?_⟩
    rcases List.mem_cons.mp hp with rfl | hp
    · exact h1
    · rw [List.mem_singleton.mp hp]; exact hoi
  · intro b hb
    have hb' : b = s.heap.objs.size + 1 ∨ b = s.heap.objs.size := by simpa using hb
    rcases hb' with rfl | rfl
    · exact ⟨by simp, ktu_new F (Nat.le_add_right _ _)⟩
    · exact ⟨by simp, ktu_new F (Nat.le_refl _)⟩
  · intro b hb
    simpa using hb
  · intro b hb
    have hb' : b = s.heap.objs.size + 1 ∨ b = s.heap.objs.size ∨ b = l := by simpa using hb
    rcases hb' with rfl | rfl | rfl
    · exact .inl (by simp)
    · exact .inl (by simp)
    · exact .inr ⟨lo, by simp⟩
  · intro hI'
    have hb' : env.locals = s.heap.objs.size + 1 ∨ env.locals = s.heap.objs.size ∨ env.locals = l := by simpa using hI'
    rcases hb' with e | e | e
    · exact ktu_ne 1 hLs e
    · exact Nat.ne_of_lt hLs e
    · exact hax.2.1 e.symm
  · intro p hp hI'
    have hb' : p.1 = s.heap.objs.size + 1 ∨ p.1 = s.heap.objs.size := by simpa using hI'
    have hlp := Heap.lt_size (N p hp).1
    rcases hb' with e | e
    · exact ktu_ne 1 hlp e
    · exact Nat.ne_of_lt hlp e
  · exact ⟨⟨.none, hE⟩, hI, let ⟨o, q, r⟩ := hl; ⟨o, hk l o q, r⟩⟩
end
end Mine
end R7_part
/-! R8 -/
section R8_part
open PySem PySem.W PyProof.Rows PyProof.Rows.LCg
open Sem (wp)
set_option maxRecDepth 100000
namespace Mine
def rangeItms (a c : Int) : Nat → List Itm
  | 0 => []
  | k + 1 => .tok (fun t => .int a t) :: rangeItms (a + c) c k
theorem rangeItms_length : ∀ (n : Nat) (a c : Int), (rangeItms a c n).length = n
  | 0, _, _ => rfl
  | n + 1, a, c => congrArg (· + 1) (rangeItms_length n (a + c) c)
theorem rangeItms_get : ∀ (n i : Nat) (a c : Int), i < n → (rangeItms a c n)[i]? = some (.tok (fun t => .int (a + (i : Int) * c) t))
  | 0, i, _, _, h => absurd h (Nat.not_lt_zero _)
  | n + 1, 0, a, c, _ => by simp [rangeItms]
  | n + 1, i + 1, a, c, h => by
    have := rangeItms_get n i (a + c) c (by omega)
    have e : a + c + (i : Int) * c = a + ((i + 1 : Nat) : Int) * c := by
      rw [Int.natCast_add, Int.add_mul]; simp; omega
    rw [e] at this
    simpa [rangeItms] using this
section
variable {prog : Program} {w : World} {A : Around} {E : Value → Shared → Prop} {s : Shared} {env : Env} {h₀ : Heap} {body : List Stmt} {Q : Flow → Shared → Prop}

/-- a range of few written items, turn by turn -/
theorem range_turns {x : Str} {px : Pos} {r : Addr} {a b c : Int} {t u v : Tok} {xs : List Itm} {m₀ : Str → Option Value} {news : List (Addr × Obj)}
    (hh : A.handled = none) (F : Fr h₀ env.locals s.heap m₀) (N : News h₀ env.locals s.heap news) (hr : IsRange s.heap r a b c t u v) (hsm : Builtin.Range.small a b c = true) (hn : Builtin.Range.rangeSize a b c = ((xs.length : Nat) : Int)) (hx : rangeItms a c xs.length = xs)
    (rest₀ : ∀ I : Addr, (∀ p ∈ news, p.1 < I) → ItemsRest prog w A E h₀ env (.Name x px) body Q s [(I, "range_iterator")] [] xs m₀ news) :
    wpAny (model prog w) A (pyIter (.ref r)) (fun it s₂ => TurnsAt prog w A h₀ env (.Name x px) body Q E it s₂) E s := by
  generalize hk : xs.length = n at hn hx
  have hLs : env.locals < s.heap.objs.size := F.ns.lt
  refine wpAny_pyIter_range hr hsm ?_
  rw [hn]
  refine ktu_core (tk0 := s.toks) (keep := []) (KTurns.ofWalks (Walks.range hh s.heap.objs.size a c n).bound fun i v s Q E st q => wpAny_of_eq (rfl : letOwnedTupleGo (.Name x px) (.ref _) v = pure ()) q) hk.symm (fun i v h hp => ?_) (fun i h st => ?_) (fun b hb => ?_) (fun b hb => by simpa using hb) (fun b hb => ?_) ?_ (fun p hp hI => ?_) ?_ (F.push _) (fun p hp => ⟨Heap.get?_push_of_some _ (N p hp).1, (N p hp).2⟩) trivial (rest₀ _ fun p hp => Heap.lt_size (N p hp).1)
  · obtain ⟨hi, t, rfl⟩ := hp
    exact ⟨.tok (fun t => .int (a + (i : Int) * c) t), by rw [← hx]; exact rangeItms_get n i a c hi, t, rfl⟩
  · exact ⟨[(s.heap.objs.size, _)], ⟨⟨rfl, rfl⟩, trivial⟩, fun p hp => by rw [List.mem_singleton.mp hp]; exact st⟩
  · have hb' : b = s.heap.objs.size := by simpa using hb
    rw [hb']
    exact ⟨List.mem_cons_self .., next_is_new F⟩
  · have hb' : b = s.heap.objs.size := by simpa using hb
    exact .inl (by simp [hb'])
  · intro hI
    exact absurd (List.mem_singleton.mp hI) (Nat.ne_of_lt hLs)
  · exact absurd (Heap.lt_size (N p hp).1) ((List.mem_singleton.mp hI) ▸ Nat.lt_irrefl _)
  · have : IsRangeIter (s.heap.push { cls := .type "range_iterator", data := .fields #[rawInt a, rawInt (n : Int), rawInt c] }) s.heap.objs.size (a + ((0 : Nat) : Int) * c) ((n : Int) - ((0 : Nat) : Int)) c := by
      have e1 : a + ((0 : Nat) : Int) * c = a := by simp
      have e2 : (n : Int) - ((0 : Nat) : Int) = n := by simp
      rw [e1, e2]
      exact Heap.get?_push_size _ rfl
    exact this
end
end Mine
namespace Mine
open PySem.W PyProof.Rows
theorem off1_ne {D a : Addr} {o : Obj} : ∀ {l : List (Addr × Obj)}, LCg.Off1 D l → (a, o) ∈ l → @Ne Nat D a
  | _ :: _, h, .head _ => fun e => h.1 e.symm
  | _ :: _, h, .tail _ m => off1_ne h.2 m
end Mine
end R8_part
/-! R9 -/
section R9_part
open PySem PySem.W PyProof.Rows PyProof.Rows.LCg
set_option maxRecDepth 100000
namespace Mine
theorem allLt_mem {I : Addr} {l : List (Addr × Obj)} (h : AllLt I l) : ∀ p ∈ l, @LT.lt Nat _ p.1 I := by
  induction l with
  | nil => intro p hp; cases hp
  | cons q r ih =>
    intro p hp
    rcases List.mem_cons.mp hp with e | hp
    · subst e; exact h.1
    · exact ih h.2 p hp
theorem off_lt1 {I : Addr} {o : Obj} {l : List (Addr × Obj)} (h : AllLt I l) : ∀ p ∈ l, ∀ q ∈ [(I, o)], p.1 ≠ q.1 := fun p hp q hq e => by
  have h1 := allLt_mem h p hp
  have hq := List.mem_singleton.mp hq
  subst hq
  exact Nat.ne_of_lt h1 e
theorem off_lt2 {I : Addr} {o o' : Obj} {l : List (Addr × Obj)} (h : AllLt I l) : ∀ p ∈ l, ∀ q ∈ [((I + 1 : Nat), o), (I, o')], p.1 ≠ q.1 := fun p hp q hq e => by
  have h1 := allLt_mem h p hp
  rcases List.mem_cons.mp hq with r | hq
  · subst r
    exact Nat.ne_of_lt (Nat.lt_succ_of_lt h1) e
  · have hq := List.mem_singleton.mp hq
    subst hq
    exact Nat.ne_of_lt h1 e
theorem unr_end {h₀ : Heap} {L : Addr} {s₁ : Shared} {its : List (Addr × Obj)} {rest : (Str → Option Value) → List (Addr × Obj) → Prop} {h' : Heap} {tk : Nat} {m' : Str → Option Value} {news' : List (Addr × Obj)} (F : Fr h₀ L h' m') (N : News h₀ L h' (its ++ news'))
    (off : ∀ p ∈ news', ∀ q ∈ its, p.1 ≠ q.1) (r : rest m' news') : UnrEndW h₀ L s₁ its rest { s₁ with heap := h', toks := tk } := ⟨h', tk, m', news', rfl, F, N, off, r⟩
theorem allLt_nil {I : Addr} : AllLt I [] := trivial
theorem allLt_cons {I a : Addr} {o : Obj} {r : List (Addr × Obj)} (h : @LT.lt Nat _ a I) (t : AllLt I r) : AllLt I ((a, o) :: r) := ⟨h, t⟩
theorem unr_end1 {h₀ : Heap} {L I : Addr} {o : Obj} {s₁ : Shared} {keep : List (Addr × Obj)} {r : (Str → Option Value) → List (Addr × Obj) → Prop} {h' : Heap} {tk : Nat} {m' : Str → Option Value} {news' : List (Addr × Obj)} (F : Fr h₀ L h' m') (N : News h₀ L h' ((I, o) :: news'))
    (l : AllLt I news') (k : SubL keep news') (r1 : r m' news') : UnrEndW h₀ L s₁ [(I, o)] (fun m n => SubL keep n ∧ r m n) { s₁ with heap := h', toks := tk } := unr_end (its := [(I, o)]) F N (off_lt1 l) ⟨k, r1⟩
theorem unr_end2 {h₀ : Heap} {L I : Addr} {o o' : Obj} {s₁ : Shared} {keep : List (Addr × Obj)} {r : (Str → Option Value) → List (Addr × Obj) → Prop} {h' : Heap} {tk : Nat} {m' : Str → Option Value} {news' : List (Addr × Obj)} (F : Fr h₀ L h' m') (N : News h₀ L h' (((I + 1 : Nat), o) :: (I, o') :: news'))
    (l : AllLt I news') (k : SubL keep news') (r1 : r m' news') : UnrEndW h₀ L s₁ [((I + 1 : Nat), o), (I, o')] (fun m n => SubL keep n ∧ r m n) { s₁ with heap := h', toks := tk } := unr_end (its := [((I + 1 : Nat), o), (I, o')]) F N (off_lt2 l) ⟨k, r1⟩
theorem ff {a n : Int} (h : 0 < n) : (a.fmod n).fmod n = a % n := by
  rw [Int.fmod_eq_emod_of_nonneg _ (Int.le_of_lt h), Int.fmod_eq_emod_of_nonneg _ (Int.le_of_lt h), Int.emod_emod]
theorem srcAt_led {h₀ : Heap} {ax : Addr} {its : Array Value} {k : Nat} {news : List (Addr × Obj)} (hm : (ax, ({ cls := .type "list", data := .seq its k } : Obj)) ∈ news) : SrcAt h₀ ax its news := Or.inr ⟨_, hm, rfl, _, rfl⟩
theorem off1_of {D : Addr} {l : List (Addr × Obj)} (h : ∀ p ∈ l, p.1 ≠ D) : Off1 D l := by
  induction l with
  | nil => exact trivial
  | cons q r ih => exact ⟨h q (.head _), ih fun p hp => h p (.tail _ hp)⟩
/-- a disequality that omega does not see -/
def Ne51 (a : Nat) : Prop := a ≠ 51
theorem Ne51.intro {a : Nat} (h : a ≠ 51) : Ne51 a := h
theorem Ne51.ne {a : Nat} (h : Ne51 a) : a ≠ 51 := h
theorem Ne51.ne' {a : Nat} (h : Ne51 a) : 51 ≠ a := fun e => h e.symm
section
variable {prog : Program} {w : World} {A : Around} {E : Value → Shared → Prop} {s : Shared} {h₀ : Heap} {L : Addr} {m : Str → Option Value} {news : List (Addr × Obj)}
/-- an item of a written list or tuple of the ledger at a written place -/
theorem get_here {l : Addr} {vs : List Value} {n : Nat} {k : Int} {u : Tok} {v : Value} {Q : Value → Shared → Prop} (N : News h₀ L s.heap news) (hm : (l, ({ cls := .type "list", data := .seq vs.toArray n } : Obj)) ∈ news) (h0 : 0 ≤ k) (hhi : k < 2 ^ 63) (hx : vs[k.toNat]? = some v) (h : Q v s) :
    wpAny (model prog w) A (getItem (.ref l) (.int k u)) Q E s := wpAny_getItem_list ⟨_, (N _ hm).1, rfl, n, rfl⟩ h0 hhi (by simpa using hx) h
theorem sub_here {value slice : PySem.Expr} {l : Addr} {vs : List Value} {n : Nat} {k : Int} {u : Tok} {v : Value} {Q : Value → Shared → Prop} (N : News h₀ L s.heap news) (hm : (l, ({ cls := .type "list", data := .seq vs.toArray n } : Obj)) ∈ news) (h0 : 0 ≤ k) (hhi : k < 2 ^ 63) (hx : vs[k.toNat]? = some v) (h : Q v s)
    (hs : subscripted slice false (.ref l) (.int k u) = operate [.ref l, .int k u] (getItem (.ref l) (.int k u)) := by with_unfolding_all rfl) :
    wpAny (model prog w) A (subscriptTail value slice (.ref l) (.int k u)) Q E s := item_litK ⟨_, (N _ hm).1, rfl, n, rfl⟩ h0 hhi hx h hs
end
end Mine
end R9_part
/-! R10 -/
section R10_part
open PySem PySem.W PyProof.Rows
set_option maxRecDepth 100000
namespace Mine
def ForAt (prog : Program) (w : World) (A : Around) (env : Env) (target : PySem.Expr) (body : List Stmt) (Q : Flow → Shared → Prop) (E : Value → Shared → Prop) (it : Value) (s₂ : Shared) : Prop :=
  codeAny (model prog w) A (.forLoop target it body [] env) (fun r s' => match r with | .ok f => Q f s' | .error e => cameBackBy (model prog w) A env E e s') s₂
/-- a turn's end: the state `c'` of the next turn -/
def FoEnd {σ : Type} (h₀ : Heap) (L : Addr) (s : Shared) (G : Array GenState → Prop) (Led : σ → List (Addr × Obj)) (ps : σ → List (Str × Value)) (P : σ → Prop) (I : Addr) (o : Obj) (s₂ : Shared) : Prop :=
  ∃ (c' : σ) (h' : Heap) (g' : Array GenState) (tk : Nat) (m' : Str → Option Value) (news' : List (Addr × Obj)),
    s₂ = { s with heap := h', gens := g', toks := tk } ∧ G g' ∧ Fr h₀ L h' m' ∧ News h₀ L h' news' ∧ (I, o) ∈ news' ∧ (∀ p ∈ Led c', p ∈ news') ∧ (∀ p ∈ Led c', p.1 ≠ I) ∧ (∀ p ∈ ps c', m' p.1 = some p.2) ∧ P c'
def FoPost {σ : Type} (h₀ : Heap) (L : Addr) (s : Shared) (G : Array GenState → Prop) (Led : σ → List (Addr × Obj)) (ps : σ → List (Str × Value)) (P : σ → Prop) (I : Addr) (o : Obj) (Q : Flow → Shared → Prop) (f : Flow) (s₂ : Shared) : Prop :=
  match f with
  | .ret v => Q (.ret v) s₂
  | .brk => Q .next s₂
  | _ => FoEnd h₀ L s G Led ps P I o s₂
theorem FoEnd.intro {σ : Type} {h₀ : Heap} {L : Addr} {s : Shared} {G : Array GenState → Prop} {Led : σ → List (Addr × Obj)} {ps : σ → List (Str × Value)} {P : σ → Prop} {I : Addr} {o : Obj} {h' : Heap} {g' : Array GenState} {tk : Nat} {m' : Str → Option Value} {news' : List (Addr × Obj)}
    (F : Fr h₀ L h' m') (N : News h₀ L h' news') (hg : G g') (c' : σ) (hi : (I, o) ∈ news') (hn : ∀ p ∈ Led c', p ∈ news') (hne : ∀ p ∈ Led c', p.1 ≠ I) (hk : ∀ p ∈ ps c', m' p.1 = some p.2) (hp : P c') :
    FoEnd h₀ L s G Led ps P I o { s with heap := h', gens := g', toks := tk } := ⟨c', h', g', tk, m', news', rfl, hg, F, N, hi, hn, hne, hk, hp⟩
section
variable {prog : Program} {w : World} {A : Around} {E : Value → Shared → Prop} {Q : Flow → Shared → Prop} {s : Shared} {env : Env} {h₀ : Heap} {target : PySem.Expr} {body : List Stmt}
theorem For_any {iter : PySem.Expr} {pos : Pos}
    (h : wpAny (model prog w) A (eval iter env) (fun xv s₁ => wpAny (model prog w) A (pyIter xv) (fun it s₂ => ForAt prog w A env target body Q E it s₂) E s₁) E s)
    (hs : ∀ x, foldedSetIterable iter env x = pure x := by intro _; rfl) : wpAny (model prog w) A (exec (.For target iter body [] pos) env) Q E s := wpAny_For h hs
/-- «for x in range(n)» by its state: the names' values, the ledger, the generators -/
theorem range_st {σ : Type} {x : Str} {px : Pos} {r : Addr} {b : Int} {t u v : Tok} {m₀ : Str → Option Value} (n : Nat) (G : Array GenState → Prop) (Led : σ → List (Addr × Obj)) (ps : σ → List (Str × Value)) (P : Nat → σ → Prop) (c₀ : σ)
    (hh : A.handled = none) (hr : IsRange s.heap r 0 b 1 t u v) (hsm : Builtin.Range.small 0 b 1 = true) (hn : Builtin.Range.rangeSize 0 b 1 = (n : Int))
    (F : Fr h₀ env.locals s.heap m₀) (N : News h₀ env.locals s.heap (Led c₀)) (hg : G s.gens) (hk : ∀ p ∈ ps c₀, m₀ p.1 = some p.2) (hp : P 0 c₀)
    (turn : ∀ (i : Nat) (c : σ) (u : Str → Option Value) h g tk t I o, i < n → G g → P i c → (∀ p ∈ Led c, p.1 ≠ I) → o.cls = .type "range_iterator" → Fr h₀ env.locals h (kstB u (ps c)) → News h₀ env.locals h ((I, o) :: Led c) →
      wpAny (model prog w) A (assign (.Name x px) env (.int (i : Int) t)) (fun _ s₃ => wpAny (model prog w) A (execs body env) (FoPost h₀ env.locals s G Led ps (P (i + 1)) I o Q) E s₃) E { s with heap := h, gens := g, toks := tk })
    (done : ∀ (c : σ) (u : Str → Option Value) h g tk, G g → P n c → Fr h₀ env.locals h (kstB u (ps c)) → News h₀ env.locals h (Led c) → Q .next { s with heap := h, gens := g, toks := tk })
    (hE : PassesOwn (model prog w) A env E := by passes_own) :
    wpAny (model prog w) A (pyIter (.ref r)) (fun it s₂ => ForAt prog w A env (.Name x px) body Q E it s₂) E s := by
  refine wpAny_pyIter_range hr hsm ?_
  rw [hn]
  have hLs : env.locals < s.heap.objs.size := F.ns.lt
  have hIn := next_is_new F
  have hne0 : ∀ p ∈ Led c₀, p.1 ≠ s.heap.objs.size := fun p hp e => absurd (Heap.lt_size (N p hp).1) (e ▸ Nat.lt_irrefl _)
  have F0 := F.push { cls := .type "range_iterator", data := .fields #[rawInt 0, rawInt (n : Int), rawInt 1] }
  have N0 : News h₀ env.locals (s.heap.push { cls := .type "range_iterator", data := .fields #[rawInt 0, rawInt (n : Int), rawInt 1] }) (Led c₀) := fun p hp => ⟨Heap.get?_push_of_some _ (N p hp).1, (N p hp).2⟩
  have it0 : IsRangeIter (s.heap.push { cls := .type "range_iterator", data := .fields #[rawInt 0, rawInt (n : Int), rawInt 1] }) s.heap.objs.size 0 (n : Int) 1 := Heap.get?_push_size _ rfl
  generalize s.heap.push { cls := .type "range_iterator", data := .fields #[rawInt 0, rawInt (n : Int), rawInt 1] } = H0 at F0 N0 it0
  generalize s.heap.objs.size = I at hLs hIn hne0 it0
  have hIL : env.locals ≠ I := Nat.ne_of_lt hLs
  have W := Walks.range (prog := prog) (w := w) hh I 0 1 n
  let Inv : Nat → Shared → Prop := fun k s' => ∃ (c : σ) (h : Heap) (g : Array GenState) (tk : Nat) (m : Str → Option Value) (i : Nat), s' = { s with heap := h, gens := g, toks := tk } ∧ G g ∧ P i c ∧ IsRangeIter h I (0 + (i : Int) * 1) ((n : Int) - (i : Int)) 1 ∧ Fr h₀ env.locals h m ∧ News h₀ env.locals h (Led c) ∧ (∀ p ∈ Led c, p.1 ≠ I) ∧ (∀ p ∈ ps c, m p.1 = some p.2) ∧ i ≤ n ∧ k = n + 1 - i
  refine codeAny_forLoop_any Inv ?_ (n + 1)
    ⟨c₀, H0, s.gens, s.toks, m₀, 0, rfl, hg, hp, by simpa using it0, F0, N0, hne0, hk, Nat.zero_le _, rfl⟩
  rintro k s' ⟨c, h', g', tk, m', i, rfl, hG, hP, hst', F', N', hne', hk', hi, rfl⟩
  have next : ∀ h₁ : Heap, (∀ b o, b ∉ [I] → h'.get? b = some o → h₁.get? b = some o) → Fr h₀ env.locals h₁ m' ∧ News h₀ env.locals h₁ (Led c) := fun h₁ hk₁ =>
    ⟨⟨F'.ns.at' fun o e => hk₁ _ o (by simpa using hIL) e, fun b o e => hk₁ b o (fun hb => by rw [List.mem_singleton.mp hb, hIn] at e; cases e) (F'.keep b o e), F'.above⟩,
      fun p hp => ⟨hk₁ _ _ (by simpa using hne' p hp) (N' p hp).1, (N' p hp).2⟩⟩
  by_cases hlt : i < n
  · refine W.item i _ _ _ hlt hst' fun v h₁ tk₁ hv hst₁ hk₁ => ?_
    obtain ⟨t, rfl⟩ := hv
    refine wpAny_of_eq (rfl : letOwnedTupleGo (.Name x px) (.ref I) _ = pure ()) ?_
    obtain ⟨F₁, N₁⟩ := next h₁ hk₁
    have e0 : (0 : Int) + (i : Int) * 1 = (i : Int) := by omega
    have NI : News h₀ env.locals h₁ ((I, { cls := .type "range_iterator", data := .fields #[rawInt (0 + ((i + 1 : Nat) : Int) * 1), rawInt ((n : Int) - ((i + 1 : Nat) : Int)), rawInt 1] }) :: Led c) := by
      intro p hp
      rcases List.mem_cons.mp hp with rfl | hp
      · exact ⟨hst₁, Ne.symm hIL, hIn⟩
      · exact N₁ p hp
    refine wpAny_mono (wpAny_passesOwn hE (turn i c m' h₁ g' tk₁ t I _ hlt hG hP hne' rfl (by rw [kstB_same hk']; exact F₁) NI |> fun z => by rw [e0]; exact z)) (fun _ s₂ h₂ => wpAny_mono h₂ (fun f s₃ h₃ => ?_) hE) fun _ _ e => e
    have fin : FoEnd h₀ env.locals s G Led ps (P (i + 1)) I { cls := .type "range_iterator", data := .fields #[rawInt (0 + ((i + 1 : Nat) : Int) * 1), rawInt ((n : Int) - ((i + 1 : Nat) : Int)), rawInt 1] } s₃ → ∃ k', k' < n + 1 - i ∧ Inv k' s₃ := fun z => by
      obtain ⟨c', h9, g9, tk9, m9, news9, rfl, hg9, F9, N9, hi9, hn9, hne9, hk9, hp9⟩ := z
      exact ⟨n + 1 - (i + 1), by omega, c', h9, g9, tk9, m9, i + 1, rfl, hg9, hp9, (N9 _ hi9).1, F9, fun p hp => N9 p (hn9 p hp), hne9, hk9, hlt, rfl⟩
    cases f with
    | ret v => exact h₃
    | brk => exact h₃
    | next => exact fin h₃
    | cont => exact fin h₃
  · have hin : i = n := by omega
    subst hin
    refine W.done _ _ _ hst' fun h₁ tk₁ hk₁ => wpAny_execs_nil ?_
    obtain ⟨F₁, N₁⟩ := next h₁ hk₁
    exact done c m' h₁ g' tk₁ hG hP (by rw [kstB_same hk']; exact F₁) N₁
end
end Mine
end R10_part
/-! T1 -/
section T1_part
open PySem PySem.W PyProof.Rows PyProof.Rows.LCg
set_option maxRecDepth 100000
namespace Mine
def TupAt (ax : Addr) (its : Array Value) (news : List (Addr × Obj)) : Prop := ∃ k, (ax, ({ cls := .type "tuple", data := .seq its k } : Obj)) ∈ news
section
variable {prog : Program} {w : World} {A : Around} {E : Value → Shared → Prop} {s : Shared} {env : Env} {h₀ : Heap} {L : Addr} {m : Str → Option Value}
/-- the iterable of a list comprehension is a tuple of the ledger -/
def TupSrc (prog : Program) (w : World) (A : Around) (h₀ : Heap) (L : Addr) (m : Str → Option Value) (env : Env) (elt : PySem.Expr) (x : Str) (scope : Scope) (cl : List (Str × Addr)) (Fin : Shared → List Value → List (Addr × Obj) → Prop) (xv : Value) (s₁ : Shared) : Prop :=
  ∃ ax its k news, xv = .ref ax ∧ A.handled = none ∧ Fr h₀ L s₁.heap m ∧ News h₀ L s₁.heap news ∧ (ax, ({ cls := .type "tuple", data := .seq its k } : Obj)) ∈ news ∧ its.size ≤ sizeLine ∧
    ∀ s₂ : Shared, (∃ h, s₂ = { s₁ with heap := h }) → CompRest prog w A h₀ L m env elt x scope cl s₂ (TupAt ax its) (fun i v => its[i]? = some v) (Fin s₂) its.size 0 [] news
theorem TupSrc.mk {elt : PySem.Expr} {x : Str} {scope : Scope} {cl : List (Str × Addr)} {Fin : Shared → List Value → List (Addr × Obj) → Prop} {ax : Addr} {its : Array Value} {k : Nat} {news : List (Addr × Obj)} {s₁ : Shared}
    (hh : A.handled = none) (F : Fr h₀ L s₁.heap m) (N : News h₀ L s₁.heap news) (hm : (ax, ({ cls := .type "tuple", data := .seq its k } : Obj)) ∈ news) (hsz : its.size ≤ sizeLine)
    (h : ∀ g, CompRest prog w A h₀ L m env elt x scope cl { s₁ with heap := g } (TupAt ax its) (fun i v => its[i]? = some v) (Fin { s₁ with heap := g }) its.size 0 [] news) :
    TupSrc prog w A h₀ L m env elt x scope cl Fin (.ref ax) s₁ := ⟨ax, its, k, news, rfl, hh, F, N, hm, hsz, fun _ ⟨g, e⟩ => e ▸ h g⟩
theorem tup_isTuple {h : Heap} {ax : Addr} {its : Array Value} {news : List (Addr × Obj)} (N : News h₀ L h news) (S : TupAt ax its news) : h.IsTuple ax its := by
  obtain ⟨k, hm⟩ := S
  exact ⟨_, (N _ hm).1, rfl, k, rfl⟩
theorem tup_st {ax I : Addr} {its : Array Value} : ∀ i (h h' : Heap) (o : Obj) (nw : List (Addr × Obj)), (h.IsTupleIter I ax i ∧ h.IsTuple ax its) → h.get? I = some o → h'.get? I = some o → (∀ b o, h₀.get? b = some o → h'.get? b = some o) → News h₀ L h' nw → TupAt ax its nw → (h'.IsTupleIter I ax i ∧ h'.IsTuple ax its) :=
  fun i h h' o nw st e e' k N S => ⟨by obtain ⟨o', q, r⟩ := st.1; rw [e] at q; cases q; exact ⟨o, e', r⟩, tup_isTuple N S⟩
theorem ListComp_T {elt iter : PySem.Expr} {x : Str} {px : Pos} {scope : Scope} {cl : List (Str × Addr)} {pos : Pos} {Q : Value → Shared → Prop} (F₀ : Fr h₀ L s.heap m)
    (hclos : closureFor scope env = pure cl) (hcell : ∀ y ∈ scope.names, y.2 ≠ .cell) (hkind : scope.kind = .function)
    (hnames : ∀ y ∈ scope.names, y.2 = .local → scope.names.lookup y.1 = some .local) (hx : scope.names.lookup x = some .local)
    (h : wpAny (model prog w) A (eval iter env) (TupSrc prog w A h₀ L m env elt x scope cl (fun s₂ => FinE h₀ L m s₂ Q)) E s)
    (hs : ∀ x, foldedSetIterable iter env x = pure x := by intro _; rfl) :
    wpAny (model prog w) A (eval (.ListComp elt [⟨.Name x px, iter, [], 0⟩] scope pos) env) Q E s := by
  rw [eval_ListComp]
  refine wpAny_comprehension_free (use := none) rfl hs hclos hkind hnames (wpAny_mono h (fun xv s₁ h₁ => ?_) fun _ _ e => e)
  obtain ⟨ax, its, k, news, rfl, hh, F, N, S, hsz, R⟩ := h₁
  have hl := tup_isTuple N ⟨k, S⟩
  have hlt : ax < s₁.heap.objs.size := by obtain ⟨_, e, _⟩ := hl; exact Heap.lt_size e
  refine wpAny_pyIter_tuple hl ?_
  have up : ∀ b o, s₁.heap.get? b = some o → (s₁.heap.push { cls := .type "tuple_iterator", data := .fields #[.ref ax, .int 0 0] }).get? b = some o := fun b o e => Heap.get?_push_of_some _ e
  refine block_U (Walks.tuple hh s₁.heap.objs.size ax (Nat.ne_of_lt hlt) its) hsz (fun i h st => by obtain ⟨o, e, _⟩ := st.1; exact ⟨o, e⟩) tup_st hcell hkind hx ⟨⟨_, Heap.get?_push_size _ rfl, rfl, rfl⟩, hl.push _⟩ (fun b hb => ?_)
    (F.keeps up) (N.grown up) (Nat.ne_of_lt F.ns.lt) (next_is_new F) (fun p hp => Nat.ne_of_lt (Heap.lt_size (N p hp).1)) ⟨k, S⟩ (R _ ⟨_, rfl⟩) ?_
  · show b < (s₁.heap.push _).objs.size
    rw [Heap.size_push]
    rcases List.mem_cons.mp hb with rfl | hb
    · exact Nat.lt_succ_self _
    · rw [List.mem_singleton.mp hb]; exact Nat.lt_succ_of_lt hlt
  · intro D C h tk m' ys news' F' N' o1 hn hC₀ hD₀ hCL hDL hCD offC fin
    refine ⟨m', hn, fun h'' hs'' => fin D h'' tk (F'.change hs'' hCL hC₀) (fun p hp => ?_) o1⟩
    refine ⟨hs''.extBut _ _ ?_ (N' p hp).1, (N' p hp).2⟩
    rcases List.mem_cons.mp hp with rfl | hp
    · exact Ne.symm hCD
    · exact offC p hp
end
end Mine
end T1_part
/-! T2 -/
section T2_part
open PySem PySem.W PyProof.Rows
set_option maxRecDepth 100000
namespace Mine
section
variable {M : Model} {A : Around} {E : Value → Shared → Prop} {s : Shared}
theorem inplace_list {a b : Value} {Q : Value → Shared → Prop} (ha : s.TypeIs a "list") (hb : s.TypeIs b "list") (hc : wpAny M A (call (.builtin "list.__iadd__") [a, b]) Q E s) : wpAny M A (inplaceOp .Add a b) Q E s := by
  unfold inplaceOp
  refine wpAny_holding ?_
  have hlk : typeLookup (.type "list") (dunderI "add") = pure (some (.builtin "list.__iadd__")) := PySem.F.slot_list_iadd.lookup
  have hsq : isSeqSlot (some (.builtin "list.__iadd__")) = true := by decide +kernel
  have hfi : fillsInplaceSlot (.type "list") "add" (Operator.Add == .Add) = pure false := by
    unfold fillsInplaceSlot
    show (typeLookup (.type "list") (dunderI "add") >>= fun fi => pure (fi.isSome && !isSeqSlot fi)) = pure false
    rw [hlk, pure_bind, hsq]; rfl
  refine wpAny_bind (wpAny_typeOf ha (wpAny_bind (wpAny_of_eq hfi ?_)))
  show wpAny M A (if false = true then _ else _) Q E s
  rw [if_neg Bool.false_ne_true]
  refine wpAny_bind (wpAny_binaryOp1_none (nm := "add") ha hb noFill_list_add ?_)
  refine wpAny_bind (wpAny_of_eq (PySem.seqSlot_of hlk hsq) ?_)
  exact wpAny_bind (wpAny_rule hc)
end
section
variable {prog : Program} {w : World} {A : Around} {E : Value → Shared → Prop} {s : Shared} {h₀ : Heap} {L D b : Addr} {m : Str → Option Value} {news news' : List (Addr × Obj)} {its its2 : Array Value} {n n2 : Nat} {l : List Value}
theorem kl_iadd {Q : Value → Shared → Prop} (F : Fr h₀ L s.heap m) (N : News h₀ L s.heap news) (hb : (b, PySem.W.listOf its2 n2) ∈ news) (e : its.toList ++ its2.toList = l) (hne : its2.toList.length ≠ 0)
    (U : Upd D (PySem.W.listOf its n) (PySem.W.listOf l.toArray (n + 1)) news news') (hd : ¬(!its.isEmpty && Builtin.List.listTooLong (its.size + its2.size)) = true) (hz : its.toList.length ≤ sizeLine) (hz2 : its.size + its2.size ≤ sizeLine + 1)
    (h : ∀ h', Fr h₀ L h' m → News h₀ L h' news' → Q (.ref D) { s with heap := h' }) : wpAny (model prog w) A (inplaceOp .Add (.ref D) (.ref b)) Q E s := by
  obtain ⟨pre, post, rfl, rfl, a, c⟩ := U.split
  have z := N (D, PySem.W.listOf its n) (List.mem_append.mpr (.inr (.head _)))
  refine inplace_list ⟨_, z.1, rfl⟩ ⟨_, (N _ hb).1, rfl⟩ ?_
  refine call_meets PySem.F.slot_list_iadd ⟨_, z.1, rfl⟩ PySem.F.entry_list_iadd (PySem.F.args_list_iadd_2 _ _) (PySem.AutoSeq1.list___iadd___list_list_0 D its n b its2 n2 hd (by simpa using hz) hz2) ⟨z.1, (N _ hb).1, h _ (F.change (Heap.SameBut.update ..) z.2.1 z.2.2) (kl_turn _ N a c ?_ ?_)⟩
  · subst e
    apply Array.toList_inj.mp
    simp
  · subst e
    simp at hne ⊢
    exact hne
end
end Mine
namespace Mine
open PySem PySem.W PyProof.Rows
theorem off1_lt {D : Addr} {l : List (Addr × Obj)} (h : ∀ p ∈ l, p.1 < D) : LCg.Off1 D l := off1_of fun p hp => Nat.ne_of_lt (h p hp)
theorem all_lt_trans {D D' : Addr} {l : List (Addr × Obj)} (h : ∀ p ∈ l, p.1 < D) (k : D < D') : ∀ p ∈ l, p.1 < D' := fun p hp => Nat.lt_trans (h p hp) k
theorem all_lt_succ {D : Addr} {l : List (Addr × Obj)} (h : ∀ p ∈ l, p.1 < D) : ∀ p ∈ l, p.1 < ((D + 1 : Nat) : Addr) := fun p hp => Nat.lt_succ_of_lt (h p hp)
end Mine
namespace Mine
open PySem PySem.W PyProof.Rows
/-- all rows stand below -/
def LtAll (I : Addr) (l : List (Addr × Obj)) : Prop := ∀ p ∈ l, p.1 < I
theorem LtAll.intro {I : Addr} {l : List (Addr × Obj)} (h : ∀ p ∈ l, p.1 < I) : LtAll I l := h
theorem lt_mem {I a : Addr} {o : Obj} {l : List (Addr × Obj)} (h : LtAll I l) (m : (a, o) ∈ l) : @LT.lt Nat _ a I := h _ m
end Mine
end T2_part
/-! T5 -/
section T5_part
open PySem PySem.W PyProof.Rows
open Sem (wp)
set_option maxRecDepth 100000
namespace Mine
/-- what the zip's own objects and the two drawn ones have to keep apart -/
structure ZAp (z TI TO i1 i2 : Addr) (f1 f2 : List Addr) : Prop where
  z1 : z ∉ f1
  z2 : z ∉ f2
  o1 : TO ∉ f1
  o2 : TO ∉ f2
  a12 : i1 ∉ f2
  a21 : i2 ∉ f1
  m1 : i1 ∈ f1
  m2 : i2 ∈ f2
  tz : TI ≠ z
  to : TI ≠ TO
  t1 : TI ≠ i1
  t2 : TI ≠ i2
  oz : TO ≠ z
section
variable {prog : Program} {w : World} {A : Around} {E : Value → Shared → Prop} {s : Shared}
  {z TI TO i1 i2 : Addr} {f1 f2 : List Addr} {n1 n2 : Nat} {P1 P2 : Nat → Value → Prop} {S1 S2 : Nat → Heap → Prop}
theorem ZAp.n1z (D : ZAp z TI TO i1 i2 f1 f2) : i1 ≠ z := fun e => D.z1 (e ▸ D.m1)
theorem ZAp.n2z (D : ZAp z TI TO i1 i2 f1 f2) : i2 ≠ z := fun e => D.z2 (e ▸ D.m2)
theorem ZAp.n1o (D : ZAp z TI TO i1 i2 f1 f2) : i1 ≠ TO := fun e => D.o1 (e ▸ D.m1)
theorem ZAp.n2o (D : ZAp z TI TO i1 i2 f1 f2) : i2 ≠ TO := fun e => D.o2 (e ▸ D.m2)
theorem ZAp.n12 (D : ZAp z TI TO i1 i2 f1 f2) : i1 ≠ i2 := fun e => D.a12 (e ▸ D.m2)
/-- a change at a place off the footprint -/
theorem St.off {A : Around} {it : Addr} {fp : List Addr} {n : Nat} {P : Nat → Value → Prop} {St : Nat → Heap → Prop} (D : Draws prog w A it fp n P St) {i : Nat} {h h' : Heap} {b : Addr} (st : St i h) (hs : Heap.ExtBut b h h') (hb : b ∉ fp) : St i h' :=
  D.frame _ _ _ st fun c hc o e => hs c o (fun q => hb (q ▸ hc)) e

/-- drawing a pair from two iterators that are drawn by `nextOf` -/
theorem zipD_item {k : Nat} {a b : Value} {Q : Value → Shared → Prop} (D1 : Draws prog w A i1 f1 n1 P1 S1) (D2 : Draws prog w A i2 f2 n2 P2 S2) (D : ZAp z TI TO i1 i2 f1 f2)
    (hz : IsZip s.heap z TI TO .none) (hTI : IsPair s.heap TI (.ref i1) (.ref i2)) (hTO : IsPair s.heap TO a b) (s1 : S1 k s.heap) (s2 : S2 k s.heap) (l1 : k < n1) (l2 : k < n2)
    (hQ : ∀ x y h' tk, P1 k x → P2 k y → IsZip h' z TI TO (rawInt s.heap.objs.size) → IsPair h' TO x y → S1 (k + 1) h' → S2 (k + 1) h' → IsPair h' s.heap.objs.size x y →
      (∀ c o, c ≠ z → c ≠ TO → c ≠ i1 → c ≠ i2 → s.heap.get? c = some o → h'.get? c = some o) → Q (.ref s.heap.objs.size) { s with heap := h', toks := tk }) :
    wpAny (model prog w) A (Builtin.«zip.__next__» ⟨[.ref z], []⟩) (fun fin s' => ∃ v, fin = .done (.ret v) ∧ Q v s') E s := by
  show wpAny _ _ (field (.ref z) 2 >>= _) _ _ _
  refine wpAny_bind (wpAny_field hz rfl (x := .bool false) rfl ?_)
  show wpAny _ _ (field (.ref z) 3 >>= _) _ _ _
  refine wpAny_bind (wpAny_field hz rfl (x := .ref TI) rfl ?_)
  refine wpAny_bind (wpAny_seqItems hTI rfl ?_)
  show wpAny _ _ (Builtin.SmallTypes.ownedTupleIsFree (.ref z) >>= _) _ _ _
  refine wpAny_bind ?_
  unfold Builtin.SmallTypes.ownedTupleIsFree
  refine wpAny_bind (wpAny_field hz rfl (x := .none) rfl (wpAny_pure ?_))
  simp only [if_true]
  refine wpAny_bind (wpAny_rule ?_)
  refine wpAny_bind (wpAny_field hz rfl (x := .ref TO) rfl ?_)
  refine wpAny_bind (wpAny_setField_rec hz (by simp) fun g1 hz1 c1 => ?_)
  replace hz1 : IsZip g1 z TI TO .ellipsis := hz1
  refine wpAny_bind ?_
  simp only [List.zipIdx_cons, List.zipIdx_nil, List.forIn_cons, List.forIn_nil]
  refine wpAny_bind (wpAny_bind (wpAny_onRaise ?_))
  show wpAny _ _ (Builtin.SmallTypes.nextOf (.ref i1) >>= _) _ _ _
  refine wpAny_bind (D1.item k { s with heap := g1 } _ _ l1 (St.off D1 s1 c1.extBut D.z1) fun x g2 tk2 p1 u1 c2 => wpAny_pure ?_)
  have o2 : IsPair g2 TO a b := c2.extBut _ _ D.n1o.symm (c1.extBut _ _ D.oz hTO)
  refine wpAny_bind (wpAny_seqItems o2 rfl ?_)
  refine wpAny_bind (wpAny_updateSeq_pair o2 fun g3 o3 c3 => ?_)
  replace o3 : IsPair g3 TO x b := o3
  refine wpAny_bind (wpAny_letGo (wpAny_pure ?_))
  refine wpAny_bind (wpAny_bind (wpAny_onRaise ?_))
  show wpAny _ _ (Builtin.SmallTypes.nextOf (.ref i2) >>= _) _ _ _
  refine wpAny_bind (D2.item k { s with heap := g3, toks := tk2 } _ _ l2 (St.off D2 (St.off D2 (St.off D2 s2 c1.extBut D.z2) c2.extBut D.a12) c3.extBut D.o2) fun y g4 tk4 p2 u2 c4 => wpAny_pure ?_)
  have o4 : IsPair g4 TO x b := c4.extBut _ _ D.n2o.symm o3
  refine wpAny_bind (wpAny_seqItems o4 rfl ?_)
  refine wpAny_bind (wpAny_updateSeq_pair o4 fun g5 o5 c5 => ?_)
  replace o5 : IsPair g5 TO x y := o5
  refine wpAny_bind (wpAny_letGo (wpAny_pure (wpAny_pure ?_)))
  refine wpAny_bind (wpAny_seqItems o5 rfl ?_)
  refine wpAny_bind (wpAny_newTuple ?_)
  have v1 : S1 (k + 1) g5 := St.off D1 (St.off D1 (St.off D1 u1 c3.extBut D.o1) c4.extBut D.a21) c5.extBut D.o1
  have v2 : S2 (k + 1) g5 := St.off D2 u2 c5.extBut D.o2
  have hsz : g5.objs.size = s.heap.objs.size := by rw [c5.1, c4.1, c3.1, c2.1, c1.1]
  have z5 : IsZip g5 z TI TO .ellipsis := c5.extBut _ _ D.oz.symm (c4.extBut _ _ D.n2z.symm (c3.extBut _ _ D.oz.symm (c2.extBut _ _ D.n1z.symm hz1)))
  have k5 : ∀ c o, c ≠ z → c ≠ TO → c ≠ i1 → c ≠ i2 → s.heap.get? c = some o → g5.get? c = some o := fun c o d1 d2 d3 d4 e =>
    c5.extBut _ _ d2 (c4.extBut _ _ d4 (c3.extBut _ _ d2 (c2.extBut _ _ d3 (c1.extBut _ _ d1 e))))
  have zlt : z < g5.objs.size := Heap.lt_size z5
  show wpAny _ _ (Builtin.SmallTypes.ownedTupleHandOut (.ref z) (.ref g5.objs.size) >>= _) _ _ _
  refine wpAny_bind ?_
  unfold Builtin.SmallTypes.ownedTupleHandOut
  have z6 : IsZip (g5.push { cls := .type "tuple", data := .seq #[x, y] }) z TI TO .ellipsis := Heap.get?_push_of_some _ z5
  refine wpAny_bind (wpAny_setField_rec z6 (by simp) fun g7 z7 c7 => ?_)
  replace z7 : IsZip g7 z TI TO (rawInt g5.objs.size) := z7
  refine wpAny_setField_rec z7 (by simp) fun g8 z8 c8 => ?_
  replace z8 : IsZip g8 z TI TO (rawInt g5.objs.size) := z8
  have up : ∀ c o, c ≠ z → g5.get? c = some o → g8.get? c = some o := fun c o d e => c8.extBut _ _ d (c7.extBut _ _ d (Heap.get?_push_of_some _ e))
  have t8 : IsPair g8 g5.objs.size x y := c8.extBut _ _ (Nat.ne_of_gt zlt) (c7.extBut _ _ (Nat.ne_of_gt zlt) (Heap.get?_push_size _ rfl))
  rw [hsz] at z8 t8
  refine wpAny_pure ⟨_, rfl, ?_⟩
  show Q (.ref g5.objs.size) _
  rw [hsz]
  exact hQ x y g8 _ p1 p2 z8 (up _ _ D.oz o5) (St.off D1 v1 up D.z1) (St.off D2 v2 up D.z2) t8 fun c o d1 d2 d3 d4 e => up c o d1 (k5 c o d1 d2 d3 d4 e)
theorem zipD_end {k : Nat} {Q : Fin → Shared → Prop} (D1 : Draws prog w A i1 f1 k P1 S1) (D : ZAp z TI TO i1 i2 f1 f2)
    (hz : IsZip s.heap z TI TO .none) (hTI : IsPair s.heap TI (.ref i1) (.ref i2)) (s1 : S1 k s.heap)
    (hE : ∀ h' e, (∀ c o, c ≠ z → c ≠ i1 → s.heap.get? c = some o → h'.get? c = some o) → (∃ o, h'.get? e = some o ∧ o.cls = .type "StopIteration") → E (.ref e) { s with heap := h' }) :
    wpAny (model prog w) A (Builtin.«zip.__next__» ⟨[.ref z], []⟩) Q E s := by
  show wpAny _ _ (field (.ref z) 2 >>= _) _ _ _
  refine wpAny_bind (wpAny_field hz rfl (x := .bool false) rfl ?_)
  show wpAny _ _ (field (.ref z) 3 >>= _) _ _ _
  refine wpAny_bind (wpAny_field hz rfl (x := .ref TI) rfl ?_)
  refine wpAny_bind (wpAny_seqItems hTI rfl ?_)
  show wpAny _ _ (Builtin.SmallTypes.ownedTupleIsFree (.ref z) >>= _) _ _ _
  refine wpAny_bind ?_
  unfold Builtin.SmallTypes.ownedTupleIsFree
  refine wpAny_bind (wpAny_field hz rfl (x := .none) rfl (wpAny_pure ?_))
  simp only [if_true]
  refine wpAny_bind (wpAny_rule ?_)
  refine wpAny_bind (wpAny_field hz rfl (x := .ref TO) rfl ?_)
  refine wpAny_bind (wpAny_setField_rec hz (by simp) fun g1 hz1 c1 => ?_)
  replace hz1 : IsZip g1 z TI TO .ellipsis := hz1
  refine wpAny_bind ?_
  simp only [List.zipIdx_cons, List.zipIdx_nil, List.forIn_cons, List.forIn_nil]
  refine wpAny_bind (wpAny_bind (wpAny_onRaise ?_))
  show wpAny _ _ (Builtin.SmallTypes.nextOf (.ref i1) >>= _) _ _ _
  refine wpAny_bind (D1.done { s with heap := g1 } _ _ (St.off D1 s1 c1.extBut D.z1) fun g2 e c2 he => ?_)
  obtain ⟨oe, hoe, hce⟩ := he
  have z2 : IsZip g2 z TI TO .ellipsis := c2 _ _ D.n1z.symm hz1
  have ez : e ≠ z := fun q => by subst q; rw [z2] at hoe; cases hoe; simp at hce
  exact wpAny_setField_rec z2 (by simp) fun g3 _ c3 => hE g3 e (fun c o d1 d2 x => c3.extBut _ _ d1 (c2 _ _ d2 (c1.extBut _ _ d1 x))) ⟨oe, c3.extBut _ _ ez hoe, hce⟩

/-- the turns of a zip of two iterators of one length -/
theorem zip_walks {n : Nat} (D1 : Draws prog w A.in1 i1 f1 n P1 S1) (D2 : Draws prog w A.in1 i2 f2 n P2 S2) (D : ZAp z TI TO i1 i2 f1 f2) :
    WalksT prog w A z (z :: TI :: TO :: (f1 ++ f2)) [z, TO, i1, i2] n
      (fun i vals => ∃ x y, P1 i x ∧ P2 i y ∧ vals = #[x, y])
      (fun i h => IsZip h z TI TO .none ∧ IsPair h TI (.ref i1) (.ref i2) ∧ (∃ a b, IsPair h TO a b) ∧ S1 i h ∧ S2 i h)
      (fun i T h => IsZip h z TI TO (rawInt T) ∧ IsPair h TI (.ref i1) (.ref i2) ∧ (∃ a b, IsPair h TO a b) ∧ S1 (i + 1) h ∧ S2 (i + 1) h ∧ T ≠ z ∧ T ≠ TO ∧ T ≠ i1 ∧ T ≠ i2) where
  sub := fun c hc => by
    simp only [List.mem_cons, List.not_mem_nil, or_false] at hc
    rcases hc with rfl | rfl | rfl | rfl
    · simp
    · simp
    · simp [D.m1]
    · simp [D.m2]
  frame := fun i h h' hst hk => by
    obtain ⟨hz, hTI, ⟨a, b, hTO⟩, s1, s2⟩ := hst
    exact ⟨hk z (by simp) _ hz, hk TI (by simp) _ hTI, ⟨a, b, hk TO (by simp) _ hTO⟩, D1.frame _ _ _ s1 fun c hc o e => hk c (by simp [hc]) o e, D2.frame _ _ _ s2 fun c hc o e => hk c (by simp [hc]) o e⟩
  item := fun i s Q E hi hst hQ => by
    obtain ⟨hz, hTI, ⟨a, b, hTO⟩, s1, s2⟩ := hst
    have hT : s.TypeIs (.ref z) "zip" := ⟨_, hz, rfl⟩
    have lt : ∀ {c o}, s.heap.get? c = some o → s.heap.objs.size ≠ c := fun e => Nat.ne_of_gt (Heap.lt_size e)
    have e1 := lt (D1.live _ _ s1).choose_spec
    have e2 := lt (D2.live _ _ s2).choose_spec
    unfold pyNext
    refine wpAny_bind (wpAny_attempt (wpAny_callSpecial?_slot (name := Str.ofString "__next__") hT F.slot_zip_next
      (wpAny_call_entry F.slot_zip_next hT F.entry_zip_next (zipD_item D1 D2 D hz hTI hTO s1 s2 hi hi fun x y h' tk p1 p2 a1 a2 a3 a4 a5 hk => wpAny_pure ?_) (F.args_zip_next_1 _))))
    exact hQ s.heap.objs.size #[x, y] h' tk ⟨x, y, p1, p2, rfl⟩ (Nat.le_refl _) ⟨_, a5, rfl, _, rfl⟩
      ⟨a1, hk _ _ D.tz D.to D.t1 D.t2 hTI, ⟨_, _, a2⟩, a3, a4, lt hz, lt hTO, e1, e2⟩
      fun c o hc e => hk c o (fun q => hc (by simp [q])) (fun q => hc (by simp [q])) (fun q => hc (by simp [q])) (fun q => hc (by simp [q])) e
  go := fun elts k pos i T s Q E hm hQ => by
    obtain ⟨hz, hTI, ⟨a, b, hTO⟩, s1, s2, _⟩ := hm
    exact wpAny_letOwnedTupleGo_zip hz fun h' hz' hs' => hQ h' ⟨hz', hs'.extBut _ _ D.tz hTI, ⟨a, b, hs'.extBut _ _ D.oz hTO⟩, St.off D1 s1 hs'.extBut D.z1, St.off D2 s2 hs'.extBut D.z2⟩ fun c o hc e => hs'.extBut _ _ (fun q => hc (by simp [q])) e
  apart := fun i T h hm hT => by
    obtain ⟨_, _, _, _, _, t1, t2, t3, t4⟩ := hm
    simp only [List.mem_cons, List.not_mem_nil, or_false] at hT
    rcases hT with q | q | q | q
    · exact t1 q
    · exact t2 q
    · exact t3 q
    · exact t4 q
  done := fun s Q E hst hQ => by
    obtain ⟨hz, hTI, ⟨a, b, hTO⟩, s1, s2⟩ := hst
    have hT : s.TypeIs (.ref z) "zip" := ⟨_, hz, rfl⟩
    unfold pyNext
    refine wpAny_bind (wpAny_attempt (wpAny_callSpecial?_slot (name := Str.ofString "__next__") hT F.slot_zip_next
      (wpAny_call_entry F.slot_zip_next hT F.entry_zip_next (zipD_end D1 D hz hTI s1 fun h' e hk he => ?_) (F.args_zip_next_1 _))))
    obtain ⟨o, ho, hc⟩ := he
    refine wpAny_bind (wpAny_isInstance (T := "StopIteration") (b := true) ⟨o, ho, hc⟩ isSubtype_stop ?_)
    exact wpAny_pure (hQ _ s.toks fun c o hc e => hk c o (fun q => hc (by simp [q])) (fun q => hc (by simp [q])) e)
  self := fun i s Q E hst hQ => wpAny_pyIter_zip hst.1 hQ
end
end Mine
end T5_part
/-! T6 -/
section T6_part
open PySem PySem.W PyProof.Rows PyProof.Rows.LCg
open Sem (wp)
set_option maxRecDepth 100000
namespace Mine
abbrev zt1 (h : Heap) (l1 : Addr) : Heap := h.push { cls := .type "tuple_iterator", data := .fields #[.ref l1, .int 0 0] }
abbrev zt2 (h : Heap) (l1 l2 : Addr) : Heap := (zt1 h l1).push { cls := .type "tuple_iterator", data := .fields #[.ref l2, .int 0 0] }
abbrev zt3 (h : Heap) (l1 l2 : Addr) : Heap := (zt2 h l1 l2).push { cls := .type "tuple", data := .seq #[.ref h.objs.size, .ref (zt1 h l1).objs.size] }
abbrev zt4 (h : Heap) (l1 l2 : Addr) : Heap := (zt3 h l1 l2).push { cls := .type "tuple", data := .seq #[.none, .none] }
abbrev zt5 (h : Heap) (l1 l2 : Addr) : Heap := (zt4 h l1 l2).push { cls := .type "zip", data := .fields #[.none, .bool false, .bool false, .ref (zt2 h l1 l2).objs.size, .ref (zt3 h l1 l2).objs.size] }
theorem zip_new_tup (l1 l2 : Addr) (xs ys : Array Value) :
    Meets (Builtin.«zip.__new__» ⟨[.type "zip", .ref l1, .ref l2], []⟩) (fun _ R s => s.heap.IsTuple l1 xs ∧ s.heap.IsTuple l2 ys ∧
      R (.ok (.ret (.ref (zt4 s.heap l1 l2).objs.size))) { s with heap := zt5 s.heap l1 l2 }) :=
  .of_wp fun prog w A R s h => by
    obtain ⟨hp, g, d, tk, os⟩ := s; obtain ⟨hl1, hl2, h⟩ := h
    have hsub := sub_zip
    have hL1 : Heap.IsTuple (Shared.heap ⟨hp, g, d, tk, os⟩) l1 xs := hl1
    have hL2 : Heap.IsTuple (Shared.heap ⟨hp.push { cls := .type "tuple_iterator", data := .fields #[.ref l1, .int 0 0] }, g, d, tk, os⟩) l2 ys := Heap.IsTuple.push hl2 _
    wp_walk using wpAny_pyIter_tuple hL1, wpAny_pyIter_tuple hL2
    exact ⟨_, rfl, h⟩
theorem zap_of {S l1 l2 : Nat} (h1 : l1 < S) (h2 : l2 < S) : ZAp (S + 4) (S + 2) (S + 3) S (S + 1) [S, l1] [S + 1, l2] := by
  have no : ∀ {a b c : Nat}, a ≠ b → a ≠ c → a ∉ [b, c] := fun x y q => by
    rcases List.mem_cons.mp q with q | q
    · exact x q
    · exact y (List.mem_singleton.mp q)
  have ne : ∀ {a b : Nat}, a ≠ b → a ≠ b := fun x => x
  exact ⟨no (by omega) (by omega), no (by omega) (by omega), no (by omega) (by omega), no (by omega) (by omega), no (by omega) (by omega), no (by omega) (by omega), .head _, .head _,
    ne (by omega), ne (by omega), ne (by omega), ne (by omega), ne (by omega)⟩
section
variable {prog : Program} {w : World} {A : Around} {E : Value → Shared → Prop} {s : Shared} {env : Env} {h₀ : Heap} {body : List Stmt}
theorem call_zip_tup {l1 l2 : Addr} {xs ys : Array Value} {Q : Value → Shared → Prop} (hl1 : s.heap.IsTuple l1 xs) (hl2 : s.heap.IsTuple l2 ys)
    (h : ∀ h', IsZip h' (s.heap.objs.size + 4) (s.heap.objs.size + 2) (s.heap.objs.size + 3) .none → IsPair h' (s.heap.objs.size + 2) (.ref s.heap.objs.size) (.ref (s.heap.objs.size + 1)) →
      IsPair h' (s.heap.objs.size + 3) .none .none → IsTupIter h' s.heap.objs.size l1 0 → IsTupIter h' (s.heap.objs.size + 1) l2 0 →
      (∀ c o, s.heap.get? c = some o → h'.get? c = some o) → Q (.ref (s.heap.objs.size + 4)) { s with heap := h' }) :
    wpAny (model prog w) A (call (.type "zip") [.ref l1, .ref l2]) Q E s := by
  refine callType_new F.called_zip (by decide) (F.typeCall_zip_2 _ _) (F.newCall_zip_2 _ _) (fun obj => F.args_object_init_3 obj _ _) F.entry_zip_new
    (zip_new_tup l1 l2 xs ys) ⟨hl1, hl2, ?_⟩
  have z1 : (zt1 s.heap l1).objs.size = s.heap.objs.size + 1 := Heap.size_push ..
  have z2 : (zt2 s.heap l1 l2).objs.size = s.heap.objs.size + 2 := by rw [Heap.size_push, z1]
  have z3 : (zt3 s.heap l1 l2).objs.size = s.heap.objs.size + 3 := by rw [Heap.size_push, z2]
  have z4 : (zt4 s.heap l1 l2).objs.size = s.heap.objs.size + 4 := by rw [Heap.size_push, z3]
  have up : ∀ {g : Heap} {b : Addr} {o o' : Obj}, g.get? b = some o → (g.push o').get? b = some o := fun e => Heap.get?_push_of_some _ e
  have g5 : (zt5 s.heap l1 l2).get? (zt4 s.heap l1 l2).objs.size = some _ := Heap.get?_push_size _ rfl
  have g4 : (zt5 s.heap l1 l2).get? (zt3 s.heap l1 l2).objs.size = some _ := up (Heap.get?_push_size _ rfl)
  have g3 : (zt5 s.heap l1 l2).get? (zt2 s.heap l1 l2).objs.size = some _ := up (up (Heap.get?_push_size _ rfl))
  have g2 : (zt5 s.heap l1 l2).get? (zt1 s.heap l1).objs.size = some _ := up (up (up (Heap.get?_push_size _ rfl)))
  have g1 : (zt5 s.heap l1 l2).get? s.heap.objs.size = some _ := up (up (up (up (Heap.get?_push_size _ rfl))))
  show _ ∧ _
  rw [z2, z3, z4] at g5
  rw [z1, z2] at g3
  rw [z3] at g4
  rw [z1] at g2
  rw [z4]
  exact ⟨⟨_, g5, rfl⟩, h _ g5 g3 g4 ⟨_, g1, rfl, rfl⟩ ⟨_, g2, rfl, rfl⟩ fun c o x => up (up (up (up (up x))))⟩
/-- «for a, b in zip(t, u)», t and u tuples of the ledger of one length -/
theorem zip_turns {elts : List PySem.Expr} {k : Nat} {pos : Pos} {l1 l2 : Addr} {xs ys : List Value} {n1 n2 : Nat} {m₀ : Str → Option Value} {news : List (Addr × Obj)} {Q : Flow → Shared → Prop}
    (hh : A.handled = none) (F : Fr h₀ env.locals s.heap m₀) (N : News h₀ env.locals s.heap news) (hm1 : (l1, ({ cls := .type "tuple", data := .seq xs.toArray n1 } : Obj)) ∈ news) (hm2 : (l2, ({ cls := .type "tuple", data := .seq ys.toArray n2 } : Obj)) ∈ news) (hlen : xs.length = ys.length)
    (rest₀ : ∀ I : Addr, (∀ p ∈ news, p.1 < I) → ItemsRest prog w A E h₀ env (.Tuple elts k pos) body Q s [(I + 4, "zip"), (I + 2, "tuple"), (I + 3, "tuple"), (I, "tuple_iterator"), (I + 1, "tuple_iterator")]
      [(l1, { cls := .type "tuple", data := .seq xs.toArray n1 }), (l2, { cls := .type "tuple", data := .seq ys.toArray n2 })] (zipItems xs ys) m₀ news) :
    wpAny (model prog w) A (call (.type "zip") [.ref l1, .ref l2]) (fun xv s₁ => wpAny (model prog w) A (pyIter xv) (fun it s₂ => TurnsAt prog w A h₀ env (.Tuple elts k pos) body Q E it s₂) E s₁) E s := by
  have hax1 := N _ hm1
  have hax2 := N _ hm2
  have hl1 : s.heap.IsTuple l1 xs.toArray := ⟨_, hax1.1, rfl, n1, rfl⟩
  have hl2 : s.heap.IsTuple l2 ys.toArray := ⟨_, hax2.1, rfl, n2, rfl⟩
  have hlt1 : l1 < s.heap.objs.size := Heap.lt_size hax1.1
  have hlt2 : l2 < s.heap.objs.size := Heap.lt_size hax2.1
  have hLs : env.locals < s.heap.objs.size := F.ns.lt
  refine call_zip_tup hl1 hl2 fun h' hz hTI hTO hi1 hi2 hk => ?_
  refine wpAny_pyIter_zip hz ?_
  generalize hS : s.heap.objs.size = S at *
  have D : ZAp (S + 4) (S + 2) (S + 3) S (S + 1) [S, l1] [S + 1, l2] := zap_of hlt1 hlt2
  have W := zip_walks (prog := prog) (w := w) (A := A) (draws_tup (A := A.in1) hh S l1 (Nat.ne_of_lt hlt1) xs.toArray) (by
    have := draws_tup (prog := prog) (w := w) (A := A.in1) hh (S + 1) l2 (Nat.ne_of_lt (Nat.lt_succ_of_lt hlt2)) ys.toArray
    have e : ys.toArray.size = xs.toArray.size := by simp [hlen]
    rw [e] at this
    exact this) D
  refine ktu_core (tk0 := s.toks) (keep := [(l1, { cls := .type "tuple", data := .seq xs.toArray n1 }), (l2, { cls := .type "tuple", data := .seq ys.toArray n2 })]) (KTurns.ofWalksU W.toU) (by simp [zipItems_length, hlen]) ?_ ?_ ?_ ?_ ?_ ?_ ?_ ?_ (F.keeps hk) (N.grown hk) (And.intro hm1 (And.intro hm2 trivial)) (rest₀ _ fun p hp => hS ▸ Heap.lt_size (N p hp).1)
  · rintro i v h ⟨T, vals, rfl, ⟨x, y, hx, hy, rfl⟩, hT⟩
    exact ⟨_, zipItems_get xs ys i (x := x) (y := y) (by simpa using hx) (by simpa using hy), T, 0, rfl, hT⟩
  · rintro i h ⟨hz, hTI, ⟨a, b, hTO⟩, ⟨⟨o1, ho1, hc1, _⟩, _⟩, ⟨o2, ho2, hc2, _⟩, _⟩
    have e1 : ∃ o : Obj, h.get? (S + 4) = some o ∧ o.cls = .type "zip" := ⟨_, hz, rfl⟩
    have e2 : ∃ o : Obj, h.get? (S + 2) = some o ∧ o.cls = .type "tuple" := ⟨_, hTI, rfl⟩
    have e3 : ∃ o : Obj, h.get? (S + 3) = some o ∧ o.cls = .type "tuple" := ⟨_, hTO, rfl⟩
    obtain ⟨q1, g1, k1⟩ := e1
    obtain ⟨q2, g2, k2⟩ := e2
    obtain ⟨q3, g3, k3⟩ := e3
    refine ⟨[(S + 4, q1), (S + 2, q2), (S + 3, q3), (S, o1), (S + 1, o2)], ⟨⟨rfl, k1⟩, ⟨rfl, k2⟩, ⟨rfl, k3⟩, ⟨rfl, hc1⟩, ⟨rfl, hc2⟩, trivial⟩, fun p hp => ?_⟩
    simp only [List.mem_cons, List.not_mem_nil, or_false] at hp
    rcases hp with rfl | rfl | rfl | rfl | rfl
    · exact g1
    · exact g2
    · exact g3
    · exact ho1
    · exact ho2
  · subst hS
    have g : ∀ d : Nat, h₀.get? (s.heap.objs.size + d : Nat) = none := fun d => ktu_new F (Nat.le_add_right _ _)
    exact (List.forall_mem_cons.mpr ⟨⟨(.head _), g 4⟩, (List.forall_mem_cons.mpr ⟨⟨(.tail _ (.head _)), g 2⟩, (List.forall_mem_cons.mpr ⟨⟨(.tail _ (.tail _ (.head _))), g 3⟩, (List.forall_mem_cons.mpr ⟨⟨(.tail _ (.tail _ (.tail _ (.head _)))), ktu_new F (Nat.le_refl _)⟩, (List.forall_mem_cons.mpr ⟨⟨(.tail _ (.tail _ (.tail _ (.tail _ (.tail _ (.head _)))))), g 1⟩, (fun _ h => nomatch h)⟩)⟩)⟩)⟩)⟩)
  · exact (List.forall_mem_cons.mpr ⟨(.head _), (List.forall_mem_cons.mpr ⟨(.tail _ (.tail _ (.head _))), (List.forall_mem_cons.mpr ⟨(.tail _ (.tail _ (.tail _ (.head _)))), (List.forall_mem_cons.mpr ⟨(.tail _ (.tail _ (.tail _ (.tail _ (.head _))))), (fun _ h => nomatch h)⟩)⟩)⟩)⟩)
  · exact (List.forall_mem_cons.mpr ⟨.inl (.head _), (List.forall_mem_cons.mpr ⟨.inl (.tail _ (.head _)), (List.forall_mem_cons.mpr ⟨.inl (.tail _ (.tail _ (.head _))), (List.forall_mem_cons.mpr ⟨.inl (.tail _ (.tail _ (.tail _ (.head _)))), (List.forall_mem_cons.mpr ⟨.inr ⟨_, List.mem_cons_self ..⟩, (List.forall_mem_cons.mpr ⟨.inl (.tail _ (.tail _ (.tail _ (.tail _ (.head _))))), (List.forall_mem_cons.mpr ⟨.inr ⟨_, List.mem_cons_of_mem _ (List.mem_cons_self ..)⟩, (fun _ h => nomatch h)⟩)⟩)⟩)⟩)⟩)⟩)⟩)
  · have z : ∀ b ∈ [S + 4, S + 2, S + 3, S, l1, S + 1, l2], env.locals ≠ b := (List.forall_mem_cons.mpr ⟨ktu_ne 4 hLs, (List.forall_mem_cons.mpr ⟨ktu_ne 2 hLs, (List.forall_mem_cons.mpr ⟨ktu_ne 3 hLs, (List.forall_mem_cons.mpr ⟨Nat.ne_of_lt hLs, (List.forall_mem_cons.mpr ⟨fun e => hax1.2.1 e.symm, (List.forall_mem_cons.mpr ⟨ktu_ne 1 hLs, (List.forall_mem_cons.mpr ⟨fun e => hax2.2.1 e.symm, (fun _ h => nomatch h)⟩)⟩)⟩)⟩)⟩)⟩)⟩)
    exact fun hI' => z _ hI' rfl
  · intro p hp hI'
    have hlp := Heap.lt_size (N p hp).1
    rw [hS] at hlp
    have z : ∀ b ∈ [S + 4, S + 3, S, S + 1], p.1 ≠ b := (List.forall_mem_cons.mpr ⟨ktu_ne 4 hlp, (List.forall_mem_cons.mpr ⟨ktu_ne 3 hlp, (List.forall_mem_cons.mpr ⟨Nat.ne_of_lt hlp, (List.forall_mem_cons.mpr ⟨ktu_ne 1 hlp, (fun _ h => nomatch h)⟩)⟩)⟩)⟩)
    exact z _ hI' rfl
  · exact ⟨hz, hTI, ⟨_, _, hTO⟩, ⟨hi1, let ⟨o, q, r⟩ := hl1; ⟨o, hk _ o q, r⟩⟩, ⟨hi2, let ⟨o, q, r⟩ := hl2; ⟨o, hk _ o q, r⟩⟩⟩
end
end Mine
namespace Mine
open PySem PySem.W PyProof.Rows
theorem unr_end5 {h₀ : Heap} {L I : Addr} {o0 o1 o2 o3 o4 : Obj} {s₁ : Shared} {keep : List (Addr × Obj)} {r : (Str → Option Value) → List (Addr × Obj) → Prop} {h' : Heap} {tk : Nat} {m' : Str → Option Value} {news' : List (Addr × Obj)} (F : Fr h₀ L h' m')
    (N : News h₀ L h' (((I + 4 : Nat), o4) :: ((I + 2 : Nat), o2) :: ((I + 3 : Nat), o3) :: (I, o0) :: ((I + 1 : Nat), o1) :: news')) (l : ∀ p ∈ news', p.1 < I) (k : SubL keep news') (r1 : r m' news') :
    UnrEndW h₀ L s₁ [((I + 4 : Nat), o4), ((I + 2 : Nat), o2), ((I + 3 : Nat), o3), (I, o0), ((I + 1 : Nat), o1)] (fun m n => SubL keep n ∧ r m n) { s₁ with heap := h', toks := tk } :=
  unr_end (its := [((I + 4 : Nat), o4), ((I + 2 : Nat), o2), ((I + 3 : Nat), o3), (I, o0), ((I + 1 : Nat), o1)]) F N (fun p hp q hq e => by
    have h1 : @LT.lt Nat _ p.1 I := l p hp
    have ne : ∀ d : Nat, p.1 ≠ I + d := fun d => Nat.ne_of_lt (Nat.lt_add_right d h1)
    simp only [List.mem_cons, List.not_mem_nil, or_false] at hq
    rcases hq with rfl | rfl | rfl | rfl | rfl
    · exact ne 4 e
    · exact ne 2 e
    · exact ne 3 e
    · exact ne 0 e
    · exact ne 1 e) ⟨k, r1⟩
end Mine
end T6_part
/-! T7 -/
section T7_part
open PySem PySem.W PySem.Calls PyProof.Rows
set_option maxRecDepth 100000
namespace Mine
theorem step2_bounds : sliceBounds none none (some 2) 8 = (0, 8, 2) := by
  first
  | rfl
  | simp [sliceBounds]
theorem step2_range : sliceRange 0 8 2 = [0, 2, 4, 6] := by
  unfold sliceRange
  decide
theorem step2_pick (a b c d e f g i : Value) : slicePick #[a, b, c, d, e, f, g, i] none none (some 2) = [a, c, e, g].toArray := by
  unfold slicePick
  rw [show (#[a, b, c, d, e, f, g, i] : Array Value).size = 8 from rfl, step2_bounds]
  show ((sliceRange 0 8 2).filterMap _).toArray = _
  rw [step2_range]
  rfl
section
variable {prog : Program} {w : World} {A : Around} {E : Value → Shared → Prop} {s : Shared} {h₀ : Heap} {L l : Addr} {m : Str → Option Value} {news : List (Addr × Obj)} {value slice : PySem.Expr} {vk : Value} {ops : List Value} {Q : Value → Shared → Prop}
/-- every second item of a written list of eight -/
theorem step2_lit {a b c d e f g i : Value} (F : Fr h₀ L s.heap m) (N : News h₀ L s.heap news) (hl : s.heap.IsList l #[a, b, c, d, e, f, g, i]) (pk : IsPart vk (some 2))
    (h : ∀ D h', Fr h₀ L h' m → News h₀ L h' ((D, ({ cls := .type "list", data := .seq #[a, c, e, g] } : Obj)) :: news) → (∀ p ∈ news, p.1 < D) → Q (.ref D) { s with heap := h' })
    (hs : subscripted slice false (.ref l) (.ref s.heap.objs.size) = operate ops (getItem (.ref l) (.ref s.heap.objs.size))) (ht : ∀ r, letTemporaryGo value (.ref l) r = pure ()) :
    wpAny (model prog w) A (subscriptTail value slice (.ref l) (.ref s.heap.objs.size)) Q E { s with heap := s.heap.push { cls := .type "slice", data := .fields #[.none, .none, vk] } } := by
  refine slice_list3 F N hl .none .none pk (by decide) (fun h' F' N' => h _ h' F' ?_ fun p hp => Nat.lt_succ_of_lt (Heap.lt_size (N p hp).1)) hs ht
  rw [step2_pick] at N'
  exact N'
end

/-- `y == x` in any state of I gives b and keeps I -/
def EqI (prog : Program) (w : World) (A : Around) (I : Shared → Prop) (y x : Value) (b : Bool) : Prop :=
  ∀ (E : Value → Shared → Prop) (Q : Bool → Shared → Prop) (s : Shared), I s → (∀ s', I s' → Q b s') → wpAny (model prog w) A (eqBool y x) Q E s

open MeetsSeq MeetsSeq2 SeqRoads2
open AutoSeq1 (wpAny_loadPart')
section
variable {prog : Program} {w : World}
theorem contains_loopI {A₁ : Around} {I : Shared → Prop} (l : Addr) (items : Array Value) (n : Nat) (dd : Option Addr) (sl : Array (Option Value)) (x : Value) (e : Value → Bool)
    (hI : ∀ s, I s → s.heap.get? l = some { cls := .type "list", dict := dd, data := .seq items n, slots := sl }) (he : ∀ y, y ∈ items → EqI prog w A₁.in1 I y x (e y)) (k : Nat) :
    ∀ i : Nat, items.size - i = k → MeetsIn prog w (Builtin.«list.__contains__.loop» ⟨[.ref l, x, rawInt i], []⟩)
      (fun A R s => A = A₁ ∧ I s ∧ ∀ s', I s' → R (.ok (.ret (.bool ((items.toList.drop i).any e)))) s') := by
  induction k with
  | zero =>
    intro i hk A R s h
    obtain ⟨rfl, hs, h⟩ := h
    have hl := hI _ hs
    obtain ⟨hp, g, d, tk, os⟩ := s
    wp_walk using wpAny_loadPart' hl
    have hi : items[((i : Nat) : Int).toNat]? = none := by simp; omega
    have hd : items.toList.drop i = [] := by simp; omega
    rw [hd] at h
    rw [hi]
    wp_walk
    exact h _ hs
  | succ k ih =>
    intro i hk A R s h
    obtain ⟨rfl, hs, h⟩ := h
    have hl := hI _ hs
    obtain ⟨hp, g, d, tk, os⟩ := s
    wp_walk using wpAny_loadPart' hl
    have hlt : i < items.size := by omega
    have hi : items[((i : Nat) : Int).toNat]? = some items[i] := by simp [hlt]
    have hd : items.toList.drop i = items[i] :: items.toList.drop (i + 1) := by simp [List.drop_eq_getElem_cons, hlt]
    rw [hd, List.any_cons] at h
    rw [hi]
    refine wpAny_bind (he _ (Array.getElem_mem hlt) _ _ _ hs fun s' hs' => ?_)
    obtain ⟨hp', g', d', tk', os'⟩ := s'
    cases hb : e items[i] with
    | true =>
      rw [hb] at h
      wp_walk
      exact h _ hs'
    | false =>
      rw [hb] at h
      have hc : ((i : Int) + 1) = ((i + 1 : Nat) : Int) := by push_cast; rfl
      wp_walk
      rw [hc]
      exact ⟨plainId_quiet plain_contains_loop _, codeAny_builtin entry_contains_loop (by
        rw [Around.under_plainId plain_contains_loop _]
        exact ih (i + 1) (by omega) A R _ ⟨rfl, hs', by simpa using h⟩)⟩
theorem list_containsI {A₁ : Around} {I : Shared → Prop} (l : Addr) (items : Array Value) (n : Nat) (dd : Option Addr) (sl : Array (Option Value)) (x : Value) (e : Value → Bool)
    (hI : ∀ s, I s → s.heap.get? l = some { cls := .type "list", dict := dd, data := .seq items n, slots := sl }) (he : ∀ y, y ∈ items → EqI prog w A₁.in1 I y x (e y)) :
    MeetsIn prog w (Builtin.«list.__contains__» ⟨[.ref l, x], []⟩)
      (fun A R s => A = A₁ ∧ I s ∧ ∀ s', I s' → R (.ok (.ret (.bool (items.any e)))) s') := by
  intro A R s h
  obtain ⟨rfl, hs, h⟩ := h
  have hl := hI _ hs
  obtain ⟨hp, g, d, tk, os⟩ := s
  wp_walk using wpAny_loadPart' hl
  exact ⟨plainId_quiet plain_contains_loop _, codeAny_builtin entry_contains_loop (by
    rw [Around.under_plainId plain_contains_loop _]
    exact contains_loopI l items n dd sl x e hI he _ 0 rfl A R _ ⟨rfl, hs, by simpa using h⟩)⟩
theorem index_loopI {A₁ : Around} {I : Shared → Prop} (l : Addr) (items : Array Value) (n : Nat) (dd : Option Addr) (sl : Array (Option Value)) (x : Value) (e : Value → Bool)
    (hI : ∀ s, I s → s.heap.get? l = some { cls := .type "list", dict := dd, data := .seq items n, slots := sl }) (he : ∀ y, y ∈ items → EqI prog w A₁.in1 I y x (e y)) (upto : Int) (j : Nat) (hj : j < items.size) (hupto : (j : Int) < upto)
    (hit : e items[j] = true) (k : Nat) :
    ∀ i : Nat, j - i = k → i ≤ j → (∀ m (hm : m < items.size), i ≤ m → m < j → e items[m] = false) → MeetsIn prog w (Builtin.«list.index.loop» ⟨[.ref l, x, rawInt i, rawInt upto], []⟩)
      (fun A R s => A = A₁ ∧ I s ∧ ∀ s', I s' → R (.ok (.ret (.int j s'.toks))) { s' with toks := s'.toks + 1 }) := by
  induction k with
  | zero =>
    intro i hk hij hno A R s h
    obtain ⟨rfl, hs, h⟩ := h
    have hl := hI _ hs
    obtain ⟨hp, g, d, tk, os⟩ := s
    have hij' : i = j := by omega
    subst hij'
    wp_walk using wpAny_loadPart' hl
    have hi : (if (i : Int) < upto then items[((i : Nat) : Int).toNat]? else none) = some items[i] := by simp [hupto, hj]
    rw [hi]
    refine wpAny_bind (he _ (Array.getElem_mem hj) _ _ _ hs fun s' hs' => ?_)
    obtain ⟨hp', g', d', tk', os'⟩ := s'
    rw [hit]
    wp_walk
    exact h _ hs'
  | succ k ih =>
    intro i hk hij hno A R s h
    obtain ⟨rfl, hs, h⟩ := h
    have hl := hI _ hs
    obtain ⟨hp, g, d, tk, os⟩ := s
    have hlt : i < items.size := by omega
    have hst : (i : Int) < upto := by omega
    wp_walk using wpAny_loadPart' hl
    have hi : (if (i : Int) < upto then items[((i : Nat) : Int).toNat]? else none) = some items[i] := by simp [hst, hlt]
    have hc : ((i : Int) + 1) = ((i + 1 : Nat) : Int) := by push_cast; rfl
    rw [hi]
    refine wpAny_bind (he _ (Array.getElem_mem hlt) _ _ _ hs fun s' hs' => ?_)
    obtain ⟨hp', g', d', tk', os'⟩ := s'
    rw [hno i hlt (Nat.le_refl _) (by omega)]
    wp_walk
    rw [hc]
    exact ⟨plainId_quiet plain_index_loop _, codeAny_builtin entry_index_loop (by
      rw [Around.under_plainId plain_index_loop _]
      exact ih (i + 1) (by omega) (by omega) (fun m hm h1 h2 => hno m hm (by omega) h2) A R _ ⟨rfl, hs', h⟩)⟩
theorem list_indexI {A₁ : Around} {I : Shared → Prop} (l : Addr) (items : Array Value) (n : Nat) (dd : Option Addr) (sl : Array (Option Value)) (x : Value) (e : Value → Bool)
    (hI : ∀ s, I s → s.heap.get? l = some { cls := .type "list", dict := dd, data := .seq items n, slots := sl }) (he : ∀ y, y ∈ items → EqI prog w A₁.in1 I y x (e y)) (j : Nat) (hj : j < items.size) (hsmall : (j : Int) < 2 ^ 63 - 1)
    (hit : e items[j] = true) (hno : ∀ m (hm : m < items.size), m < j → e items[m] = false) :
    MeetsIn prog w (Builtin.«list.index» ⟨[.ref l, x], []⟩)
      (fun A R s => A = A₁ ∧ I s ∧ ∀ s', I s' → R (.ok (.ret (.int j s'.toks))) { s' with toks := s'.toks + 1 }) := by
  intro A R s h
  obtain ⟨rfl, hs, h⟩ := h
  have hl := hI _ hs
  obtain ⟨hp, g, d, tk, os⟩ := s
  wp_walk using wpAny_loadPart' hl
  have a1 : ((fun i : Int => if i < 0 then max 0 (i + (items.size : Int)) else i) ((none : Option Int).getD 0)) = ((0 : Nat) : Int) := by simp
  have a2 : ((fun i : Int => if i < 0 then max 0 (i + (items.size : Int)) else i) ((none : Option Int).getD (2 ^ 63 - 1))) = 2 ^ 63 - 1 := by simp
  rw [a1, a2]
  exact ⟨plainId_quiet plain_index_loop _, codeAny_builtin entry_index_loop (by
    rw [Around.under_plainId plain_index_loop _]
    exact index_loopI l items n dd sl x e hI he (2 ^ 63 - 1) j hj hsmall hit _ 0 rfl (Nat.zero_le _) (fun m hm _ h2 => hno m hm h2) A R _ ⟨rfl, hs, h⟩)⟩

variable {A : Around} {E : Value → Shared → Prop} {s : Shared}
theorem in_listI {I : Shared → Prop} {l : Addr} {items : Array Value} {n : Nat} {x : Value} {Q : Value → Shared → Prop} (e : Value → Bool)
    (hI : ∀ s, I s → s.heap.get? l = some { cls := .type "list", data := .seq items n }) (he : ∀ y, y ∈ items → EqI prog w A.in1 I y x (e y)) (hs : I s)
    (h : ∀ s', I s' → Q (.bool (items.any e)) s') : wpAny (model prog w) A (compareOp .In x (.ref l)) Q E s := by
  show wpAny _ A (do return .bool (← contains (.ref l) x)) Q E s
  have hT : s.TypeIs (.ref l) "list" := ⟨_, hI _ hs, rfl⟩
  refine wpAny_bind (wpAny_contains_slot hT F.slot_list_contains (wpAny_mono (call_meetsIn (Q := fun v s' => ∃ b, v = .bool b ∧ Q (.bool b) s') F.slot_list_contains hT F.entry_list_contains (F.args_list_contains_2 _ _) (list_containsI l items n none #[] x e hI he) ⟨rfl, hs, fun s' hs' => ⟨_, rfl, h s' hs'⟩⟩) (fun v s' hv => ?_) fun _ _ e => e))
  obtain ⟨b, rfl, hq⟩ := hv
  exact wpAny_truthy_bool (wpAny_pure hq)
theorem index_listI {I : Shared → Prop} {l : Addr} {items : Array Value} {n : Nat} {x : Value} {Q : Value → Shared → Prop} (e : Value → Bool)
    (hI : ∀ s, I s → s.heap.get? l = some { cls := .type "list", data := .seq items n }) (he : ∀ y, y ∈ items → EqI prog w A.in1 I y x (e y)) (hs : I s) (j : Nat) (hj : j < items.size) (hsmall : (j : Int) < 2 ^ 63 - 1)
    (hit : e items[j] = true) (hno : ∀ m (hm : m < items.size), m < j → e items[m] = false)
    (h : ∀ s', I s' → Q (.int j s'.toks) { s' with toks := s'.toks + 1 }) : wpAny (model prog w) A (call (.builtin "list.index") [.ref l, x]) Q E s :=
  call_meetsIn F.slot_list_index ⟨_, hI _ hs, rfl⟩ F.entry_list_index (F.args_list_index_2 _ _) (list_indexI l items n none #[] x e hI he j hj hsmall hit hno) ⟨rfl, hs, h⟩
end
end Mine
end T7_part
/-! T10 -/
section T10_part
open PySem PySem.W PySem.Calls PyProof.Rows
set_option maxRecDepth 100000
namespace Mine
open PySem.Builtin in
theorem int_pow3 (a : Int) (t : Tok) (b : Int) (u : Tok) (c : Int) (v : Tok) (hc0 : (c == 0) = false) (hc1 : (c.natAbs == 1) = false) (hb : ¬ b < 0) (hc2 : (decide (c < 0)) = false) :
    Gives (Builtin.«int.__pow__» ⟨[.int a t, .int b u, .int c v], []⟩) (.int (powMod (a % (c.natAbs : Int)).toNat b.natAbs c.natAbs)) :=
  .of_wp fun M A E s Q h => by
    obtain ⟨hp, g, d, tk, os⟩ := s; wp_walk
    rw [hc2, Bool.false_and, if_neg Bool.false_ne_true]
    exact ⟨_, rfl, h⟩
theorem testBit_shift (e k : Nat) : e >>> k = 2 * (e >>> (k + 1)) + (if e.testBit k then 1 else 0) := by
  rw [Nat.testBit_eq_decide_div_mod_eq, Nat.shiftRight_eq_div_pow, Nat.shiftRight_eq_div_pow, Nat.pow_succ, ← Nat.div_div_eq_div_mul]
  by_cases h : e / 2 ^ k % 2 = 1 <;> simp only [h, decide_true, decide_false, if_true, if_false, Bool.false_eq_true] <;> omega
theorem powMod_fold (b e m : Nat) : ∀ k, (List.range k).reverse.foldl (fun p i => if e.testBit i then p * p % m * b % m else p * p % m) (b ^ (e >>> k) % m) = b ^ e % m
  | 0 => by simp
  | k + 1 => by
    rw [List.range_succ, List.reverse_append, List.reverse_cons, List.reverse_nil, List.nil_append, List.singleton_append, List.foldl_cons]
    have ih := powMod_fold b e m k
    rw [testBit_shift e k] at ih
    rw [← ih]
    congr 1
    cases h : e.testBit k with
    | false =>
      simp only [Bool.false_eq_true, if_false, Nat.add_zero]
      rw [Nat.two_mul, Nat.pow_add, ← Nat.mul_mod]
    | true =>
      simp only [if_true]
      rw [Nat.pow_succ, Nat.two_mul, Nat.pow_add, ← Nat.mul_mod, Nat.mod_mul_mod]
theorem powMod_eq (b e m : Nat) : PySem.Builtin.powMod b e m = b ^ e % m := by
  unfold PySem.Builtin.powMod
  have h := powMod_fold b e m (PySem.Builtin.Int.intBits (e : Int))
  have h0 : e >>> (PySem.Builtin.Int.intBits (e : Int)) = 0 := by
    rw [Nat.shiftRight_eq_div_pow]
    apply Nat.div_eq_of_lt
    unfold PySem.Builtin.Int.intBits
    by_cases he : e = 0
    · subst he; decide
    · have : ((e : Int) == 0) = false := by simpa using he
      rw [this, if_neg Bool.false_ne_true, Int.natAbs_natCast]
      exact Nat.lt_log2_self
  rw [h0, Nat.pow_zero] at h
  exact h
theorem entry_pow : entryFor table "pow" = some Builtin.«pow» := entryFor_of_fast (by kernel_rfl)
theorem kind_pow : builtinKind "pow" = none := by decide +kernel
theorem plain_pow : plainId "pow" = true := by decide +kernel
theorem args_pow3 (a b c : Value) : argsOk "pow" ⟨[a, b, c], []⟩ := by unfold argsOk; kernel_rfl
section
variable {prog : Program} {w : World} {A : Around} {E : Value → Shared → Prop} {s : Shared} {Q : Value → Shared → Prop}
theorem args_int_pow_3 (a b c : Value) : argsOk "int.__pow__" ⟨[a, b, c], []⟩ := by
  unfold argsOk; kernel_rfl
theorem call_pow3 {a b n : Nat} {t u v : Tok} {x y z : Int} (hx : x = (a : Int)) (hy : y = (b : Int)) (hz : z = (n : Int)) (hn : 1 < n) (h : Q (.int ((a ^ b % n : Nat) : Int) s.toks) { s with toks := s.toks + 1 }) :
    wpAny (model prog w) A (call (.builtin "pow") [.int x t, .int y u, .int z v]) Q E s := by
  subst hx hy hz
  refine call_function_entry kind_pow plain_pow entry_pow (args_pow3 _ _ _) ?_
  unfold Builtin.«pow»
  refine wpAny_bind (m := PySem.Builtin.Builtins.bindParams "pow" ["base", "exp", "mod"] 2 _) (wpAny_pure ?_)
  dsimp only [Option.getD]
  refine wpAny_bind (wpAny_rule ?_)
  refine wpAny_bind (wpAny_typeOf (typeIs_int s _ t) ?_)
  dsimp only
  refine wpAny_bind (wpAny_of_eq F.slot_int_pow.lookup ?_)
  dsimp only
  have e1 : (((n : Int)) == 0) = false := by simp; omega
  have e2 : (((n : Int)).natAbs == 1) = false := by simp; omega
  have e3 : decide (((n : Int)) < 0) = false := by simp
  have e4 : (PySem.Builtin.powMod (((a : Int)) % ((((n : Int)).natAbs : Nat) : Int)).toNat ((b : Int)).natAbs ((n : Int)).natAbs) = a ^ b % n := by
    rw [Int.natAbs_natCast, Int.natAbs_natCast, powMod_eq]
    have : ((a : Int) % (n : Int)).toNat = a % n := by omega
    rw [this, ← Nat.pow_mod]
  refine wpAny_bind (wpAny_callSpecial?_slot (name := Str.ofString "__pow__") (typeIs_int s _ t) F.slot_int_pow (call_gives F.slot_int_pow (typeIs_int s _ t) F.entry_int_pow (args_int_pow_3 _ _ _) (int_pow3 _ _ _ _ _ _ e1 e2 (by omega) e3) ?_))
  rw [e4]
  show wpAny _ _ (ret _ >>= fun x => pure x) _ _ _
  exact wpAny_bind (wpAny_pure (wpAny_pure ⟨_, rfl, h⟩))
end
end Mine
end T10_part
/-! Z1 -/
section Z1_part
namespace Mine
abbrev G := Int × Int
def gm (a b : G) : G := (a.1 * b.1 - a.2 * b.2, a.1 * b.2 + a.2 * b.1)
def gp (a : G) : Nat → G
  | 0 => (1, 0)
  | k + 1 => gm (gp a k) a
def red (n : Int) (a : G) : G := (a.1 % n, a.2 % n)
def nm (a : G) : Int := a.1 * a.1 + a.2 * a.2
/-- equal modulo `n` -/
def Cg (n : Int) (a b : G) : Prop := n ∣ a.1 - b.1 ∧ n ∣ a.2 - b.2
theorem gm_comm (a b : G) : gm a b = gm b a := by simp only [gm, Prod.mk.injEq]; constructor <;> grind
theorem gm_assoc (a b c : G) : gm (gm a b) c = gm a (gm b c) := by simp only [gm, Prod.mk.injEq]; constructor <;> grind
theorem gm_one (a : G) : gm a (1, 0) = a := by simp [gm]
theorem one_gm (a : G) : gm (1, 0) a = a := by simp [gm]
theorem gp_one (a : G) : gp a 1 = a := one_gm a
theorem gp_add (a : G) (i j : Nat) : gp a (i + j) = gm (gp a i) (gp a j) := by
  induction j with
  | zero => exact (gm_one _).symm
  | succ j ih => show gm (gp a (i + j)) a = gm (gp a i) (gm (gp a j) a); rw [ih, gm_assoc]
theorem gp_mul (a : G) (i j : Nat) : gp a (i * j) = gp (gp a i) j := by
  induction j with
  | zero => rfl
  | succ j ih => rw [Nat.mul_succ, gp_add, ih]; rfl
theorem gp_gm (a b : G) (k : Nat) : gp (gm a b) k = gm (gp a k) (gp b k) := by
  induction k with
  | zero => rfl
  | succ k ih =>
    show gm (gp (gm a b) k) (gm a b) = gm (gm (gp a k) a) (gm (gp b k) b)
    rw [ih, gm_assoc, gm_assoc, ← gm_assoc (gp b k) a b, gm_comm (gp b k) a, gm_assoc]
theorem Cg.refl (n : Int) (a : G) : Cg n a a := ⟨by simp, by simp⟩
theorem Cg.symm {n : Int} {a b : G} (h : Cg n a b) : Cg n b a := ⟨by have := Int.dvd_neg.mpr h.1; rwa [Int.neg_sub] at this, by have := Int.dvd_neg.mpr h.2; rwa [Int.neg_sub] at this⟩
theorem Cg.trans {n : Int} {a b c : G} (h : Cg n a b) (k : Cg n b c) : Cg n a c := by
  obtain ⟨⟨x, h1⟩, ⟨y, h2⟩⟩ := h
  obtain ⟨⟨z, k1⟩, ⟨t, k2⟩⟩ := k
  exact ⟨⟨x + z, by grind⟩, ⟨y + t, by grind⟩⟩
theorem Cg.of_eq {n : Int} {a b : G} (h : a = b) : Cg n a b := h ▸ Cg.refl n a
theorem Cg.gm {n : Int} {a b c d : G} (h : Cg n a b) (k : Cg n c d) : Cg n (gm a c) (gm b d) := by
  obtain ⟨⟨x, h1⟩, ⟨y, h2⟩⟩ := h
  obtain ⟨⟨z, k1⟩, ⟨t, k2⟩⟩ := k
  have e1 : a.1 = b.1 + n * x := by omega
  have e2 : a.2 = b.2 + n * y := by omega
  have e3 : c.1 = d.1 + n * z := by omega
  have e4 : c.2 = d.2 + n * t := by omega
  refine ⟨⟨b.1 * z + x * d.1 + n * x * z - (b.2 * t + y * d.2 + n * y * t), ?_⟩, ⟨b.1 * t + x * d.2 + n * x * t + (b.2 * z + y * d.1 + n * y * z), ?_⟩⟩
  · simp only [Mine.gm]; rw [e1, e2, e3, e4]; grind
  · simp only [Mine.gm]; rw [e1, e2, e3, e4]; grind
theorem Cg.gp {n : Int} {a b : G} (h : Cg n a b) (k : Nat) : Cg n (gp a k) (gp b k) := by
  induction k with
  | zero => exact Cg.refl _ _
  | succ k ih => exact ih.gm h
theorem Cg.red (n : Int) (a : G) : Cg n (red n a) a := by
  constructor
  · exact ⟨-(a.1 / n), by have := Int.emod_add_mul_ediv a.1 n; simp only [Mine.red]; grind⟩
  · exact ⟨-(a.2 / n), by have := Int.emod_add_mul_ediv a.2 n; simp only [Mine.red]; grind⟩
theorem Cg.to_red {n : Int} {a b : G} (h : Cg n a b) : Mine.red n a = Mine.red n b := by
  simp only [Mine.red, Prod.mk.injEq]
  exact ⟨Int.emod_eq_emod_iff_emod_sub_eq_zero.mpr (Int.emod_eq_zero_of_dvd h.1), Int.emod_eq_emod_iff_emod_sub_eq_zero.mpr (Int.emod_eq_zero_of_dvd h.2)⟩
theorem Cg.of_red {n : Int} {a b : G} (h : Mine.red n a = Mine.red n b) : Cg n a b := (Cg.red n a).symm.trans (h ▸ Cg.red n b)
/-- in range -/
def Rg (n : Int) (a : G) : Prop := (0 ≤ a.1 ∧ a.1 < n) ∧ 0 ≤ a.2 ∧ a.2 < n
theorem Rg.red_eq {n : Int} {a : G} (h : Rg n a) : red n a = a := by
  obtain ⟨a1, a2⟩ := a
  simp only [Mine.red, Prod.mk.injEq]
  exact ⟨Int.emod_eq_of_lt h.1.1 h.1.2, Int.emod_eq_of_lt h.2.1 h.2.2⟩
theorem Cg.eq {n : Int} {a b : G} (ha : Rg n a) (hb : Rg n b) (h : Cg n a b) : a = b := by
  rw [← ha.red_eq, ← hb.red_eq]; exact h.to_red
theorem red_rg {n : Int} (h : 0 < n) (a : G) : Rg n (red n a) := ⟨⟨Int.emod_nonneg _ (Int.ne_of_gt h), Int.emod_lt_of_pos _ h⟩, ⟨Int.emod_nonneg _ (Int.ne_of_gt h), Int.emod_lt_of_pos _ h⟩⟩
/-- the loop of the power -/
def pw (n : Int) : Nat → Nat → G → G → G
  | 0, _, o, _ => o
  | f + 1, e, o, t => if e = 0 then o else pw n f (e / 2) (if e % 2 = 1 then red n (gm o t) else o) (red n (gm t t))
theorem pw_cg (n : Int) : ∀ (f e : Nat) (o t : G), e < 2 ^ f → Cg n (pw n f e o t) (gm o (gp t e)) := by
  intro f
  induction f with
  | zero =>
    intro e o t h
    have : e = 0 := by simpa using h
    subst this
    exact .of_eq (gm_one o).symm
  | succ f ih =>
    intro e o t h
    by_cases he : e = 0
    · subst he; simp only [pw, if_true]; exact .of_eq (gm_one o).symm
    · simp only [pw, if_neg he]
      refine (ih (e / 2) _ _ (by rw [Nat.pow_succ] at h; omega)).trans ?_
      have hh : gp t e = gm (gp t (e % 2)) (gp (gm t t) (e / 2)) := by
        have : gm t t = gp t 2 := by show _ = gm (gm (1, 0) t) t; rw [one_gm]
        rw [this, ← gp_mul, ← gp_add]
        congr 1; omega
      rw [hh, ← gm_assoc]
      refine Cg.gm ?_ ((Cg.red _ _).gp _)
      rcases Nat.mod_two_eq_zero_or_one e with r | r
      · rw [r, if_neg (by decide)]; exact .of_eq (gm_one o).symm
      · rw [r, if_pos rfl, gp_one]; exact Cg.red _ _
theorem nm_gm (a b : G) : nm (gm a b) = nm a * nm b := by simp only [nm, gm]; grind
end Mine
end Z1_part
/-! Z2 -/
section Z2_part
namespace Mine
def primes : List Nat := [11, 19, 43, 59, 67, 83, 107, 131, 139, 163, 179, 211, 227]
structure Pk (p : Nat) : Prop where
  lo : 11 ≤ p
  hi : p < 228
  h8 : p % 8 = 3
  inv : ∀ a < p, a ≠ 0 → Nat.gcd a p = 1
  flt : ∀ a < p, a ≠ 0 → a * a ^ (p - 2) % p = 1
  fer : ∀ a < p, a ^ (p + 1) % p = a * a % p
  eul : ∀ a < p, a ≠ 0 → a ^ ((p - 1) / 2) % p = 1 ∨ a ^ ((p - 1) / 2) % p = p - 1
  nsq : ∀ a < p, (a * a + 1) % p ≠ 0
  fro : ∀ a < p, pw (p : Int) 8 (p + 1) (1, 0) ((a : Int), 1) = ((((a * a + 1) % p : Nat) : Int), 0)
theorem pk_lo : ∀ p ∈ primes, 11 ≤ p ∧ p < 228 ∧ p % 8 = 3 := by decide +kernel
theorem pk_inv : ∀ p ∈ primes, ∀ a < p, a ≠ 0 → Nat.gcd a p = 1 := by decide +kernel
theorem pk_flt : ∀ p ∈ primes, ∀ a < p, a ≠ 0 → a * a ^ (p - 2) % p = 1 := by decide +kernel
theorem pk_fer : ∀ p ∈ primes, ∀ a < p, a ^ (p + 1) % p = a * a % p := by decide +kernel
theorem pk_eul : ∀ p ∈ primes, ∀ a < p, a ≠ 0 → a ^ ((p - 1) / 2) % p = 1 ∨ a ^ ((p - 1) / 2) % p = p - 1 := by decide +kernel
theorem pk_nsq : ∀ p ∈ primes, ∀ a < p, (a * a + 1) % p ≠ 0 := by decide +kernel
theorem pk_fro : ∀ p ∈ primes, ∀ a < p, pw (p : Int) 8 (p + 1) (1, 0) ((a : Int), 1) = ((((a * a + 1) % p : Nat) : Int), 0) := by decide +kernel
theorem pk {p : Nat} (h : p ∈ primes) : Pk p := ⟨(pk_lo p h).1, (pk_lo p h).2.1, (pk_lo p h).2.2, pk_inv p h, pk_flt p h, pk_fer p h, pk_eul p h, pk_nsq p h, pk_fro p h⟩
end Mine
end Z2_part
/-! Z3 -/
section Z3_part
namespace Mine
theorem nat_of {p : Nat} {a : Int} (h : 0 ≤ a) (k : a < (p : Int)) : ∃ m : Nat, a = (m : Int) ∧ m < p := ⟨a.toNat, by omega, by omega⟩
theorem cg_int {n a b : Int} (h : a % n = b % n) : Cg n (a, 0) (b, 0) := Cg.of_red (by simp only [red, h])
theorem gp_real (a : Int) (k : Nat) : gp (a, 0) k = (a ^ k, 0) := by
  induction k with
  | zero => simp [gp]
  | succ k ih => simp only [gp, ih, gm, Int.pow_succ]; simp
section
variable {p : Nat} (P : Pk p)
include P
theorem Pk.pos : (0 : Int) < (p : Int) := by have := P.lo; omega
theorem Pk.invI {a : Int} (h : 0 < a) (k : a < (p : Int)) : ∃ b : Int, a * b % (p : Int) = 1 := by
  obtain ⟨m, rfl, hm⟩ := nat_of (Int.le_of_lt h) k
  exact ⟨((m ^ (p - 2) : Nat) : Int), by have := P.flt m hm (by omega); exact_mod_cast this⟩
theorem Pk.ferI {a : Int} (h : 0 ≤ a) (k : a < (p : Int)) : a ^ (p + 1) % (p : Int) = a * a % (p : Int) := by
  obtain ⟨m, rfl, hm⟩ := nat_of h k
  have := P.fer m hm
  exact_mod_cast this
theorem Pk.eulI {a : Int} (h : 0 < a) (k : a < (p : Int)) : a ^ ((p - 1) / 2) % (p : Int) = 1 ∨ a ^ ((p - 1) / 2) % (p : Int) = p - 1 := by
  obtain ⟨m, rfl, hm⟩ := nat_of (Int.le_of_lt h) k
  have h1 := P.eul m hm (by omega)
  have h2 := P.lo
  rcases h1 with h1 | h1
  · exact .inl (by exact_mod_cast h1)
  · refine .inr ?_
    have : ((m ^ ((p - 1) / 2) % p : Nat) : Int) = ((p - 1 : Nat) : Int) := congrArg _ h1
    rw [Int.natCast_sub (by omega)] at this
    exact_mod_cast this
theorem Pk.frob1 {a : Int} (h : 0 ≤ a) (k : a < (p : Int)) : Cg p (gp (a, 1) (p + 1)) (a * a + 1, 0) := by
  obtain ⟨m, rfl, hm⟩ := nat_of h k
  have h1 := pw_cg p 8 (p + 1) (1, 0) ((m : Int), 1) (by have := P.hi; omega)
  rw [P.fro m hm, one_gm] at h1
  exact h1.symm.trans (cg_int (by rw [← Int.natCast_emod] <;> simp))
theorem Pk.frob {v : G} (h : Rg p v) : Cg p (gp v (p + 1)) (nm v, 0) := by
  obtain ⟨a, b⟩ := v
  obtain ⟨⟨h1, h2⟩, h3, h4⟩ := h
  dsimp only at h1 h2 h3 h4
  by_cases hb : b = 0
  · subst hb
    rw [gp_real]
    exact cg_int (by rw [P.ferI h1 h2]; simp [nm])
  · obtain ⟨b', hb'⟩ := P.invI (a := b) (by omega) h4
    have hc := red_rg P.pos (a * b', 0)
    have e1 : Cg p (a, b) (gm (b, 0) (a * b' % p, 1)) := by
      have x1 : Cg p (gm (b, 0) (a * b' % p, 1)) (gm (b, 0) (a * b', 1)) := by
        refine (Cg.refl _ _).gm ⟨?_, by simp⟩
        exact ⟨-(a * b' / p), by have := Int.emod_add_mul_ediv (a * b') p; dsimp only; grind⟩
      refine Cg.symm (x1.trans ⟨⟨a * (b * b' / p), ?_⟩, by simp [gm]⟩)
      have := Int.emod_add_mul_ediv (b * b') p
      simp only [gm]
      grind
    refine (e1.gp _).trans ?_
    rw [gp_gm, gp_real]
    have e2 : Cg p (b ^ (p + 1), 0) (b * b, 0) := cg_int (P.ferI h3 h4)
    refine (e2.gm (P.frob1 (a := a * b' % p) hc.1.1 hc.1.2)).trans ?_
    refine Cg.trans (b := (nm (gm (b, 0) (a * b' % p, 1)), 0)) (.of_eq (by simp [gm, nm]; grind)) ?_
    obtain ⟨⟨x, x1⟩, ⟨y, y1⟩⟩ := e1
    generalize gm (b, 0) (a * b' % p, 1) = u at x1 y1 ⊢
    dsimp only at x1 y1
    refine ⟨⟨-(x * (a + u.1) + y * (b + u.2)), ?_⟩, by simp⟩
    simp only [nm]
    grind
theorem Pk.euclid {a b : Int} (h : (p : Int) ∣ a * b) : (p : Int) ∣ a ∨ (p : Int) ∣ b := by
  by_cases ha : a % p = 0
  · exact .inl (Int.dvd_of_emod_eq_zero ha)
  · right
    have hp := P.pos
    have h0 := Int.emod_nonneg a (Int.ne_of_gt hp)
    obtain ⟨a', ha'⟩ := P.invI (a := a % p) (by omega) (Int.emod_lt_of_pos a hp)
    obtain ⟨q, hq⟩ := h
    have h1 := Int.emod_add_mul_ediv a p
    have h2 := Int.emod_add_mul_ediv (a % p * a') p
    generalize a % (p : Int) * a' / p = z at h2
    generalize a / (p : Int) = y at h1
    generalize a % (p : Int) = r at *
    rw [ha'] at h2
    refine ⟨a' * q - y * a' * b - z * b, ?_⟩
    have : b = (r * a' - p * z) * b := by rw [← h2]; grind
    grind
theorem Pk.nsqI (c : Int) : ¬ (p : Int) ∣ c * c + 1 := by
  intro h
  obtain ⟨m, hm, hm2⟩ := nat_of (Int.emod_nonneg c (Int.ne_of_gt P.pos)) (Int.emod_lt_of_pos c P.pos)
  apply P.nsq m hm2
  have : ((m * m + 1 : Nat) : Int) % (p : Int) = 0 := by
    refine Int.emod_eq_zero_of_dvd ?_
    obtain ⟨q, hq⟩ := h
    have h1 := Int.emod_add_mul_ediv c p
    rw [hm] at h1
    refine ⟨q - 2 * (c / p) * m - p * (c / p) * (c / p), ?_⟩
    generalize c / (p : Int) = z at *
    push_cast
    grind
  exact_mod_cast this
theorem Pk.nm_ne {v : G} (h : (p : Int) ∣ nm v) : (p : Int) ∣ v.1 ∧ (p : Int) ∣ v.2 := by
  have hp := P.pos
  by_cases hb : v.2 % p = 0
  · have hb := Int.dvd_of_emod_eq_zero hb
    refine ⟨?_, hb⟩
    have : (p : Int) ∣ v.1 * v.1 := by
      have h2 : v.1 * v.1 = nm v - v.2 * v.2 := by simp only [nm]; grind
      rw [h2]
      exact Int.dvd_sub h (Int.dvd_mul_of_dvd_left hb)
    rcases P.euclid this with h | h <;> exact h
  · exfalso
    have h0 := Int.emod_nonneg v.2 (Int.ne_of_gt hp)
    obtain ⟨b', hb'⟩ := P.invI (a := v.2 % p) (by omega) (Int.emod_lt_of_pos v.2 hp)
    refine P.nsqI (v.1 * b') ?_
    obtain ⟨q, hq⟩ := h
    have h1 := Int.emod_add_mul_ediv v.2 p
    have h2 := Int.emod_add_mul_ediv (v.2 % p * b') p
    rw [hb'] at h2
    simp only [nm] at hq
    generalize v.2 % (p : Int) * b' / p = z at h2
    generalize v.2 / (p : Int) = y at h1
    generalize v.2 % (p : Int) = r at *
    have e : v.2 * b' = 1 + p * (z + y * b') := by grind
    generalize z + y * b' = t at e
    refine ⟨b' * b' * q - 2 * t - p * t * t, ?_⟩
    have : v.1 * b' * (v.1 * b') = b' * b' * (v.1 * v.1 + v.2 * v.2) - (v.2 * b') * (v.2 * b') := by grind
    rw [this, hq, e]
    grind
theorem Pk.nozero {a b : G} (h : Cg p (gm a b) (0, 0)) : Cg p a (0, 0) ∨ Cg p b (0, 0) := by
  have h1 : (p : Int) ∣ nm (gm a b) := by
    have e1 := h.1
    have e2 := h.2
    simp only [Int.sub_zero] at e1 e2
    exact Int.dvd_add (Int.dvd_mul_of_dvd_left e1) (Int.dvd_mul_of_dvd_left e2)
  rw [nm_gm] at h1
  rcases P.euclid h1 with h | h
  · left; have := P.nm_ne h; exact ⟨by simpa using this.1, by simpa using this.2⟩
  · right; have := P.nm_ne h; exact ⟨by simpa using this.1, by simpa using this.2⟩
end
end Mine
end Z3_part
/-! Z4 -/
section Z4_part
namespace Mine
theorem pow_emod (a n : Int) (k : Nat) : (a % n) ^ k % n = a ^ k % n := by
  induction k with
  | zero => simp
  | succ k ih => rw [Int.pow_succ, Int.pow_succ, Int.mul_emod, ih, Int.mul_emod (a ^ k), Int.emod_emod]
theorem zero_of_dvd {a n : Int} (h : 0 ≤ a) (k : a < n) (d : n ∣ a) : a = 0 := by
  rw [← Int.emod_eq_of_lt h k]; exact Int.emod_eq_zero_of_dvd d
section
variable {p : Nat} (P : Pk p)
include P
theorem Pk.exps : ∃ m, (p * p + 7) / 16 + (p * p + 7) / 16 = m + 1 ∧ m * 4 = (p + 1) * ((p - 1) / 2) := by
  obtain ⟨k, hk⟩ : ∃ k, p = 8 * k + 3 := ⟨p / 8, by have := P.h8; omega⟩
  subst hk
  have e1 : (8 * k + 3) * (8 * k + 3) + 7 = 16 * (4 * (k * k) + 3 * k + 1) := by grind
  have e2 : (8 * k + 3 - 1) / 2 = 4 * k + 1 := by omega
  refine ⟨8 * (k * k) + 6 * k + 1, ?_, ?_⟩
  · rw [e1, Nat.mul_div_cancel_left _ (by decide)]; omega
  · rw [e2]; grind
/-- Euler's power of the norm is the fourth power of `check` -/
theorem Pk.check4 {v w c ck : G} (hv : Rg p v) (hc : Cg p c (gp v ((p * p + 7) / 16))) (hw : Cg p (gm w v) (1, 0)) (hck : Cg p ck (gm (gm c c) w)) :
    Cg p (gp ck 4) (nm v ^ ((p - 1) / 2), 0) := by
  obtain ⟨m, h1, h2⟩ := P.exps
  have e1 : Cg p (gm c c) (gp v (m + 1)) := by rw [← h1, gp_add]; exact hc.gm hc
  have e2 : Cg p ck (gp v m) := by
    refine hck.trans ((e1.gm (Cg.refl _ w)).trans ?_)
    show Cg p (gm (gm (gp v m) v) w) _
    rw [gm_assoc]
    refine ((Cg.refl _ (gp v m)).gm ((Cg.of_eq (gm_comm v w)).trans hw)).trans (.of_eq (gm_one _))
  refine (e2.gp 4).trans ?_
  rw [← gp_mul, h2, gp_mul]
  refine ((P.frob hv).gp _).trans ?_
  rw [gp_real]
  exact Cg.refl _ _
theorem Pk.nm_pos {v : G} (hv : Rg p v) (h0 : v ≠ (0, 0)) : 0 < nm v % p := by
  have hp := P.pos
  have h1 := Int.emod_nonneg (nm v) (Int.ne_of_gt hp)
  have : nm v % p ≠ 0 := by
    intro h
    obtain ⟨a, b⟩ := P.nm_ne (Int.dvd_of_emod_eq_zero h)
    apply h0
    obtain ⟨x, y⟩ := v
    obtain ⟨⟨r1, r2⟩, r3, r4⟩ := hv
    dsimp only at *
    have ha := zero_of_dvd r1 r2 a
    have hb := zero_of_dvd r3 r4 b
    rw [ha, hb]
  omega
/-- Euler's power is 1 or -1 -/
theorem Pk.euler {v : G} (hv : Rg p v) (h0 : v ≠ (0, 0)) : (nm v % p) ^ ((p - 1) / 2) % p = 1 ∨ (nm v % p) ^ ((p - 1) / 2) % p = p - 1 := P.eulI (P.nm_pos hv h0) (Int.emod_lt_of_pos _ P.pos)
/-- the fourth roots of one -/
theorem Pk.four {a : G} (ha : Rg p a) : Cg p (gp a 4) (1, 0) ↔ a = (1, 0) ∨ a = (0, 1) ∨ a = ((p : Int) - 1, 0) ∨ a = (0, (p : Int) - 1) := by
  have hlo := P.lo
  have r1 : Rg p (1, 0) := by constructor <;> constructor <;> dsimp only <;> omega
  have r2 : Rg p (0, 1) := by constructor <;> constructor <;> dsimp only <;> omega
  have r3 : Rg p ((p : Int) - 1, 0) := by constructor <;> constructor <;> dsimp only <;> omega
  have r4 : Rg p (0, (p : Int) - 1) := by constructor <;> constructor <;> dsimp only <;> omega
  constructor
  · intro h
    obtain ⟨x, y⟩ := a
    have h4 : Cg p (gm (gm (x - 1, y) (x + 1, y)) (gm (x, y - 1) (x, y + 1))) (0, 0) := by
      have e : gm (gm (x - 1, y) (x + 1, y)) (gm (x, y - 1) (x, y + 1)) = ((gp (x, y) 4).1 - 1, (gp (x, y) 4).2) := by
        simp only [gm, gp, Prod.mk.injEq]
        constructor <;> grind
      rw [e]
      exact ⟨by simpa using h.1, by simpa using h.2⟩
    rcases P.nozero h4 with h4 | h4
    · rcases P.nozero h4 with h4 | h4
      · exact .inl (Cg.eq ha r1 ⟨by simpa using h4.1, by simpa using h4.2⟩)
      · exact .inr (.inr (.inl (Cg.eq ha r3 ⟨by
          have := h4.1
          simp only [Int.sub_zero] at this
          dsimp only
          have e : x - ((p : Int) - 1) = (x + 1) - p := by omega
          rw [e]; exact Int.dvd_sub this (Int.dvd_refl _), by simpa using h4.2⟩)))
    · rcases P.nozero h4 with h4 | h4
      · exact .inr (.inl (Cg.eq ha r2 ⟨by simpa using h4.1, by simpa using h4.2⟩))
      · exact .inr (.inr (.inr (Cg.eq ha r4 ⟨by simpa using h4.1, by
          have := h4.2
          simp only [Int.sub_zero] at this
          dsimp only
          have e : y - ((p : Int) - 1) = (y + 1) - p := by omega
          rw [e]; exact Int.dvd_sub this (Int.dvd_refl _)⟩)))
  · intro h
    have k3 : Cg p ((p : Int) - 1, 0) (-1, 0) := ⟨⟨1, by dsimp only; omega⟩, by simp⟩
    have k4 : Cg p (0, (p : Int) - 1) (0, -1) := ⟨by simp, ⟨1, by dsimp only; omega⟩⟩
    rcases h with rfl | rfl | rfl | rfl
    · exact .of_eq (by decide)
    · exact .of_eq (by decide)
    · exact (k3.gp 4).trans (.of_eq (by decide))
    · exact (k4.gp 4).trans (.of_eq (by decide))
/-- is a square, or no fourth root -/
theorem Pk.side {v w c ck : G} (hv : Rg p v) (hc : Cg p c (gp v ((p * p + 7) / 16))) (hw : Cg p (gm w v) (1, 0)) (hr : Rg p ck) (hck : Cg p ck (gm (gm c c) w)) :
    (nm v % p) ^ ((p - 1) / 2) % p = 1 ↔ ck = (1, 0) ∨ ck = (0, 1) ∨ ck = ((p : Int) - 1, 0) ∨ ck = (0, (p : Int) - 1) := by
  rw [← P.four hr]
  have h4 := P.check4 hv hc hw hck
  have hlo := P.lo
  constructor
  · intro h
    refine h4.trans (cg_int ?_)
    rw [← pow_emod, h]
    exact (Int.emod_eq_of_lt (by decide) (by omega)).symm
  · intro h
    have h5 := (h.symm.trans h4).to_red
    simp only [red, Prod.mk.injEq] at h5
    have h6 := h5.1
    rw [pow_emod, ← h6]
    exact Int.emod_eq_of_lt (by decide) (by omega)
/-- the root's square -/
theorem Pk.root {v w c ck r wr : G} (hv : Rg p v) (hw : Cg p (gm w v) (1, 0)) (hck : Cg p ck (gm (gm c c) w)) (hr : Cg p (gm r r) ck) (hwr : Cg p (gm wr r) (1, 0)) :
    red p (gm (red p (gm c wr)) (red p (gm c wr))) = v := by
  have e0 : Cg p (gm (red p (gm c wr)) (red p (gm c wr))) (gm (gm c wr) (gm c wr)) := (Cg.red _ _).gm (Cg.red _ _)
  have e1 : gm (gm c wr) (gm c wr) = gm (gm c c) (gm wr wr) := by
    rw [gm_assoc, ← gm_assoc wr c wr, gm_comm wr c, gm_assoc c wr wr, ← gm_assoc c c]
  have e2 : Cg p (gm c c) (gm ck v) := by
    refine Cg.symm ((hck.gm (Cg.refl _ v)).trans ?_)
    rw [gm_assoc]
    exact ((Cg.refl _ (gm c c)).gm hw).trans (.of_eq (gm_one _))
  have e3 : Cg p (gm (gm ck v) (gm wr wr)) v := by
    have : gm (gm ck v) (gm wr wr) = gm v (gm ck (gm wr wr)) := by rw [gm_comm ck v, gm_assoc]
    rw [this]
    have h1 : Cg p (gm ck (gm wr wr)) (1, 0) := by
      refine (hr.symm.gm (Cg.refl _ (gm wr wr))).trans ?_
      have e : gm (gm r r) (gm wr wr) = gm (gm wr r) (gm wr r) := by
        rw [gm_comm wr r, gm_assoc, gm_assoc, ← gm_assoc r wr wr, ← gm_assoc wr r wr, gm_comm wr r]
      rw [e]
      exact (hwr.gm hwr).trans (.of_eq (by decide))
    exact ((Cg.refl _ v).gm h1).trans (.of_eq (gm_one _))
  rw [← hv.red_eq]
  refine Cg.to_red ?_
  exact e0.trans ((Cg.of_eq e1).trans ((e2.gm (Cg.refl _ _)).trans e3))
end
end Mine
end Z4_part
/-! L0 -/
section L0_part
open PySem PySem.W PyProof.Rows PySem.Calls
namespace Mine
/-- the addresses of a ledger -/
def adr : List (Addr × Obj) → List Addr
  | [] => []
  | p :: r => p.1 :: adr r
theorem adr_nil : adr [] = [] := rfl
theorem adr_cons {a : Addr} {o : Obj} {r : List (Addr × Obj)} : adr ((a, o) :: r) = a :: adr r := rfl
theorem adr_nilA {r : List (Addr × Obj)} : adr ([] ++ r) = adr r := rfl
theorem adr_consA {a : Addr} {o : Obj} {l r : List (Addr × Obj)} : adr (((a, o) :: l) ++ r) = a :: adr (l ++ r) := rfl
theorem mem_adr {a : Addr} {o : Obj} {l : List (Addr × Obj)} (m : (a, o) ∈ l) : a ∈ adr l := by
  induction l with
  | nil => cases m
  | cons p r ih =>
    show a ∈ p.1 :: adr r
    rcases List.mem_cons.mp m with e | m
    · subst e; exact .head _
    · exact .tail _ (ih m)
theorem adr_of {a : Addr} {l : List (Addr × Obj)} (m : a ∈ adr l) : ∃ o, (a, o) ∈ l := by
  induction l with
  | nil => cases m
  | cons p r ih =>
    rcases List.mem_cons.mp (show a ∈ p.1 :: adr r from m) with e | m
    · subst e; exact ⟨p.2, .head _⟩
    · obtain ⟨o, h⟩ := ih m
      exact ⟨o, .tail _ h⟩
/-- an address above all of these -/
def LoA (i : Addr) (l : List Addr) : Prop := ∀ a ∈ l, @LT.lt Nat _ a i
theorem LoA.of {i : Addr} {l : List (Addr × Obj)} (h : ∀ p ∈ l, p.1 < i) : LoA i (adr l) := fun _ m => let ⟨_, k⟩ := adr_of m; h _ k
theorem LoA.all {i : Addr} {l : List (Addr × Obj)} (h : LoA i (adr l)) : ∀ p ∈ l, p.1 < i := fun _ hp => h _ (mem_adr hp)
theorem LoA.allLt {i : Addr} {l : List (Addr × Obj)} (h : LoA i (adr l)) : AllLt i l := allLt_of h.all
theorem LoA.allNe {i : Addr} {l : List (Addr × Obj)} (h : LoA i (adr l)) : ∀ p ∈ l, p.1 ≠ i := fun p hp => Nat.ne_of_lt (h.all p hp)
theorem LoA.lt {i a : Addr} {l : List Addr} (h : LoA i l) (m : a ∈ l) : @LT.lt Nat _ a i := h a m
theorem LoA.ltS {i a : Addr} {l : List Addr} (h : LoA i l) (m : a ∈ l) : @LT.lt Nat _ a (i + 1 : Nat) := Nat.lt_succ_of_lt (h a m)
theorem LoA.ne {i a : Addr} {l : List Addr} (h : LoA i l) (m : a ∈ l) : @Ne Nat a i := Nat.ne_of_lt (h a m)
theorem LoA.ne' {i a : Addr} {l : List Addr} (h : LoA i l) (m : a ∈ l) : @Ne Nat i a := (Nat.ne_of_lt (h a m)).symm
theorem LoA.neS {i a : Addr} {l : List Addr} (h : LoA i l) (m : a ∈ l) : @Ne Nat a (i + 1 : Nat) := Nat.ne_of_lt (Nat.lt_succ_of_lt (h a m))
theorem LoA.neS' {i a : Addr} {l : List Addr} (h : LoA i l) (m : a ∈ l) : @Ne Nat (i + 1 : Nat) a := (LoA.neS h m).symm
theorem LoA.tr {i j : Addr} {l : List Addr} (h : LoA i l) (k : @LT.lt Nat _ i j) : LoA j (i :: l) := fun a m => by
  rcases List.mem_cons.mp m with rfl | m
  · exact k
  · exact Nat.lt_trans (h a m) k
theorem LoA.tail {i a : Addr} {l : List Addr} (h : LoA i (a :: l)) : LoA i l := fun b m => h b (.tail _ m)
theorem LoA.cons_iff {i a : Addr} {l : List Addr} : LoA i (a :: l) ↔ @LT.lt Nat _ a i ∧ LoA i l := ⟨fun h => ⟨h a (.head _), h.tail⟩, fun h b m => by
  rcases List.mem_cons.mp m with rfl | m
  · exact h.1
  · exact h.2 b m⟩
theorem LoA.nil_iff {i : Addr} : LoA i [] ↔ True := ⟨fun _ => trivial, fun _ _ m => nomatch m⟩
theorem LoA.neT {i a : Addr} {l : List Addr} (h : LoA i l) (m : a ∈ l) : @Ne Nat a (i + 1 + 1 : Nat) := Nat.ne_of_lt (Nat.lt_succ_of_lt (Nat.lt_succ_of_lt (h a m)))
theorem LoA.neT' {i a : Addr} {l : List Addr} (h : LoA i l) (m : a ∈ l) : @Ne Nat (i + 1 + 1 : Nat) a := (LoA.neT h m).symm
theorem LoA.ltT {i a : Addr} {l : List Addr} (h : LoA i l) (m : a ∈ l) : @LT.lt Nat _ a (i + 1 + 1 : Nat) := Nat.lt_succ_of_lt (Nat.lt_succ_of_lt (h a m))
theorem neS_self {i : Nat} : (i + 1 : Nat) ≠ i := Nat.succ_ne_self i
theorem neS_self' {i : Nat} : i ≠ (i + 1 : Nat) := (Nat.succ_ne_self i).symm
/-- an address unlike all of these -/
def OffA (D : Addr) (l : List Addr) : Prop := ∀ a ∈ l, @Ne Nat a D
theorem OffA.of {D : Addr} : ∀ {l : List (Addr × Obj)}, LCg.Off1 D l → OffA D (adr l)
  | [], _ => fun _ m => nomatch m
  | p :: l, h => fun a m => by
    rcases List.mem_cons.mp m with rfl | m
    · exact h.1
    · exact OffA.of h.2 a m
theorem OffA.ne {D a : Addr} {l : List Addr} (h : OffA D l) (m : a ∈ l) : @Ne Nat a D := h a m
theorem OffA.ne' {D a : Addr} {l : List Addr} (h : OffA D l) (m : a ∈ l) : @Ne Nat D a := (h a m).symm
theorem OffA.allNe {D : Addr} {l : List (Addr × Obj)} (h : OffA D (adr l)) : ∀ p ∈ l, p.1 ≠ D := fun _ hp => h _ (mem_adr hp)
theorem OffA.cons_iff {i a : Addr} {l : List Addr} : OffA i (a :: l) ↔ @Ne Nat a i ∧ OffA i l := ⟨fun h => ⟨h a (.head _), fun b m => h b (.tail _ m)⟩, fun h b m => by
  rcases List.mem_cons.mp m with rfl | m
  · exact h.1
  · exact h.2 b m⟩
theorem OffA.cons {i a : Addr} {l : List Addr} (h : @Ne Nat a i) (k : OffA i l) : OffA i (a :: l) := OffA.cons_iff.mpr ⟨h, k⟩
theorem OffA.nil {i : Addr} : OffA i [] := fun _ m => nomatch m
theorem OffA.nil_iff {i : Addr} : OffA i [] ↔ True := ⟨fun _ => trivial, fun _ _ m => nomatch m⟩
end Mine
end L0_part
/-! LT -/
section LT_part
open PySem PySem.W PyProof.Rows
namespace Mine
theorem let_FN {h₀ : Heap} {L : Addr} {h : Heap} {m : Str → Option Value} {n : List (Addr × Obj)} {P : Prop} (k : let m' := m; let n' := n; Fr h₀ L h m' → News h₀ L h n' → P) : Fr h₀ L h m → News h₀ L h n → P := k
theorem adr_hd {a : Addr} {o : Obj} {r : List (Addr × Obj)} : a ∈ adr ((a, o) :: r) := List.Mem.head _
theorem adr_tl {a : Addr} {p : Addr × Obj} {r : List (Addr × Obj)} (h : a ∈ adr r) : a ∈ adr (p :: r) := List.Mem.tail _ h
theorem LoA.allSuf {i : Addr} {l : List Addr} {n : List (Addr × Obj)} (h : LoA i l) (m : ∀ a ∈ adr n, a ∈ l) : ∀ p ∈ n, p.1 ≠ i := fun p hp => Nat.ne_of_lt (h _ (m _ (mem_adr (a := p.1) (o := p.2) hp)))
theorem OffA.allSuf {D : Addr} {l : List Addr} {n : List (Addr × Obj)} (h : OffA D l) (m : ∀ a ∈ adr n, a ∈ l) : ∀ p ∈ n, p.1 ≠ D := fun p hp => h _ (m _ (mem_adr (a := p.1) (o := p.2) hp))
theorem LoA.ltSuf {i : Addr} {l : List Addr} {n : List (Addr × Obj)} (h : LoA i l) (m : ∀ a ∈ adr n, a ∈ l) : AllLt i n := allLt_of fun p hp => h _ (m _ (mem_adr (a := p.1) (o := p.2) hp))
theorem OffA.sub {D : Addr} {l k : List Addr} (h : OffA D l) (m : ∀ a ∈ k, a ∈ l) : OffA D k := fun a ha => h a (m a ha)
theorem LoA.offSub {D : Addr} {l k : List Addr} (h : LoA D l) (m : ∀ a ∈ k, a ∈ l) : OffA D k := fun a ha => Nat.ne_of_lt (h a (m a ha))
theorem mem0 {α : Type} {a : α} {l : List α} : a ∈ a :: l := List.Mem.head _
theorem mem1 {α : Type} {b0 a : α} {l : List α} : a ∈ b0 :: a :: l := .tail _ (.head _)
theorem mem2 {α : Type} {b0 b1 a : α} {l : List α} : a ∈ b0 :: b1 :: a :: l := .tail _ (.tail _ (.head _))
theorem mem3 {α : Type} {b0 b1 b2 a : α} {l : List α} : a ∈ b0 :: b1 :: b2 :: a :: l := .tail _ (.tail _ (.tail _ (.head _)))
theorem mem4 {α : Type} {b0 b1 b2 b3 a : α} {l : List α} : a ∈ b0 :: b1 :: b2 :: b3 :: a :: l := .tail _ (.tail _ (.tail _ (.tail _ (.head _))))
theorem mem5 {α : Type} {b0 b1 b2 b3 b4 a : α} {l : List α} : a ∈ b0 :: b1 :: b2 :: b3 :: b4 :: a :: l := .tail _ (.tail _ (.tail _ (.tail _ (.tail _ (.head _)))))
theorem mem6 {α : Type} {b0 b1 b2 b3 b4 b5 a : α} {l : List α} : a ∈ b0 :: b1 :: b2 :: b3 :: b4 :: b5 :: a :: l := .tail _ (.tail _ (.tail _ (.tail _ (.tail _ (.tail _ (.head _))))))
theorem mem7 {α : Type} {b0 b1 b2 b3 b4 b5 b6 a : α} {l : List α} : a ∈ b0 :: b1 :: b2 :: b3 :: b4 :: b5 :: b6 :: a :: l := .tail _ (.tail _ (.tail _ (.tail _ (.tail _ (.tail _ (.tail _ (.head _)))))))
theorem mem8 {α : Type} {b0 b1 b2 b3 b4 b5 b6 b7 a : α} {l : List α} : a ∈ b0 :: b1 :: b2 :: b3 :: b4 :: b5 :: b6 :: b7 :: a :: l := .tail _ (.tail _ (.tail _ (.tail _ (.tail _ (.tail _ (.tail _ (.tail _ (.head _))))))))
theorem mem9 {α : Type} {b0 b1 b2 b3 b4 b5 b6 b7 b8 a : α} {l : List α} : a ∈ b0 :: b1 :: b2 :: b3 :: b4 :: b5 :: b6 :: b7 :: b8 :: a :: l := .tail _ (.tail _ (.tail _ (.tail _ (.tail _ (.tail _ (.tail _ (.tail _ (.tail _ (.head _)))))))))
theorem mem10 {α : Type} {b0 b1 b2 b3 b4 b5 b6 b7 b8 b9 a : α} {l : List α} : a ∈ b0 :: b1 :: b2 :: b3 :: b4 :: b5 :: b6 :: b7 :: b8 :: b9 :: a :: l := .tail _ (.tail _ (.tail _ (.tail _ (.tail _ (.tail _ (.tail _ (.tail _ (.tail _ (.tail _ (.head _))))))))))
theorem mem11 {α : Type} {b0 b1 b2 b3 b4 b5 b6 b7 b8 b9 b10 a : α} {l : List α} : a ∈ b0 :: b1 :: b2 :: b3 :: b4 :: b5 :: b6 :: b7 :: b8 :: b9 :: b10 :: a :: l := .tail _ (.tail _ (.tail _ (.tail _ (.tail _ (.tail _ (.tail _ (.tail _ (.tail _ (.tail _ (.tail _ (.head _)))))))))))
theorem mem12 {α : Type} {b0 b1 b2 b3 b4 b5 b6 b7 b8 b9 b10 b11 a : α} {l : List α} : a ∈ b0 :: b1 :: b2 :: b3 :: b4 :: b5 :: b6 :: b7 :: b8 :: b9 :: b10 :: b11 :: a :: l := .tail _ (.tail _ (.tail _ (.tail _ (.tail _ (.tail _ (.tail _ (.tail _ (.tail _ (.tail _ (.tail _ (.tail _ (.head _))))))))))))
theorem mem13 {α : Type} {b0 b1 b2 b3 b4 b5 b6 b7 b8 b9 b10 b11 b12 a : α} {l : List α} : a ∈ b0 :: b1 :: b2 :: b3 :: b4 :: b5 :: b6 :: b7 :: b8 :: b9 :: b10 :: b11 :: b12 :: a :: l := .tail _ (.tail _ (.tail _ (.tail _ (.tail _ (.tail _ (.tail _ (.tail _ (.tail _ (.tail _ (.tail _ (.tail _ (.tail _ (.head _)))))))))))))
theorem mem14 {α : Type} {b0 b1 b2 b3 b4 b5 b6 b7 b8 b9 b10 b11 b12 b13 a : α} {l : List α} : a ∈ b0 :: b1 :: b2 :: b3 :: b4 :: b5 :: b6 :: b7 :: b8 :: b9 :: b10 :: b11 :: b12 :: b13 :: a :: l := .tail _ (.tail _ (.tail _ (.tail _ (.tail _ (.tail _ (.tail _ (.tail _ (.tail _ (.tail _ (.tail _ (.tail _ (.tail _ (.tail _ (.head _))))))))))))))
theorem mem15 {α : Type} {b0 b1 b2 b3 b4 b5 b6 b7 b8 b9 b10 b11 b12 b13 b14 a : α} {l : List α} : a ∈ b0 :: b1 :: b2 :: b3 :: b4 :: b5 :: b6 :: b7 :: b8 :: b9 :: b10 :: b11 :: b12 :: b13 :: b14 :: a :: l := .tail _ (.tail _ (.tail _ (.tail _ (.tail _ (.tail _ (.tail _ (.tail _ (.tail _ (.tail _ (.tail _ (.tail _ (.tail _ (.tail _ (.tail _ (.head _)))))))))))))))
theorem memS {α : Type} {b0 b1 b2 b3 b4 b5 b6 b7 b8 b9 b10 b11 b12 b13 b14 b15 a : α} {l : List α} (h : a ∈ l) : a ∈ b0 :: b1 :: b2 :: b3 :: b4 :: b5 :: b6 :: b7 :: b8 :: b9 :: b10 :: b11 :: b12 :: b13 :: b14 :: b15 :: l := .tail _ (.tail _ (.tail _ (.tail _ (.tail _ (.tail _ (.tail _ (.tail _ (.tail _ (.tail _ (.tail _ (.tail _ (.tail _ (.tail _ (.tail _ (.tail _ h)))))))))))))))
theorem allNe_cons {d : Addr} {q : Addr × Obj} {l : List (Addr × Obj)} (ha : q.1 ≠ d) (hl : ∀ p ∈ l, p.1 ≠ d) : ∀ p ∈ q :: l, p.1 ≠ d := List.forall_mem_cons.mpr ⟨ha, hl⟩
theorem storeX_L2 {M : Model} {A : Around} {E : Value → Shared → Prop} {s : Shared} {h₀ : Heap} {L a : Addr} {m : Str → Option Value} {cn : Str} {cs : Scope} {ccd : Value} {cl : List (Str × Addr)} {x : Str} {v : Value} {Q : Unit → Shared → Prop} {news : List (Addr × Obj)} (F : Fr h₀ L s.heap m) (N : News h₀ L s.heap news)
    (h : let m' : Str → Option Value := fun y => if y = x then some v else m y; let n' := news; ∀ h', Fr h₀ L h' m' → News h₀ L h' n' → Q () { s with heap := h', toks := s.toks + 1 })
    (hk : cs.kind = .function) (hx : (envX cn cs L a ccd cl).kindOf x = some .local) : wpAny M A (storeName (envX cn cs L a ccd cl) x v) Q E s := storeX_L F N h hk hx
theorem rest_end {h₀ : Heap} {L : Addr} {h h' g : Heap} {L' : Addr} {m' : Str → Option Value} {rest R tl : List (Addr × Obj)} {tb : Obj} (hg : Based0 h ((51, tb) :: R) g L') (F' : Fr g L' h' m') (N : News h₀ L h rest) (Nt : News h₀ L h' tl) (n51 : ∀ r ∈ rest, r.1 ≠ 51) (hr : ∀ q ∈ R, h.get? q.1 = some q.2) (hs : ∀ q ∈ R, q ∈ tl) : News h₀ L h' rest :=
  rest_after (ex := R) hg F' N Nt (fun _ hq => (List.mem_cons.mp hq).elim (fun e => .inr fun r hr => e ▸ n51 r hr) .inl) (fun q hq => ⟨hr q hq, hs q hq⟩)
end Mine
end LT_part
section A_lines
open PySem PySem.W PyProof.Rows PySem.Calls
namespace Mine
local macro_rules | `(tactic| walk_at $s:str) => `(tactic| k_extra $s)
local macro_rules | `(tactic| k_lt $h) => `(tactic| first | (k_extra "mine_lo"; replace $h:ident := LoA.of $h; (try dsimp only [adr_cons, adr_nil, adr_consA, adr_nilA] at $h:ident)) | (replace $h:ident := allLt_of $h; simp only [AllLt, and_true] at $h:ident))
local macro_rules | `(tactic| k_ne) => `(tactic| k_extra "mine_ne")
local macro_rules | `(tactic| k_all) => `(tactic| first | with_reducible assumption | exact List.forall_mem_nil _ | (refine LoA.allNe ?_; (try dsimp only [adr_cons, adr_nil, adr_consA, adr_nilA]); with_reducible assumption) | (refine OffA.allNe ?_; (try dsimp only [adr_cons, adr_nil, adr_consA, adr_nilA]); with_reducible assumption) | (refine' LoA.allSuf ?h ?m; (case h => with_reducible assumption); (case m => with_reducible (intro _ hq; (repeat (first | exact hq | refine List.mem_cons_of_mem _ ?_)); done))) | (refine' OffA.allSuf ?h ?m; (case h => with_reducible assumption); (case m => with_reducible (intro _ hq; (repeat (first | exact hq | refine List.mem_cons_of_mem _ ?_)); done))) | (refine' allNe_cons ?a ?b; (case a => k_ne); (case b => k_all)))
local macro_rules | `(tactic| k_mem) => `(tactic| first | exact mem0 | exact mem1 | exact mem2 | exact mem3 | exact mem4 | exact mem5 | exact mem6 | exact mem7 | exact mem8 | exact mem9 | exact mem10 | exact mem11 | exact mem12 | exact mem13 | exact mem14 | exact mem15 | (refine memS ?_; k_mem))
/-! C2 -/
section C2_part
open PySem PySem.W PyProof.Rows PySem.Calls
/-- the fields of an element -/
abbrev fqDict (P : Params) (k1 k2 k3 k4 k5 tp td : Tok) (ml cf mt : Addr) (n : Int) : Obj :=
  dictOf [⟨PyData.keyHash P (Str.ofString "field_modulus"), .str (Str.ofString "field_modulus") k1, .int n tp⟩, ⟨PyData.keyHash P (Str.ofString "mc_tuples"), .str (Str.ofString "mc_tuples") k2, .ref ml⟩,
    ⟨PyData.keyHash P (Str.ofString "coeffs"), .str (Str.ofString "coeffs") k3, .ref cf⟩, ⟨PyData.keyHash P (Str.ofString "modulus_coeffs"), .str (Str.ofString "modulus_coeffs") k4, .ref mt⟩,
    ⟨PyData.keyHash P (Str.ofString "degree"), .str (Str.ofString "degree") k5, .int 2 td⟩] 5

set_option maxRecDepth 100000 in
set_option maxHeartbeats 800000 in
theorem mk (w : World) (p : Program) (loose : List Str) (mean : ExcName → Option Value) (mg mb : Str → Option Value)
    (x y n : Int) (tx ty tn t1 t2 : Tok) (lc mt : Addr) (k1 k2 : Nat) (tb : Obj) (news : List (Addr × Obj)) (dp un : Nat) (gd : Option (List Code)) (cn : Str) (cs : Scope) (a : Addr) (ccd : Value) (cl : List (Str × Addr)) (outer : List Env) (A₀ : Around) (base h₀ : Heap) (L : Addr) (m : Str → Option Value) (s : Shared) (Q E : Value → Shared → Prop)
    (B : Below A₀ base outer h₀) (F : Fr h₀ L s.heap m) (X : (hd.heap_1 w.params).In h₀) (N : News h₀ L s.heap ((51, tb) :: news))
    (T : Top p loose mean mg mb h₀) (hk : cs.kind = .function) (hG : AllBare s.gens) (hT : TabOk tb) (hn51 : ∀ p ∈ news, p.1 ≠ 51)
    (hlc : (lc, ({ cls := .type "list", data := .seq #[.int x tx, .int y ty] k1 } : Obj)) ∈ news) (hmt : (mt, ({ cls := .type "tuple", data := .seq #[.int 1 t1, .int 0 t2] k2 } : Obj)) ∈ news)
    (h2 : 1 < n)  (h3 : n < 1000) (hdp : dp + 3 < recursionLimit) (hu : un + 24 < cLine)
    (hret : ∀ x' d ml mp cf tb' h' g' tk' e1 e2 e3 e4 e5 e6 e7 q1 q2 r1 r2, AllBare g' → TabOk tb' → Fr h₀ L h' m →
      News h₀ L h' ((51, tb') :: (x', instObj 192 d) :: (d, fqDict w.params e1 e2 e3 e4 e5 e6 e7 ml cf mt n) :: (ml, LCg.lst [.ref mp]) :: (mp, { cls := .type "tuple", data := .seq [.int 0 q1, .int 1 q2].toArray }) :: (cf, { cls := .type "tuple", data := .seq #[.int (x.fmod n) r1, .int (y.fmod n) r2] }) :: news) →
      (∀ p ∈ (51, tb') :: news, p.1 < d) → d < x' → x' < ml → ml < mp → mp < cf → Q (.ref x') { s with heap := h', gens := g', toks := tk' }) :
    wpAny (model PySem.Challenge.rw_kh0013_01.row.prog w) (ktrTop dp un gd cn cs L a ccd cl outer) (call (.ref 192) [.ref lc, .ref mt, .int n tn]) Q E s := by
  k_with_none
  k_with "mine_fold" => first | (have F8 := F7; have N8 := N7; clear F8 N8) | (rename Fr _ _ _ _ => F7; rename News _ _ _ _ => N7; revert F7 N7; refine let_FN ?_; intro m7 n7 F7 N7)
  k_with "mine_step" => (first | (with_reducible show Qk _ _; dsimp only [Qk]; clear Qk) | (k_unfold; (try dsimp only)) | (k_end; kc_close) | walk1 | (dsimp only; walk1) | (leave1; walk_say "STEP leave1"; (try dsimp only)))
  k_with "mine_lo" => skip
  k_with "mine_enterC" => (refine' enter_defC ?k1_0 ?k2_0 ?k3_0 ?k4_0 ?k5_0 ?kA_0 ?kF_0 ?kK_0 ?k6_0 ?k7_0 ?k8_0 ?k9_0 ?kB_0 ?kD_0 ?_ ?c2_0 ?c3_0 ?c4_0; (case kA_0 => exact rfl); (case kF_0 => exact rfl); (case kK_0 => first | exact rfl | assumption); (case k1_0 => k_asm); (case k2_0 => k_asm); (case k3_0 => k_asm); (case k4_0 => k_asm); (case k5_0 => k_asm); (case k6_0 => k_is); (case k7_0 => k_is); (case k8_0 => ktr_room); (case k9_0 => exact BindsTo.of_eq rfl); (case kB_0 => exact rfl); (case kD_0 => decide +kernel); (case c2_0 => exact rfl); (case c3_0 => exact rfl); (case c4_0 => exact rfl); k_whole; intro g9' L9' h9' tk9' cells9' FG9' F9' N9' Y9' B9' X9' T9' l19 hBs; (try k_lt l19); k_cells Y9'; (try simp only [List.cons_append, List.nil_append] at N9'); (try dsimp only); (try k_lift B9'); (try k_fold))
  k_with "eval ListComp" => (k_here; k_dflt (refine mc_comp (by with_unfolding_all rfl) (by with_unfolding_all rfl) (by decide) (by rfl) (by decide) (by rfl) (by rfl) (by decide) (by decide) (by decide) ?_))
  k_with "call type:enumerate" => (k_here; k_dflt (refine' mc_call ?F_2 ?N_2 ?m_2 ?_; (case F_2 => k_asm); (case N_2 => k_asm); (case m_2 => k_mem)); intro D9' T9' ti9' h9' tk9' F9' N9' l19 l29; (try k_lt l19); (k_lt2 l29); (have l29 := LoA.tr l19 l29); (try k_sweep); (try dsimp only))
  k_with "mine_split" => first | exact Split.here | (apply Split.skip; walk_at "mine_split")
  k_with "eval GeneratorExp" => (k_here; k_dflt (refine' gen_make ?F_4 (Split.toNews ?N_4 ?sp_4) ?h51_4 ?tb_4 ?G_4 ?X_4 ?T_4 ?hh_4 ?hcode_4 ?hgl_4 ?room_4 ?hek_4 ?hey_4 ?hdy_4 ?hvy_4 ?hml_4 ?hmc_4 ?hoc_4 ?hms_4 ?hmd_4 ?hfm_4 ?hq_4 ?hco_4 ?hclos_4 ?hcell_4 ?h0_4 ?hx_4 ?hsn_4 ?hkind_4 ?hdx_4 ?hds_4 ?hdc_4 ?_); (case F_4 => k_asm); (case N_4 => k_asm); (case sp_4 => walk_at "mine_split"); (case h51_4 => k_all); (case tb_4 => assumption); (case G_4 => assumption); (case X_4 => k_asm); (case T_4 => k_asm); (case hh_4 => rfl); (case hcode_4 => rfl); (case hgl_4 => rfl); (case room_4 => ktr_room); (case hek_4 => rfl); (case hey_4 => with_unfolding_all rfl); (case hdy_4 => decide); (case hvy_4 => with_unfolding_all rfl); (case hml_4 => k_mem); (case hclos_4 => with_unfolding_all rfl); (case hmc_4 => k_mem); (case hoc_4 => assumption); (case hms_4 => k_mem); (case hmd_4 => k_mem); (case hfm_4 => k_get); (case hq_4 => omega); (case hco_4 => rfl); (case hcell_4 => decide); (case h0_4 => rfl); (case hx_4 => rfl); (case hsn_4 => rfl); (case hkind_4 => rfl); (case hdx_4 => decide); (case hds_4 => decide); (case hdc_4 => decide); intro a9' tb9' h9' g9' tk9' G9' TB9' F9' N9' X9'; (try k_sweep))
  k_with "call type:tuple" => (k_here; k_dflt (refine' call_tuple_tup ?T_5 ?_); (case T_5 => exact News.isTup (by k_asm) (by k_mem)); (try dsimp only))
  k_with "call type:tuple" => (k_here; (rename GenR _ _ _ _ _ _ _ _ _ _ => gX9'); k_dflt (refine' gen_tuple ?F_6 ?N_6 ?G_6 gX9' ?_); (case F_6 => k_asm); (case N_6 => k_asm); (case G_6 => assumption); intro D9' t19' t29' h9' g9' tk9' G9' F9' N9' l19; clear gX9'; (try k_lt l19); (try k_sweep))
  k_with "execs cons" => ((try dsimp only); first | (refine let_one ?_; intro s7 Qk) | (refine let_cons ?_; intro s7 Qk Qk))
  k_with "eval Constant int" => (refine wpAny_Constant_int ?_; (try dsimp only))
  k_with "newList" => (k_here; k_dflt (refine' newList_K ?k1 ?k2 ?_; (case k1 => k_asm); (case k2 => k_asm); k_whole); intro l9' h9' F9' N9' l19; (try k_lt l19); (try k_sweep); (try dsimp only))
  k_with "mine_ne" => k_dflt (refine neN ?_; (try dsimp only); first | (with_reducible assumption) | (refine' LoA.ne ?hZq ?mZq; (case hZq => with_reducible assumption); (case mZq => ((first | ((repeat (with_reducible (first | exact adr_hd | refine adr_tl ?_ | exact List.mem_cons_self | refine List.mem_cons_of_mem _ ?_))); done) | ((with_reducible show @Membership.mem _ _ _ _ (@OfNat.ofNat _ (nat_lit 51) _)); k_dflt ((repeat (first | exact adr_hd | refine adr_tl ?_ | exact List.Mem.head _ | refine List.Mem.tail _ ?_)); done)))))) | (refine' LoA.ne' ?hZq ?mZq; (case hZq => with_reducible assumption); (case mZq => ((first | ((repeat (with_reducible (first | exact adr_hd | refine adr_tl ?_ | exact List.mem_cons_self | refine List.mem_cons_of_mem _ ?_))); done) | ((with_reducible show @Membership.mem _ _ _ _ (@OfNat.ofNat _ (nat_lit 51) _)); k_dflt ((repeat (first | exact adr_hd | refine adr_tl ?_ | exact List.Mem.head _ | refine List.Mem.tail _ ?_)); done)))))) | (refine' OffA.ne ?hZq ?mZq; (case hZq => with_reducible assumption); (case mZq => ((first | ((repeat (with_reducible (first | exact adr_hd | refine adr_tl ?_ | exact List.mem_cons_self | refine List.mem_cons_of_mem _ ?_))); done) | ((with_reducible show @Membership.mem _ _ _ _ (@OfNat.ofNat _ (nat_lit 51) _)); k_dflt ((repeat (first | exact adr_hd | refine adr_tl ?_ | exact List.Mem.head _ | refine List.Mem.tail _ ?_)); done)))))) | (refine' OffA.ne' ?hZq ?mZq; (case hZq => with_reducible assumption); (case mZq => ((first | ((repeat (with_reducible (first | exact adr_hd | refine adr_tl ?_ | exact List.mem_cons_self | refine List.mem_cons_of_mem _ ?_))); done) | ((with_reducible show @Membership.mem _ _ _ _ (@OfNat.ofNat _ (nat_lit 51) _)); k_dflt ((repeat (first | exact adr_hd | refine adr_tl ?_ | exact List.Mem.head _ | refine List.Mem.tail _ ?_)); done)))))) | (refine' LoA.neS ?hZq ?mZq; (case hZq => with_reducible assumption); (case mZq => ((first | ((repeat (with_reducible (first | exact adr_hd | refine adr_tl ?_ | exact List.mem_cons_self | refine List.mem_cons_of_mem _ ?_))); done) | ((with_reducible show @Membership.mem _ _ _ _ (@OfNat.ofNat _ (nat_lit 51) _)); k_dflt ((repeat (first | exact adr_hd | refine adr_tl ?_ | exact List.Mem.head _ | refine List.Mem.tail _ ?_)); done)))))) | (refine' LoA.neS' ?hZq ?mZq; (case hZq => with_reducible assumption); (case mZq => ((first | ((repeat (with_reducible (first | exact adr_hd | refine adr_tl ?_ | exact List.mem_cons_self | refine List.mem_cons_of_mem _ ?_))); done) | ((with_reducible show @Membership.mem _ _ _ _ (@OfNat.ofNat _ (nat_lit 51) _)); k_dflt ((repeat (first | exact adr_hd | refine adr_tl ?_ | exact List.Mem.head _ | refine List.Mem.tail _ ?_)); done)))))) | (refine' LoA.neT ?hZq ?mZq; (case hZq => with_reducible assumption); (case mZq => ((first | ((repeat (with_reducible (first | exact adr_hd | refine adr_tl ?_ | exact List.mem_cons_self | refine List.mem_cons_of_mem _ ?_))); done) | ((with_reducible show @Membership.mem _ _ _ _ (@OfNat.ofNat _ (nat_lit 51) _)); k_dflt ((repeat (first | exact adr_hd | refine adr_tl ?_ | exact List.Mem.head _ | refine List.Mem.tail _ ?_)); done)))))) | (refine' LoA.neT' ?hZq ?mZq; (case hZq => with_reducible assumption); (case mZq => ((first | ((repeat (with_reducible (first | exact adr_hd | refine adr_tl ?_ | exact List.mem_cons_self | refine List.mem_cons_of_mem _ ?_))); done) | ((with_reducible show @Membership.mem _ _ _ _ (@OfNat.ofNat _ (nat_lit 51) _)); k_dflt ((repeat (first | exact adr_hd | refine adr_tl ?_ | exact List.Mem.head _ | refine List.Mem.tail _ ?_)); done)))))) | exact neS_self | exact neS_self' | k_extra "mine_om")
  k_with "mine_om" => ((try simp only [LoA.cons_iff, LoA.nil_iff, and_true] at *); omega)
  w_on
  have _h : (PySem.Challenge.rw_kh0013_01 = PySem.Challenge.rw_kh0013_01) ∧ (Mine.hd.heap_1 = Mine.hd.heap_1) := by
    k_fill
    exact ⟨rfl, rfl⟩
  clear _h
  k_dflt (refine' call_cls ?k1 ?k2 ?k3 ?k4 ?k5 ?k6 ?_; (case k1 => k_asm); (case k2 => k_asm); (case k3 => k_asm); (case k4 => k_is); (case k5 => k_is); (case k6 => k_is); k_whole; intro x' d' h' F' N' l1 l2)
  have l51 := ltN (l1 (51, tb) (.head _))
  have llc := ltN (l1 _ (.tail _ hlc))
  have lmt := ltN (l1 _ (.tail _ hmt))
  k_lt2 l2
  have nlc := neN (hn51 _ hlc)
  have nmt := neN (hn51 _ hmt)
  dsimp only at l51 llc lmt nlc nmt
  have Nr : News h₀ L h' news := fun q hq => N' q (.tail _ (.tail _ (.tail _ hq)))
  have N1 : News h₀ L h' [(x', instObj 192 d'), (d', dictOf [] 0), (lc, { cls := .type "list", data := .seq #[.int x tx, .int y ty] k1 }), (mt, { cls := .type "tuple", data := .seq #[.int 1 t1, .int 0 t2] k2 }), (51, tb)] := fun q hq => N' q (by
    rcases List.mem_cons.mp hq with r | hq
    · exact r ▸ .head _
    rcases List.mem_cons.mp hq with r | hq
    · exact r ▸ .tail _ (.head _)
    rcases List.mem_cons.mp hq with r | hq
    · exact r ▸ .tail _ (.tail _ (.tail _ hlc))
    rcases List.mem_cons.mp hq with r | hq
    · exact r ▸ .tail _ (.tail _ (.tail _ hmt))
    · exact List.mem_singleton.mp hq ▸ .tail _ (.tail _ (.head _)))
  clear F N N'
  k_dflt (walk_at "mine_enterC")
  w_strict (repeat' (k_extra "mine_step"))
  rename Based0 _ _ _ _ => hB0
  rename Fr _ _ _ m => kF
  rename News h₀ L _ _ => kN
  have Nr2 := rest_after (ex := [(lc, { cls := .type "list", data := .seq #[.int x tx, .int y ty] k1 }), (mt, { cls := .type "tuple", data := .seq #[.int 1 t1, .int 0 t2] k2 })]) hB0 (by assumption) Nr kN (List.forall_mem_cons.mpr ⟨.inr fun u hu => Nat.ne_of_lt (Nat.lt_trans (l1 u (.tail _ hu)) l2), List.forall_mem_cons.mpr ⟨.inr fun u hu => Nat.ne_of_lt (l1 u (.tail _ hu)), List.forall_mem_cons.mpr ⟨.inl (.head _), List.forall_mem_cons.mpr ⟨.inl (.tail _ (.head _)), List.forall_mem_cons.mpr ⟨.inr hn51, fun _ h => nomatch h⟩⟩⟩⟩⟩) (List.forall_mem_cons.mpr ⟨⟨(Nr _ hlc).1, by k_mem⟩, List.forall_mem_cons.mpr ⟨⟨(Nr _ hmt).1, by k_mem⟩, fun _ h => nomatch h⟩⟩)
  refine' hret _ _ _ _ _ _ _ _ _ _ _ _ _ _ _ _ _ _ _ _ ?G ?T kF (news_cons kN ?m1 (news_cons kN ?m2 (news_cons kN ?m3 (news_cons kN ?m4 (news_cons kN ?m5 (news_cons kN ?m6 Nr2)))))) ?o1 ?o2 ?o3 ?o4 ?o5
  case m1 => k_mem
  case m2 => k_mem
  case m3 => k_mem
  case m4 => k_mem
  case m5 => k_mem
  case m6 => k_mem
  case G => assumption
  case T => assumption
  case o1 =>
    intro u hu
    rcases List.mem_cons.mp hu with r | hu
    · exact r ▸ l51
    · exact l1 u (.tail _ hu)
  all_goals (refine ltN ?_; (first | omega | k_extra "mine_om"))
end C2_part
/-! C3 -/
section C3_part
open PySem PySem.W PyProof.Rows PySem.Calls
/-- an element: its object, fields and parts in the ledger -/
def FqAt (P : Params) (news : List (Addr × Obj)) (sx d ml mp cf mt : Addr) (n x y : Int) : Prop :=
  (sx, instObj 192 d) ∈ news ∧ (∃ e1 e2 e3 e4 e5 e6 e7, (d, fqDict P e1 e2 e3 e4 e5 e6 e7 ml cf mt n) ∈ news) ∧ (ml, LCg.lst [.ref mp]) ∈ news ∧ (∃ q1 q2, (mp, ({ cls := .type "tuple", data := .seq #[.int 0 q1, .int 1 q2] } : Obj)) ∈ news) ∧
    (∃ r1 r2, (cf, ({ cls := .type "tuple", data := .seq #[.int x r1, .int y r2] } : Obj)) ∈ news) ∧ ∃ t1 t2 k, (mt, ({ cls := .type "tuple", data := .seq #[.int 1 t1, .int 0 t2] k } : Obj)) ∈ news
/-- the frame, the ledger and the rest as a contract's caller has them -/
structure Sit (w : World) (p : Program) (loose : List Str) (mean : ExcName → Option Value) (mg mb : Str → Option Value) (need dp un : Nat) (cs : Scope) (outer : List Env) (A₀ : Around) (base h₀ : Heap) (L : Addr) (m : Str → Option Value) (tb : Obj) (news : List (Addr × Obj)) (s : Shared) : Prop where
  B : Below A₀ base outer h₀
  F : Fr h₀ L s.heap m
  X : (Mine.hd.heap_1 w.params).In h₀
  N : News h₀ L s.heap ((51, tb) :: news)
  T : Top p loose mean mg mb h₀
  hk : cs.kind = .function
  G : AllBare s.gens
  TB : TabOk tb
  n51 : ∀ p ∈ news, p.1 ≠ 51
  hdp : dp + need < recursionLimit
  hun : un + 8 * need < cLine
/-- what a contract hands back that makes one element of `n` with the parts `x`, `y` -/
abbrev RetFq (w : World) (h₀ : Heap) (L : Addr) (m : Str → Option Value) (news : List (Addr × Obj)) (s : Shared) (Q : Value → Shared → Prop) (mt : Addr) (n x y : Int) : Prop :=
  ∀ x' d ml mp cf tb' h' g' tk' e1 e2 e3 e4 e5 e6 e7 q1 q2 r1 r2, AllBare g' → TabOk tb' → Fr h₀ L h' m →
      News h₀ L h' ((51, tb') :: (x', instObj 192 d) :: (d, fqDict w.params e1 e2 e3 e4 e5 e6 e7 ml cf mt n) :: (ml, LCg.lst [.ref mp]) :: (mp, { cls := .type "tuple", data := .seq #[.int 0 q1, .int 1 q2] }) :: (cf, { cls := .type "tuple", data := .seq #[.int x r1, .int y r2] }) :: news) →
      (∀ p ∈ (51, tb') :: news, p.1 < d) → d < x' → x' < ml → ml < mp → mp < cf → Q (.ref x') { s with heap := h', gens := g', toks := tk' }

section
variable {w : World} {p : Program} {loose : List Str} {mean : ExcName → Option Value} {mg mb : Str → Option Value} {dp un : Nat} {gd : Option (List Code)} {cn : Str} {cs : Scope} {a : Addr} {ccd : Value} {cl : List (Str × Addr)} {outer : List Env} {A₀ : Around} {base h₀ : Heap} {L : Addr} {m : Str → Option Value} {tb : Obj} {news : List (Addr × Obj)} {s : Shared} {Q E : Value → Shared → Prop}

theorem mkS {x y n : Int} {tx ty tn t1 t2 : Tok} {lc mt : Addr} {k1 k2 : Nat} (S : Sit w p loose mean mg mb 3 dp un cs outer A₀ base h₀ L m tb news s)
    (hlc : (lc, ({ cls := .type "list", data := .seq #[.int x tx, .int y ty] k1 } : Obj)) ∈ news) (hmt : (mt, ({ cls := .type "tuple", data := .seq #[.int 1 t1, .int 0 t2] k2 } : Obj)) ∈ news)
    (h2 : 1 < n) (h3 : n < 1000) (hret : RetFq w h₀ L m news s Q mt n (x.fmod n) (y.fmod n)) :
    wpAny (model PySem.Challenge.rw_kh0013_01.row.prog w) (ktrTop dp un gd cn cs L a ccd cl outer) (call (.ref 192) [.ref lc, .ref mt, .int n tn]) Q E s :=
  mk w p loose mean mg mb x y n tx ty tn t1 t2 lc mt k1 k2 tb news dp un gd cn cs a ccd cl outer A₀ base h₀ L m s Q E S.B S.F S.X S.N S.T S.hk S.G S.TB S.n51 hlc hmt h2 h3 S.hdp S.hun hret

set_option maxRecDepth 100000 in
set_option maxHeartbeats 800000 in
theorem made {sx sd sml smp scf mt lc : Addr} {n x₀ y₀ x y : Int} {tx ty : Tok} {k1 : Nat} (S : Sit w p loose mean mg mb 4 dp un cs outer A₀ base h₀ L m tb news s)
    (hS : FqAt w.params news sx sd sml smp scf mt n x₀ y₀) (hlc : (lc, ({ cls := .type "list", data := .seq #[.int x tx, .int y ty] k1 } : Obj)) ∈ news)
    (h2 : 1 < n) (h3 : n < 1000) (hret : RetFq w h₀ L m news s Q mt n (x.fmod n) (y.fmod n)) :
    wpAny (model PySem.Challenge.rw_kh0013_01.row.prog w) (ktrTop dp un gd cn cs L a ccd cl outer) (call (.ref 181) [.ref sx, .ref lc]) Q E s := by
  k_with_none
  k_with "storeName" => (k_here; k_dflt (refine' storeX_L2 ?Fst ?Nst ?_ ?ast ?bst; (case Fst => k_asm); (case Nst => k_asm); (case ast => rfl); (case bst => rfl); k_whole); intro m7 n7 h9' F7 N7; (try k_sweep))
  k_with "mine_fold" => first | (have F8 := F7; have N8 := N7; clear F8 N8) | (rename Fr _ _ _ _ => F7; rename News _ _ _ _ => N7; revert F7 N7; refine let_FN ?_; intro m7 n7 F7 N7)
  k_with "mine_step" => (first | (with_reducible show Qk _ _; dsimp only [Qk]; clear Qk) | (k_unfold; (try dsimp only)) | (k_end; kc_close) | walk1 | (dsimp only; walk1) | (leave1; walk_say "STEP leave1"; (try dsimp only)))
  k_with "mine_lo" => skip
  k_with "mine_reg" => (w_on; (have _h : (PySem.Challenge.rw_kh0013_01 = PySem.Challenge.rw_kh0013_01) ∧ (Mine.hd.heap_1 = Mine.hd.heap_1) := by (k_fill; exact ⟨rfl, rfl⟩)); clear _h)
  k_with "mine_enter" => (refine' enter_def ?k1_1 ?k2_1 ?k3_1 ?k4_1 ?k5_1 ?kA_1 ?kF_1 ?kK_1 ?k6_1 ?k7_1 ?k8_1 ?k9_1 ?kB_1 ?_ ?c2_1 ?c3_1 ?c4_1 ?c5_1; (case kA_1 => exact rfl); (case kF_1 => exact rfl); (case kK_1 => first | exact rfl | assumption); (case k1_1 => k_asm); (case k2_1 => k_asm); (case k3_1 => k_asm); (case k4_1 => k_asm); (case k5_1 => k_asm); (case k6_1 => k_is); (case k7_1 => k_is); (case k8_1 => ktr_room); (case k9_1 => exact BindsTo.of_eq rfl); (case c5_1 => decide); (case kB_1 => exact locs rfl); (case c2_1 => exact rfl); (case c3_1 => exact rfl); (case c4_1 => exact rfl); k_whole; intro g9' L9' h9' FG9' F9' N9' B9' X9' T9' hBs; (try dsimp only); (try k_lift B9'); (try k_fold))
  k_with "mine_split" => first | exact Split.here | (apply Split.skip; walk_at "mine_split")
  k_with "mine_sit" => (refine' Sit.mk ?B_3 ?F_3 ?X_3 (Split.toNews ?N_3 ?sp_3) ?T_3 ?hk_3 ?G_3 ?TB_3 ?n51_3 ?hdp_3 ?hun_3; (case B_3 => k_asm); (case F_3 => k_asm); (case X_3 => k_asm); (case N_3 => k_asm); (case sp_3 => walk_at "mine_split"); (case T_3 => k_asm); (case hk_3 => first | exact rfl | assumption); (case G_3 => assumption); (case TB_3 => assumption); (case n51_3 => first | assumption | k_all); (case hdp_3 => ktr_room); (case hun_3 => ktr_units))
  k_with "mine_ret" => (intro x9' d9' ml9' mp9' cf9' tb9' h9' g9' tk9' e19' e29' e39' e49' e59' e69' e79' q19' q29' r19' r29' G9' TB9' F9' N9' l19 l29 l39 l49 l59; (have l1o9' := l19); (try k_lt l19); (k_lt2 l29); (have l29 := LoA.tr l19 l29); (k_lt2 l39); (have l39 := LoA.tr l29 l39); (k_lt2 l49); (have l49 := LoA.tr l39 l49); (k_lt2 l59); (have l59 := LoA.tr l49 l59); (try k_sweep); (try dsimp only))
  k_with "call ref" => (k_here; (with_reducible show wpAny _ _ (call (Value.ref 192) _) _ _ _); k_dflt (refine' mkS ?S_5 ?hlc_5 ?hmt_5 ?h2_5 ?h3_5 ?_); (case S_5 => walk_at "mine_sit"); (case hlc_5 => k_mem); (case hmt_5 => k_mem); (case h2_5 => first | assumption | omega); (case h3_5 => first | assumption | omega); walk_at "mine_ret"; (try dsimp only))
  k_with "execs cons" => ((try dsimp only); (try k_extra "mine_fold"); first | (refine let_one ?_; intro s7 Qk) | (refine let_cons ?_; intro s7 Qk Qk))
  k_with "eval Constant int" => (refine wpAny_Constant_int ?_; (try dsimp only))
  k_with "newList" => (k_here; k_dflt (refine' newList_K ?k1 ?k2 ?_; (case k1 => k_asm); (case k2 => k_asm); k_whole); intro l9' h9' F9' N9' l19; (try k_lt l19); (try k_sweep); (try dsimp only))
  k_with "mine_ne" => k_dflt (refine neN ?_; (try dsimp only); first | (with_reducible assumption) | (refine' LoA.ne ?hZq ?mZq; (case hZq => with_reducible assumption); (case mZq => ((first | ((repeat (with_reducible (first | exact adr_hd | refine adr_tl ?_ | exact List.mem_cons_self | refine List.mem_cons_of_mem _ ?_))); done) | ((with_reducible show @Membership.mem _ _ _ _ (@OfNat.ofNat _ (nat_lit 51) _)); k_dflt ((repeat (first | exact adr_hd | refine adr_tl ?_ | exact List.Mem.head _ | refine List.Mem.tail _ ?_)); done)))))) | (refine' LoA.ne' ?hZq ?mZq; (case hZq => with_reducible assumption); (case mZq => ((first | ((repeat (with_reducible (first | exact adr_hd | refine adr_tl ?_ | exact List.mem_cons_self | refine List.mem_cons_of_mem _ ?_))); done) | ((with_reducible show @Membership.mem _ _ _ _ (@OfNat.ofNat _ (nat_lit 51) _)); k_dflt ((repeat (first | exact adr_hd | refine adr_tl ?_ | exact List.Mem.head _ | refine List.Mem.tail _ ?_)); done)))))) | (refine' OffA.ne ?hZq ?mZq; (case hZq => with_reducible assumption); (case mZq => ((first | ((repeat (with_reducible (first | exact adr_hd | refine adr_tl ?_ | exact List.mem_cons_self | refine List.mem_cons_of_mem _ ?_))); done) | ((with_reducible show @Membership.mem _ _ _ _ (@OfNat.ofNat _ (nat_lit 51) _)); k_dflt ((repeat (first | exact adr_hd | refine adr_tl ?_ | exact List.Mem.head _ | refine List.Mem.tail _ ?_)); done)))))) | (refine' OffA.ne' ?hZq ?mZq; (case hZq => with_reducible assumption); (case mZq => ((first | ((repeat (with_reducible (first | exact adr_hd | refine adr_tl ?_ | exact List.mem_cons_self | refine List.mem_cons_of_mem _ ?_))); done) | ((with_reducible show @Membership.mem _ _ _ _ (@OfNat.ofNat _ (nat_lit 51) _)); k_dflt ((repeat (first | exact adr_hd | refine adr_tl ?_ | exact List.Mem.head _ | refine List.Mem.tail _ ?_)); done)))))) | (refine' LoA.neS ?hZq ?mZq; (case hZq => with_reducible assumption); (case mZq => ((first | ((repeat (with_reducible (first | exact adr_hd | refine adr_tl ?_ | exact List.mem_cons_self | refine List.mem_cons_of_mem _ ?_))); done) | ((with_reducible show @Membership.mem _ _ _ _ (@OfNat.ofNat _ (nat_lit 51) _)); k_dflt ((repeat (first | exact adr_hd | refine adr_tl ?_ | exact List.Mem.head _ | refine List.Mem.tail _ ?_)); done)))))) | (refine' LoA.neS' ?hZq ?mZq; (case hZq => with_reducible assumption); (case mZq => ((first | ((repeat (with_reducible (first | exact adr_hd | refine adr_tl ?_ | exact List.mem_cons_self | refine List.mem_cons_of_mem _ ?_))); done) | ((with_reducible show @Membership.mem _ _ _ _ (@OfNat.ofNat _ (nat_lit 51) _)); k_dflt ((repeat (first | exact adr_hd | refine adr_tl ?_ | exact List.Mem.head _ | refine List.Mem.tail _ ?_)); done)))))) | (refine' LoA.neT ?hZq ?mZq; (case hZq => with_reducible assumption); (case mZq => ((first | ((repeat (with_reducible (first | exact adr_hd | refine adr_tl ?_ | exact List.mem_cons_self | refine List.mem_cons_of_mem _ ?_))); done) | ((with_reducible show @Membership.mem _ _ _ _ (@OfNat.ofNat _ (nat_lit 51) _)); k_dflt ((repeat (first | exact adr_hd | refine adr_tl ?_ | exact List.Mem.head _ | refine List.Mem.tail _ ?_)); done)))))) | (refine' LoA.neT' ?hZq ?mZq; (case hZq => with_reducible assumption); (case mZq => ((first | ((repeat (with_reducible (first | exact adr_hd | refine adr_tl ?_ | exact List.mem_cons_self | refine List.mem_cons_of_mem _ ?_))); done) | ((with_reducible show @Membership.mem _ _ _ _ (@OfNat.ofNat _ (nat_lit 51) _)); k_dflt ((repeat (first | exact adr_hd | refine adr_tl ?_ | exact List.Mem.head _ | refine List.Mem.tail _ ?_)); done)))))) | exact neS_self | exact neS_self' | k_extra "mine_om")
  k_with "mine_om" => ((try simp only [LoA.cons_iff, LoA.nil_iff, and_true] at *); omega)
  walk_at "mine_reg"
  obtain ⟨B, F, X, N, T, hk, G, TB, n51, hdp, hun⟩ := S
  obtain ⟨hsx, ⟨e1, e2, e3, e4, e5, e6, e7, hsd⟩, -, -, -, t1, t2, k2, hmt⟩ := hS
  refine wpAny_call ?_
  k_dflt (walk_at "mine_enter")
  clear N
  have m1 : (sx, instObj 192 sd) ∈ (51, tb) :: news := .tail _ hsx
  have m2 : (sd, fqDict w.params e1 e2 e3 e4 e5 e6 e7 sml scf mt n) ∈ (51, tb) :: news := .tail _ hsd
  refine let_entry ?_
  intro M9 A9 e9 E9 Qk
  k_extra "mine_fold"
  w_strict (repeat' (k_extra "mine_step"))
  rename Fr _ _ _ m => kF
  rename News h₀ L _ _ => kN
  refine hret _ _ _ _ _ _ _ _ _ _ _ _ _ _ _ _ _ _ _ _ (by assumption) (by assumption) kF kN (by assumption) ?_ ?_ ?_ ?_
  all_goals assumption
end
end C3_part
/-! C4 -/
section C4_part
open PySem PySem.W PyProof.Rows PySem.Calls
section
variable {w : World} {p : Program} {loose : List Str} {mean : ExcName → Option Value} {mg mb : Str → Option Value} {dp un : Nat} {gd : Option (List Code)} {cn : Str} {cs : Scope} {a : Addr} {ccd : Value} {cl : List (Str × Addr)} {outer : List Env} {A₀ : Around} {base h₀ : Heap} {L : Addr} {m : Str → Option Value} {tb : Obj} {news : List (Addr × Obj)} {s : Shared} {Q E : Value → Shared → Prop}
set_option maxRecDepth 100000 in
set_option maxHeartbeats 2000000 in
theorem mul {ax ad aml amp acf amt : Addr} {bx bd bml bmp bcf bmt : Addr} {n x y x' y' : Int} (S : Sit w p loose mean mg mb 6 dp un cs outer A₀ base h₀ L m tb news s)
    (ha : FqAt w.params news ax ad aml amp acf amt n x y) (hb : FqAt w.params news bx bd bml bmp bcf bmt n x' y') (h2 : 1 < n) (h3 : n < 1000) (hx : 0 ≤ x ∧ x < n) (hy : 0 ≤ y ∧ y < n) (hx' : 0 ≤ x' ∧ x' < n) (hy' : 0 ≤ y' ∧ y' < n)
    (hret : RetFq w h₀ L m news s Q amt n ((x * x' - y * y') % n) ((x * y' + y * x') % n)) :
    wpAny (model PySem.Challenge.rw_kh0013_01.row.prog w) (ktrTop dp un gd cn cs L a ccd cl outer) (call (.ref 83) [.ref ax, .ref bx]) Q E s := by
  k_with_none
  k_with "storeName" => (k_here; k_dflt (refine' storeX_L2 ?Fst ?Nst ?_ ?ast ?bst; (case Fst => k_asm); (case Nst => k_asm); (case ast => rfl); (case bst => rfl); k_whole); intro m7 n7 h9' F7 N7; (try k_sweep))
  k_with "mine_fold" => first | (have F8 := F7; have N8 := N7; clear F8 N8) | (rename Fr _ _ _ _ => F7; rename News _ _ _ _ => N7; revert F7 N7; refine let_FN ?_; intro m7 n7 F7 N7)
  k_with "mine_step" => (first | (with_reducible show Qk _ _; dsimp only [Qk]; clear Qk) | (k_unfold; (try dsimp only)) | (k_end; kc_close) | walk1 | (dsimp only; walk1) | (leave1; walk_say "STEP leave1"; (try dsimp only)))
  k_with "mine_lo" => skip
  k_with "CompRest" => (with_unfolding_all first | (refine LCg.CompRest.succ ?_; intro v9' I9' oI9' C9' oC9' D9' m9' h9' tk9' E9' hv9' hC9' hx9' F9' N9' off9' ne9'; (first | lcg_open hv9' | (obtain ⟨t99', hv99'⟩ := hv9'; subst hv99'))) | refine LCg.CompRest.zero ?_)
  k_with "CompEnd" => (k_here; (refine' LCg.CompEnd.intro ?F_1 ?N_1 _ (fun p hp => hp) ?off_1 ?S_1 ?_); (case F_1 => k_asm); (case N_1 => k_asm); (case off_1 => assumption); (case S_1 => (refine' srcAt_led ?m9_1; (case m9_1 => k_mem))))
  k_with "FinE" => ((unfold LCg.FinE); intro D9' h9' tk9' F9' N9' o19'; k_dflt (replace o19' := OffA.of o19'; (try dsimp only [adr_cons, adr_nil, adr_consA, adr_nilA] at o19')); (try simp only [List.nil_append, List.cons_append] at N9'); (try dsimp only))
  k_with "eval ListComp" => (k_here; k_dflt (refine LCg.ListComp_U (F₀ := by k_asm) (by with_unfolding_all rfl) (by decide) (by rfl) (by decide) (by rfl) ?_); k_dflt lcg_toSrc)
  k_with "CompSrc" => (k_here; k_dflt (refine LCg.CompSrc.ledger (by rfl) (by k_asm) (by k_asm) (by k_mem) (by first | size_fits | exact Nat.le_of_ble_eq_true rfl) ?_; intro g9'; lcg_lit))
  k_with "exec For Name Call cons nil" => (k_here; (rename Fr _ _ _ _ => lF9'); (with_unfolding_all refine' For_turns lF9' ?_; k_whole))
  k_with "pyIter ref" => (k_here; (with_reducible show wpAny _ _ (pyIter (Value.ref _)) (fun it s₂ => TurnsAt _ _ _ _ _ _ _ _ _ it s₂) _ _); (with_reducible rename IsRange _ _ _ _ _ _ _ _ => rX9'); with_unfolding_all (first | (refine' range_turns (xs := [Itm.tok (fun t => Value.int (0 : Int) t)]) ?hh_6 ?F_6 ?N_6 rX9' ?sm_6 ?hn_6 ?hx_6 ?_; (case hn_6 => decide +kernel); (case sm_6 => decide +kernel); (case hx_6 => rfl)) | (refine' range_turns (xs := [Itm.tok (fun t => Value.int (1 : Int) t), Itm.tok (fun t => Value.int (0 : Int) t)]) ?hh_6 ?F_6 ?N_6 rX9' ?sm_6 ?hn_6 ?hx_6 ?_; (case hn_6 => decide +kernel); (case sm_6 => decide +kernel); (case hx_6 => rfl)) | (refine' range_turns (xs := [Itm.tok (fun t => Value.int (0 : Int) t), Itm.tok (fun t => Value.int (1 : Int) t)]) ?hh_6 ?F_6 ?N_6 rX9' ?sm_6 ?hn_6 ?hx_6 ?_; (case hn_6 => decide +kernel); (case sm_6 => decide +kernel); (case hx_6 => rfl)) | (refine' range_turns (xs := [Itm.tok (fun t => Value.int (0 : Int) t), Itm.tok (fun t => Value.int (1 : Int) t), Itm.tok (fun t => Value.int (2 : Int) t)]) ?hh_6 ?F_6 ?N_6 rX9' ?sm_6 ?hn_6 ?hx_6 ?_; (case hn_6 => decide +kernel); (case sm_6 => decide +kernel); (case hx_6 => rfl)) | (refine' range_turns (xs := [Itm.tok (fun t => Value.int (2 : Int) t), Itm.tok (fun t => Value.int (1 : Int) t), Itm.tok (fun t => Value.int (0 : Int) t)]) ?hh_6 ?F_6 ?N_6 rX9' ?sm_6 ?hn_6 ?hx_6 ?_; (case hn_6 => decide +kernel); (case sm_6 => decide +kernel); (case hx_6 => rfl)) | (refine' range_turns (xs := []) ?hh_6 ?F_6 ?N_6 rX9' ?sm_6 ?hn_6 ?hx_6 ?_; (case hn_6 => decide +kernel); (case sm_6 => decide +kernel); (case hx_6 => rfl))); (case hh_6 => rfl); (case F_6 => k_asm); (case N_6 => k_asm); clear rX9'; intro i9' l19; (try k_lt l19))
  k_with "call type:enumerate" => (k_here; k_dflt (refine' enum_make ?F_7 ?N_7 ?m_7 ?_); (case F_7 => k_asm); (case N_7 => k_asm); (case m_7 => k_mem); intro e9' h9' F9' N9' eX9'; (try k_sweep); (try dsimp only))
  k_with "call type:enumerate" => (k_here; (with_reducible show wpAny _ _ (call (Value.type _) [Value.ref _]) (fun xv s₁ => wpAny _ _ (pyIter xv) (fun it s₂ => TurnsAt _ _ _ _ _ _ _ _ _ it s₂) _ s₁) _ _); with_unfolding_all (refine' enum_turns (vs := [_, _]) (xs := [Itm.pair (fun t => Value.int (0 : Int) t) _, Itm.pair (fun t => Value.int (1 : Int) t) _]) ?hh_8 ?F_8 ?N_8 ?hm_8 ?hc_8 ?hd_8 ?hx_8 ?_; (case hh_8 => rfl); (case F_8 => k_asm); (case N_8 => k_asm); (case hm_8 => k_mem); (case hc_8 => rfl); (case hd_8 => rfl); (case hx_8 => rfl)); intro i9' l19; (try k_lt l19); (try dsimp only))
  k_with "call type:list" => (k_here; (rename EnumF _ _ _ _ _ _ _ => eX9'); k_dflt (refine' enum_list ?hh_9 ?F_9 ?N_9 eX9' ?_); (case hh_9 => rfl); (case F_9 => k_asm); (case N_9 => k_asm); intro S9' T19' T29' k19' k29' c9' h9' tk9' F9' N9' l19 l29 l39; clear eX9'; (try k_lt l19); (k_lt2 l29); (have l29 := LoA.tr l19 l29); (k_lt2 l39); (have l39 := LoA.tr l29 l39); (try k_sweep); (try dsimp only))
  k_with "exec For Tuple Call cons nil" => (k_here; (rename Fr _ _ _ _ => lF9'); (with_unfolding_all refine' For_turns lF9' ?_; k_whole))
  k_with "exec For Tuple Attribute cons nil" => (k_here; (rename Fr _ _ _ _ => lF9'); (with_unfolding_all refine' For_turns lF9' ?_; k_whole))
  k_with "mine_enterC" => (refine' enter_defC ?k1_12 ?k2_12 ?k3_12 ?k4_12 ?k5_12 ?kA_12 ?kF_12 ?kK_12 ?k6_12 ?k7_12 ?k8_12 ?k9_12 ?kB_12 ?kD_12 ?_ ?c2_12 ?c3_12 ?c4_12; (case kA_12 => exact rfl); (case kF_12 => exact rfl); (case kK_12 => first | exact rfl | assumption); (case k1_12 => k_asm); (case k2_12 => k_asm); (case k3_12 => k_asm); (case k4_12 => k_asm); (case k5_12 => k_asm); (case k6_12 => k_is); (case k7_12 => k_is); (case k8_12 => ktr_room); (case k9_12 => exact BindsTo.of_eq rfl); (case kB_12 => exact rfl); (case kD_12 => decide +kernel); (case c2_12 => exact rfl); (case c3_12 => exact rfl); (case c4_12 => exact rfl); k_whole; intro g9' L9' h9' tk9' cells9' FG9' F9' N9' Y9' B9' X9' T9' l19 hBs; (try k_lt l19); k_cells Y9'; (try simp only [List.cons_append, List.nil_append] at N9'); (try dsimp only); (try k_lift B9'); (try k_fold))
  k_with "eval ListComp" => (k_here; (with_reducible show wpAny _ _ (eval (PySem.Expr.ListComp (PySem.Expr.Tuple _ _ _) _ _ _) _) _ _ _); k_dflt (refine mc_comp (by with_unfolding_all rfl) (by with_unfolding_all rfl) (by decide) (by rfl) (by decide) (by rfl) (by rfl) (by decide) (by decide) (by decide) ?_))
  k_with "call type:enumerate" => (k_here; (with_reducible show wpAny _ _ (call (Value.type _) [Value.ref _]) (McSrc _) _ _); k_dflt (refine' mc_call ?F_14 ?N_14 ?m_14 ?_; (case F_14 => k_asm); (case N_14 => k_asm); (case m_14 => k_mem)); intro D9' T9' ti9' h9' tk9' F9' N9' l19 l29; (try k_lt l19); (k_lt2 l29); (have l29 := LoA.tr l19 l29); (try k_sweep); (try dsimp only))
  k_with "mine_split" => first | exact Split.here | (apply Split.skip; walk_at "mine_split")
  k_with "eval GeneratorExp" => (k_here; k_dflt (refine' gen_make ?F_16 (Split.toNews ?N_16 ?sp_16) ?h51_16 ?tb_16 ?G_16 ?X_16 ?T_16 ?hh_16 ?hcode_16 ?hgl_16 ?room_16 ?hek_16 ?hey_16 ?hdy_16 ?hvy_16 ?hml_16 ?hmc_16 ?hoc_16 ?hms_16 ?hmd_16 ?hfm_16 ?hq_16 ?hco_16 ?hclos_16 ?hcell_16 ?h0_16 ?hx_16 ?hsn_16 ?hkind_16 ?hdx_16 ?hds_16 ?hdc_16 ?_); (case F_16 => k_asm); (case N_16 => k_asm); (case sp_16 => walk_at "mine_split"); (case h51_16 => k_all); (case tb_16 => assumption); (case G_16 => assumption); (case X_16 => k_asm); (case T_16 => k_asm); (case hh_16 => rfl); (case hcode_16 => rfl); (case hgl_16 => rfl); (case room_16 => ktr_room); (case hek_16 => rfl); (case hey_16 => with_unfolding_all rfl); (case hdy_16 => decide); (case hvy_16 => with_unfolding_all rfl); (case hml_16 => k_mem); (case hclos_16 => with_unfolding_all rfl); (case hmc_16 => k_mem); (case hoc_16 => assumption); (case hms_16 => k_mem); (case hmd_16 => k_mem); (case hfm_16 => k_get); (case hq_16 => omega); (case hco_16 => rfl); (case hcell_16 => decide); (case h0_16 => rfl); (case hx_16 => rfl); (case hsn_16 => rfl); (case hkind_16 => rfl); (case hdx_16 => decide); (case hds_16 => decide); (case hdc_16 => decide); intro a9' tb9' h9' g9' tk9' G9' TB9' F9' N9' X9'; (try k_sweep))
  k_with "call type:tuple" => (k_here; k_dflt (refine' call_tuple_tup ?T_17 ?_); (case T_17 => exact News.isTup (by k_asm) (by k_mem)); (try dsimp only))
  k_with "call type:tuple" => (k_here; (rename GenR _ _ _ _ _ _ _ _ _ _ => gX9'); k_dflt (refine' gen_tuple ?F_18 ?N_18 ?G_18 gX9' ?_); (case F_18 => k_asm); (case N_18 => k_asm); (case G_18 => assumption); intro D9' t19' t29' h9' g9' tk9' G9' F9' N9' l19; clear gX9'; (try k_lt l19); (try k_sweep))
  k_with "mine_reg" => (w_on; (have _h : (PySem.Challenge.rw_kh0013_01 = PySem.Challenge.rw_kh0013_01) ∧ (Mine.hd.heap_1 = Mine.hd.heap_1) := by (k_fill; exact ⟨rfl, rfl⟩)); clear _h)
  k_with "mine_enter" => (refine' enter_def ?k1_20 ?k2_20 ?k3_20 ?k4_20 ?k5_20 ?kA_20 ?kF_20 ?kK_20 ?k6_20 ?k7_20 ?k8_20 ?k9_20 ?kB_20 ?_ ?c2_20 ?c3_20 ?c4_20 ?c5_20; (case kA_20 => exact rfl); (case kF_20 => exact rfl); (case kK_20 => first | exact rfl | assumption); (case k1_20 => k_asm); (case k2_20 => k_asm); (case k3_20 => k_asm); (case k4_20 => k_asm); (case k5_20 => k_asm); (case k6_20 => k_is); (case k7_20 => k_is); (case k8_20 => ktr_room); (case k9_20 => exact BindsTo.of_eq rfl); (case c5_20 => decide); (case kB_20 => exact locs rfl); (case c2_20 => exact rfl); (case c3_20 => exact rfl); (case c4_20 => exact rfl); k_whole; intro g9' L9' h9' FG9' F9' N9' B9' X9' T9' hBs; (try dsimp only); (try k_lift B9'); (try k_fold))
  k_with "mine_sit" => (refine' Sit.mk ?B_21 ?F_21 ?X_21 (Split.toNews ?N_21 ?sp_21) ?T_21 ?hk_21 ?G_21 ?TB_21 ?n51_21 ?hdp_21 ?hun_21; (case B_21 => k_asm); (case F_21 => k_asm); (case X_21 => k_asm); (case N_21 => k_asm); (case sp_21 => walk_at "mine_split"); (case T_21 => k_asm); (case hk_21 => first | exact rfl | assumption); (case G_21 => assumption); (case TB_21 => assumption); (case n51_21 => first | assumption | k_all); (case hdp_21 => ktr_room); (case hun_21 => ktr_units))
  k_with "mine_ret" => (intro x9' d9' ml9' mp9' cf9' tb9' h9' g9' tk9' e19' e29' e39' e49' e59' e69' e79' q19' q29' r19' r29' G9' TB9' F9' N9' l19 l29 l39 l49 l59; (try k_lt l19); (k_lt2 l29); (have l29 := LoA.tr l19 l29); (k_lt2 l39); (have l39 := LoA.tr l29 l39); (k_lt2 l49); (have l49 := LoA.tr l39 l49); (k_lt2 l59); (have l59 := LoA.tr l49 l59); (try k_sweep); (try dsimp only))
  k_with "call ref" => (k_here; (with_reducible show wpAny _ _ (call (Value.ref 192) _) _ _ _); k_dflt (refine' mkS ?S_23 ?hlc_23 ?hmt_23 ?h2_23 ?h3_23 ?_); (case S_23 => walk_at "mine_sit"); (case hlc_23 => k_mem); (case hmt_23 => k_mem); (case h2_23 => first | assumption | omega); (case h3_23 => first | assumption | omega); walk_at "mine_ret"; (try dsimp only))
  k_with "mine_fq" => (refine' And.intro ?f1_24 (And.intro (Exists.intro _ (Exists.intro _ (Exists.intro _ (Exists.intro _ (Exists.intro _ (Exists.intro _ (Exists.intro _ ?f2_24))))))) (And.intro ?f3_24 (And.intro (Exists.intro _ (Exists.intro _ ?f4_24)) (And.intro (Exists.intro _ (Exists.intro _ ?f5_24)) (Exists.intro _ (Exists.intro _ (Exists.intro _ ?f6_24))))))); (case f1_24 => k_mem); (case f2_24 => k_mem); (case f3_24 => k_mem); (case f4_24 => k_mem); (case f5_24 => k_mem); (case f6_24 => k_mem))
  k_with "call ref" => (k_here; (with_reducible show wpAny _ _ (call (Value.ref 181) _) _ _ _); k_dflt (refine' made ?S_25 ?hS_25 ?hlc_25 ?h2_25 ?h3_25 ?_); (case S_25 => walk_at "mine_sit"); (case hS_25 => walk_at "mine_fq"); (case hlc_25 => k_mem); (case h2_25 => first | assumption | omega); (case h3_25 => first | assumption | omega); walk_at "mine_ret"; (try dsimp only))
  k_with "mine_lt" => first | (refine LoA.allLt ?_; (try dsimp only [adr_cons, adr_nil, adr_consA, adr_nilA]); with_reducible assumption) | (refine' LoA.ltSuf ?hZs ?mZs; (case hZs => with_reducible assumption); (case mZs => with_reducible (intro _ hq; (repeat (first | exact hq | refine List.mem_cons_of_mem _ ?_)); done))) | exact allLt_nil | (refine allLt_cons ?mltZ ?_; (case mltZ => first | with_reducible assumption | (refine' LoA.lt ?hZq ?mZq; (case hZq => with_reducible assumption); (case mZq => ((first | ((repeat (with_reducible (first | exact adr_hd | refine adr_tl ?_ | exact List.mem_cons_self | refine List.mem_cons_of_mem _ ?_))); done) | ((with_reducible show @Membership.mem _ _ _ _ (@OfNat.ofNat _ (nat_lit 51) _)); k_dflt ((repeat (first | exact adr_hd | refine adr_tl ?_ | exact List.Mem.head _ | refine List.Mem.tail _ ?_)); done)))))) | (refine' LoA.ltS ?hZq ?mZq; (case hZq => with_reducible assumption); (case mZq => ((first | ((repeat (with_reducible (first | exact adr_hd | refine adr_tl ?_ | exact List.mem_cons_self | refine List.mem_cons_of_mem _ ?_))); done) | ((with_reducible show @Membership.mem _ _ _ _ (@OfNat.ofNat _ (nat_lit 51) _)); k_dflt ((repeat (first | exact adr_hd | refine adr_tl ?_ | exact List.Mem.head _ | refine List.Mem.tail _ ?_)); done))))))); walk_at "mine_lt")
  k_with "UnrEndW" => k_dflt (first | (refine' unr_end2 ?F_27 ?N_27 ?l_27 ?k_27 ?_; (case F_27 => k_asm); (case N_27 => k_asm); (case l_27 => walk_at "mine_lt"); (case k_27 => k_subL)) | (refine' unr_end1 ?F_27 ?N_27 ?l_27 ?k_27 ?_; (case F_27 => k_asm); (case N_27 => k_asm); (case l_27 => walk_at "mine_lt"); (case k_27 => k_subL)))
  k_with "getItem ref int" => (k_here; (with_reducible show wpAny _ _ (getItem (Value.ref _) (Value.int _ _)) _ _ _); k_dflt (refine' get_here ?N_28 ?m_28 ?a_28 ?b_28 ?x_28 ?_; (case N_28 => k_asm); (case m_28 => k_mem); (case a_28 => decide); (case b_28 => decide); (case x_28 => rfl); k_whole))
  k_with "subscriptTail" => (k_here; (with_reducible show wpAny _ _ (subscriptTail _ _ (Value.ref _) (Value.int _ _)) _ _ _); with_unfolding_all (first | (refine' item_tupleT ?t_29 ?a_29 ?b_29 ?c_29 ?d_29 ?_ ?e_29; (case t_29 => exact News.isTup (by k_asm) (by k_mem)); (case a_29 => decide); (case b_29 => decide); (case c_29 => rfl); (case d_29 => rfl); (case e_29 => with_unfolding_all rfl); k_whole) | (refine' sub_here ?N_29 ?m_29 ?k2_29 ?k3_29 ?k4_29 ?_ ?k6_29; (case N_29 => k_asm); (case m_29 => k_mem); (case k2_29 => decide); (case k3_29 => decide); (case k4_29 => rfl); (case k6_29 => with_unfolding_all rfl); k_whole)))
  k_with "setItem ref int" => (k_here; k_dflt (refine' ki_set ?F_30 ?N_30 ?a_30 ?b_30 ?e_30 ?U_30 ?_; (case F_30 => k_asm); (case N_30 => k_asm); (case U_30 => k_upd); (case a_30 => decide); (case b_30 => decide); (case e_30 => rfl)); ki_rest; (try dsimp only))
  k_with "binaryOp Mult ref int" => (k_here; (with_reducible show wpAny _ _ (binaryOp Operator.Mult (Value.ref _) (Value.int _ _)) _ _ _); k_dflt (refine' KMa.mul ?F_31 ?N_31 ?l_31 ?lo_31 ?hi_31 ?z_31 ?e_31 ?_; (case F_31 => k_asm); (case N_31 => k_asm); (case l_31 => is_list); (case lo_31 => first | omega | decide); (case hi_31 => first | omega | decide); (case z_31 => (simp only [List.length_cons, List.length_nil]; decide)); (case e_31 => (simp only [Int.reduceMul, Int.reduceSub, Int.reduceAdd, Int.reduceToNat, List.replicate_succ, List.replicate_zero, List.flatten_cons, List.flatten_nil, List.cons_append, List.nil_append, List.append_nil]; first | done | exact rfl)); k_whole); intro D9' h9' F9' N9' l19; (try k_lt l19); (try k_sweep); (try dsimp only))
  k_with "execs cons" => ((try dsimp only); (try k_extra "mine_fold"); first | (refine let_one ?_; intro s7 Qk) | (refine let_cons ?_; intro s7 Qk Qk))
  k_with "eval Constant int" => (refine wpAny_Constant_int ?_; (try dsimp only))
  k_with "newList" => (k_here; k_dflt (refine' newList_K ?k1 ?k2 ?_; (case k1 => k_asm); (case k2 => k_asm); k_whole); intro l9' h9' F9' N9' l19; (try k_lt l19); (try k_sweep); (try dsimp only))
  k_with "mine_ne" => k_dflt (refine neN ?_; (try dsimp only); first | (with_reducible assumption) | (refine' LoA.ne ?hZq ?mZq; (case hZq => with_reducible assumption); (case mZq => ((first | ((repeat (with_reducible (first | exact adr_hd | refine adr_tl ?_ | exact List.mem_cons_self | refine List.mem_cons_of_mem _ ?_))); done) | ((with_reducible show @Membership.mem _ _ _ _ (@OfNat.ofNat _ (nat_lit 51) _)); k_dflt ((repeat (first | exact adr_hd | refine adr_tl ?_ | exact List.Mem.head _ | refine List.Mem.tail _ ?_)); done)))))) | (refine' LoA.ne' ?hZq ?mZq; (case hZq => with_reducible assumption); (case mZq => ((first | ((repeat (with_reducible (first | exact adr_hd | refine adr_tl ?_ | exact List.mem_cons_self | refine List.mem_cons_of_mem _ ?_))); done) | ((with_reducible show @Membership.mem _ _ _ _ (@OfNat.ofNat _ (nat_lit 51) _)); k_dflt ((repeat (first | exact adr_hd | refine adr_tl ?_ | exact List.Mem.head _ | refine List.Mem.tail _ ?_)); done)))))) | (refine' OffA.ne ?hZq ?mZq; (case hZq => with_reducible assumption); (case mZq => ((first | ((repeat (with_reducible (first | exact adr_hd | refine adr_tl ?_ | exact List.mem_cons_self | refine List.mem_cons_of_mem _ ?_))); done) | ((with_reducible show @Membership.mem _ _ _ _ (@OfNat.ofNat _ (nat_lit 51) _)); k_dflt ((repeat (first | exact adr_hd | refine adr_tl ?_ | exact List.Mem.head _ | refine List.Mem.tail _ ?_)); done)))))) | (refine' OffA.ne' ?hZq ?mZq; (case hZq => with_reducible assumption); (case mZq => ((first | ((repeat (with_reducible (first | exact adr_hd | refine adr_tl ?_ | exact List.mem_cons_self | refine List.mem_cons_of_mem _ ?_))); done) | ((with_reducible show @Membership.mem _ _ _ _ (@OfNat.ofNat _ (nat_lit 51) _)); k_dflt ((repeat (first | exact adr_hd | refine adr_tl ?_ | exact List.Mem.head _ | refine List.Mem.tail _ ?_)); done)))))) | (refine' LoA.neS ?hZq ?mZq; (case hZq => with_reducible assumption); (case mZq => ((first | ((repeat (with_reducible (first | exact adr_hd | refine adr_tl ?_ | exact List.mem_cons_self | refine List.mem_cons_of_mem _ ?_))); done) | ((with_reducible show @Membership.mem _ _ _ _ (@OfNat.ofNat _ (nat_lit 51) _)); k_dflt ((repeat (first | exact adr_hd | refine adr_tl ?_ | exact List.Mem.head _ | refine List.Mem.tail _ ?_)); done)))))) | (refine' LoA.neS' ?hZq ?mZq; (case hZq => with_reducible assumption); (case mZq => ((first | ((repeat (with_reducible (first | exact adr_hd | refine adr_tl ?_ | exact List.mem_cons_self | refine List.mem_cons_of_mem _ ?_))); done) | ((with_reducible show @Membership.mem _ _ _ _ (@OfNat.ofNat _ (nat_lit 51) _)); k_dflt ((repeat (first | exact adr_hd | refine adr_tl ?_ | exact List.Mem.head _ | refine List.Mem.tail _ ?_)); done)))))) | (refine' LoA.neT ?hZq ?mZq; (case hZq => with_reducible assumption); (case mZq => ((first | ((repeat (with_reducible (first | exact adr_hd | refine adr_tl ?_ | exact List.mem_cons_self | refine List.mem_cons_of_mem _ ?_))); done) | ((with_reducible show @Membership.mem _ _ _ _ (@OfNat.ofNat _ (nat_lit 51) _)); k_dflt ((repeat (first | exact adr_hd | refine adr_tl ?_ | exact List.Mem.head _ | refine List.Mem.tail _ ?_)); done)))))) | (refine' LoA.neT' ?hZq ?mZq; (case hZq => with_reducible assumption); (case mZq => ((first | ((repeat (with_reducible (first | exact adr_hd | refine adr_tl ?_ | exact List.mem_cons_self | refine List.mem_cons_of_mem _ ?_))); done) | ((with_reducible show @Membership.mem _ _ _ _ (@OfNat.ofNat _ (nat_lit 51) _)); k_dflt ((repeat (first | exact adr_hd | refine adr_tl ?_ | exact List.Mem.head _ | refine List.Mem.tail _ ?_)); done)))))) | exact neS_self | exact neS_self' | k_extra "mine_om")
  k_with "mine_om" => ((try simp only [LoA.cons_iff, LoA.nil_iff, and_true] at *); omega)
  walk_at "mine_reg"
  obtain ⟨B, F, X, N, T, hk, G, TB, n51, hdp, hun⟩ := S
  obtain ⟨ha1, ⟨ae1, ae2, ae3, ae4, ae5, ae6, ae7, ha2⟩, ha3, ⟨aq1, aq2, ha4⟩, ⟨ar1, ar2, ha5⟩, at1, at2, ak, ha6⟩ := ha
  obtain ⟨hb1, ⟨be1, be2, be3, be4, be5, be6, be7, hb2⟩, hb3, ⟨bq1, bq2, hb4⟩, ⟨br1, br2, hb5⟩, bt1, bt2, bk, hb6⟩ := hb
  have Nr : News h₀ L s.heap news := fun q hq => N q (.tail _ hq)
  let R6 : List (Addr × Obj) := [(ax, instObj 192 ad), (ad, fqDict w.params ae1 ae2 ae3 ae4 ae5 ae6 ae7 aml acf amt n), (aml, LCg.lst [.ref amp]), (amp, { cls := .type "tuple", data := .seq #[.int 0 aq1, .int 1 aq2] }), (acf, { cls := .type "tuple", data := .seq #[.int x ar1, .int y ar2] }), (amt, { cls := .type "tuple", data := .seq #[.int 1 at1, .int 0 at2] ak }), (bx, instObj 192 bd), (bd, fqDict w.params be1 be2 be3 be4 be5 be6 be7 bml bcf bmt n), (bcf, { cls := .type "tuple", data := .seq #[.int x' br1, .int y' br2] })]
  have hs6 : ∀ q ∈ R6, q ∈ news := (List.forall_mem_cons.mpr ⟨ha1, (List.forall_mem_cons.mpr ⟨ha2, (List.forall_mem_cons.mpr ⟨ha3, (List.forall_mem_cons.mpr ⟨ha4, (List.forall_mem_cons.mpr ⟨ha5, (List.forall_mem_cons.mpr ⟨ha6, (List.forall_mem_cons.mpr ⟨hb1, (List.forall_mem_cons.mpr ⟨hb2, (List.forall_mem_cons.mpr ⟨hb5, (fun _ h => nomatch h)⟩)⟩)⟩)⟩)⟩)⟩)⟩)⟩)⟩)
  have N1 : News h₀ L s.heap ((51, tb) :: R6) := fun q hq => (List.mem_cons.mp hq).elim (fun e => e ▸ N _ (.head _)) (fun hq => Nr q (hs6 q hq))
  have hg6 : ∀ q ∈ R6, s.heap.get? q.1 = some q.2 := fun q hq => (Nr q (hs6 q hq)).1
  have h516 : ∀ q ∈ R6, q.1 ≠ 51 := fun q hq => n51 q (hs6 q hq)
  have ne0 := neN (n51 _ ha1)
  have ne1 := neN (n51 _ ha2)
  have ne2 := neN (n51 _ ha3)
  have ne3 := neN (n51 _ ha4)
  have ne4 := neN (n51 _ ha5)
  have ne5 := neN (n51 _ ha6)
  have ne6 := neN (n51 _ hb1)
  have ne7 := neN (n51 _ hb2)
  have ne8 := neN (n51 _ hb5)
  dsimp only at ne0 ne1 ne2 ne3 ne4 ne5 ne6 ne7 ne8
  refine wpAny_call ?_
  clear N
  k_dflt (walk_at "mine_enterC")
  clear N1
  refine let_entry ?_
  intro M9 A9 e9 E9 Qk
  k_extra "mine_fold"
  w_strict (repeat' (k_extra "mine_step"))
  rename Based0 _ _ _ _ => hB0
  rename Fr _ _ _ m => kF
  rename News h₀ L _ _ => kN
  have Nr2 := rest_end hB0 (by assumption) Nr kN n51 hg6 (fun q hq => by (repeat (first | exact hq | refine List.Mem.tail _ ?_)))
  have hsz : @LE.le Nat _ s.heap.objs.size _ := hB0.2
  simp only [Int.zero_add, Int.mul_one, ff (Int.lt_trans Int.zero_lt_one h2)] at kN
  refine' hret _ _ _ _ _ _ _ _ _ _ _ _ _ _ _ _ _ _ _ _ ?G ?T kF (news_cons kN ?m1 (news_cons kN ?m2 (news_cons kN ?m3 (news_cons kN ?m4 (news_cons kN ?m5 (news_cons kN ?m6 Nr2)))))) ?o1 ?o2 ?o3 ?o4 ?o5
  case m1 => k_mem
  case m2 => k_mem
  case m3 => k_mem
  case m4 => k_mem
  case m5 => k_mem
  case m6 => k_mem
  case G => assumption
  case T => assumption
  case o1 =>
    intro u hu
    rcases List.mem_cons.mp hu with r | hu
    · subst r
      refine ltN ?_
      (first | omega | k_extra "mine_om")
    · have hu1 : @LT.lt Nat _ u.1 s.heap.objs.size := Heap.lt_size (Nr u hu).1
      refine ltN ?_
      (first | omega | k_extra "mine_om")
  all_goals (refine ltN ?_; (first | omega | k_extra "mine_om"))
end
end C4_part
/-! C5 -/
section C5_part
open PySem PySem.W PyProof.Rows PySem.Calls

section
variable {w : World} {p : Program} {loose : List Str} {mean : ExcName → Option Value} {mg mb : Str → Option Value} {dp un : Nat} {gd : Option (List Code)} {cn : Str} {cs : Scope} {a : Addr} {ccd : Value} {cl : List (Str × Addr)} {outer : List Env} {A₀ : Around} {base h₀ : Heap} {L : Addr} {m : Str → Option Value} {tb : Obj} {news : List (Addr × Obj)} {s : Shared} {Q E : Value → Shared → Prop}
set_option maxRecDepth 100000 in
set_option maxHeartbeats 1000000 in
theorem deg3 {l : Addr} {k : Nat} {x0 x1 x2 : Int} {t0 t1 t2 : Tok} (B : Below A₀ base outer h₀) (F : Fr h₀ L s.heap m) (X : (hd.heap_1 w.params).In h₀) (N : News h₀ L s.heap news) (T : Top p loose mean mg mb h₀) (hk : cs.kind = .function)
    (hl : (l, ({ cls := .type "list", data := .seq #[.int x0 t0, .int x1 t1, .int x2 t2] k } : Obj)) ∈ news) (hdp : dp + 1 < recursionLimit) (hu : un + 8 < cLine)
    (hret : ∀ (d : Int) (t : Tok) h' tk', Fr h₀ L h' m → News h₀ L h' news → (x2 ≠ 0 ∧ d = 2) ∨ (x2 = 0 ∧ x1 ≠ 0 ∧ d = 1) ∨ (x2 = 0 ∧ x1 = 0 ∧ d = 0) → Q (.int d t) { s with heap := h', toks := tk' }) :
    wpAny (model PySem.Challenge.rw_kh0013_01.row.prog w) (ktrTop dp un gd cn cs L a ccd cl outer) (call (.ref 42) [.ref l]) Q E s := by
  k_with_none
  k_with "storeName" => (k_here; k_dflt (refine' storeX_L2 ?Fst ?Nst ?_ ?ast ?bst; (case Fst => k_asm); (case Nst => k_asm); (case ast => rfl); (case bst => rfl); k_whole); intro m7 n7 h9' F7 N7; (try k_sweep))
  k_with "mine_fold" => first | (have F8 := F7; have N8 := N7; clear F8 N8) | (rename Fr _ _ _ _ => F7; rename News _ _ _ _ => N7; revert F7 N7; refine let_FN ?_; intro m7 n7 F7 N7)
  k_with "mine_step" => (first | (with_reducible show Qk _ _; dsimp only [Qk]; clear Qk) | (k_unfold; (try dsimp only)) | (k_end; kc_close) | walk1 | (dsimp only; walk1) | (leave1; walk_say "STEP leave1"; (try dsimp only)))
  k_with "mine_lo" => skip
  k_with "CompRest" => (with_unfolding_all first | (refine LCg.CompRest.succ ?_; intro v9' I9' oI9' C9' oC9' D9' m9' h9' tk9' E9' hv9' hC9' hx9' F9' N9' off9' ne9'; (first | lcg_open hv9' | (obtain ⟨t99', hv99'⟩ := hv9'; subst hv99'))) | refine LCg.CompRest.zero ?_)
  k_with "CompEnd" => (k_here; (refine' LCg.CompEnd.intro ?F_1 ?N_1 _ (fun p hp => hp) ?off_1 ?S_1 ?_); (case F_1 => k_asm); (case N_1 => k_asm); (case off_1 => assumption); (case S_1 => exact Or.inr ⟨_, by k_mem, rfl, _, rfl⟩))
  k_with "FinE" => ((unfold LCg.FinE); intro D9' h9' tk9' F9' N9' o19'; k_dflt (replace o19' := OffA.of o19'; (try dsimp only [adr_cons, adr_nil, adr_consA, adr_nilA] at o19')); (try simp only [List.nil_append, List.cons_append] at N9'); (try dsimp only))
  k_with "eval ListComp" => (k_here; k_dflt (refine LCg.ListComp_U (F₀ := by k_asm) (by with_unfolding_all rfl) (by decide) (by rfl) (by decide) (by rfl) ?_); k_dflt lcg_toSrc)
  k_with "CompSrc" => (k_here; k_dflt (refine LCg.CompSrc.ledger (by rfl) (by k_asm) (by k_asm) (by k_mem) (by first | size_fits | exact Nat.le_of_ble_eq_true rfl) ?_; intro g9'; lcg_lit))
  k_with "exec For Name Call cons nil" => (k_here; (rename Fr _ _ _ _ => lF9'); (with_unfolding_all refine' For_turns lF9' ?_; k_whole))
  k_with "pyIter ref" => (k_here; (with_reducible show wpAny _ _ (pyIter (Value.ref _)) (fun it s₂ => TurnsAt _ _ _ _ _ _ _ _ _ it s₂) _ _); (with_reducible rename IsRange _ _ _ _ _ _ _ _ => rX9'); with_unfolding_all (first | (refine' range_turns (xs := [Itm.tok (fun t => Value.int (0 : Int) t)]) ?hh_6 ?F_6 ?N_6 rX9' ?sm_6 ?hn_6 ?hx_6 ?_; (case hn_6 => decide +kernel); (case sm_6 => decide +kernel); (case hx_6 => rfl)) | (refine' range_turns (xs := [Itm.tok (fun t => Value.int (1 : Int) t), Itm.tok (fun t => Value.int (0 : Int) t)]) ?hh_6 ?F_6 ?N_6 rX9' ?sm_6 ?hn_6 ?hx_6 ?_; (case hn_6 => decide +kernel); (case sm_6 => decide +kernel); (case hx_6 => rfl)) | (refine' range_turns (xs := [Itm.tok (fun t => Value.int (0 : Int) t), Itm.tok (fun t => Value.int (1 : Int) t)]) ?hh_6 ?F_6 ?N_6 rX9' ?sm_6 ?hn_6 ?hx_6 ?_; (case hn_6 => decide +kernel); (case sm_6 => decide +kernel); (case hx_6 => rfl)) | (refine' range_turns (xs := [Itm.tok (fun t => Value.int (0 : Int) t), Itm.tok (fun t => Value.int (1 : Int) t), Itm.tok (fun t => Value.int (2 : Int) t)]) ?hh_6 ?F_6 ?N_6 rX9' ?sm_6 ?hn_6 ?hx_6 ?_; (case hn_6 => decide +kernel); (case sm_6 => decide +kernel); (case hx_6 => rfl)) | (refine' range_turns (xs := [Itm.tok (fun t => Value.int (2 : Int) t), Itm.tok (fun t => Value.int (1 : Int) t), Itm.tok (fun t => Value.int (0 : Int) t)]) ?hh_6 ?F_6 ?N_6 rX9' ?sm_6 ?hn_6 ?hx_6 ?_; (case hn_6 => decide +kernel); (case sm_6 => decide +kernel); (case hx_6 => rfl)) | (refine' range_turns (xs := []) ?hh_6 ?F_6 ?N_6 rX9' ?sm_6 ?hn_6 ?hx_6 ?_; (case hn_6 => decide +kernel); (case sm_6 => decide +kernel); (case hx_6 => rfl))); (case hh_6 => rfl); (case F_6 => k_asm); (case N_6 => k_asm); clear rX9'; intro i9' l19; (try k_lt l19))
  k_with "call type:enumerate" => (k_here; k_dflt (refine' enum_make ?F_7 ?N_7 ?m_7 ?_); (case F_7 => k_asm); (case N_7 => k_asm); (case m_7 => k_mem); intro e9' h9' F9' N9' eX9'; (try k_sweep); (try dsimp only))
  k_with "call type:enumerate" => (k_here; (with_reducible show wpAny _ _ (call (Value.type _) [Value.ref _]) (fun xv s₁ => wpAny _ _ (pyIter xv) (fun it s₂ => TurnsAt _ _ _ _ _ _ _ _ _ it s₂) _ s₁) _ _); with_unfolding_all (refine' enum_turns (vs := [_, _]) (xs := [Itm.pair (fun t => Value.int (0 : Int) t) _, Itm.pair (fun t => Value.int (1 : Int) t) _]) ?hh_8 ?F_8 ?N_8 ?hm_8 ?hc_8 ?hd_8 ?hx_8 ?_; (case hh_8 => rfl); (case F_8 => k_asm); (case N_8 => k_asm); (case hm_8 => k_mem); (case hc_8 => rfl); (case hd_8 => rfl); (case hx_8 => rfl)); intro i9' l19; (try k_lt l19); (try dsimp only))
  k_with "call type:list" => (k_here; (rename EnumF _ _ _ _ _ _ _ => eX9'); k_dflt (refine' enum_list ?hh_9 ?F_9 ?N_9 eX9' ?_); (case hh_9 => rfl); (case F_9 => k_asm); (case N_9 => k_asm); intro S9' T19' T29' k19' k29' c9' h9' tk9' F9' N9' l19 l29 l39; clear eX9'; (try k_lt l19); (k_lt2 l29); (have l29 := LoA.tr l19 l29); (k_lt2 l39); (have l39 := LoA.tr l29 l39); (try k_sweep); (try dsimp only))
  k_with "exec For Tuple Call cons nil" => (k_here; (rename Fr _ _ _ _ => lF9'); (with_unfolding_all refine' For_turns lF9' ?_; k_whole))
  k_with "exec For Tuple Attribute cons nil" => (k_here; (rename Fr _ _ _ _ => lF9'); (with_unfolding_all refine' For_turns lF9' ?_; k_whole))
  k_with "mine_enterC" => (refine' enter_defC ?k1_12 ?k2_12 ?k3_12 ?k4_12 ?k5_12 ?kA_12 ?kF_12 ?kK_12 ?k6_12 ?k7_12 ?k8_12 ?k9_12 ?kB_12 ?kD_12 ?_ ?c2_12 ?c3_12 ?c4_12; (case kA_12 => exact rfl); (case kF_12 => exact rfl); (case kK_12 => first | exact rfl | assumption); (case k1_12 => k_asm); (case k2_12 => k_asm); (case k3_12 => k_asm); (case k4_12 => k_asm); (case k5_12 => k_asm); (case k6_12 => k_is); (case k7_12 => k_is); (case k8_12 => ktr_room); (case k9_12 => exact BindsTo.of_eq rfl); (case kB_12 => exact rfl); (case kD_12 => decide +kernel); (case c2_12 => exact rfl); (case c3_12 => exact rfl); (case c4_12 => exact rfl); k_whole; intro g9' L9' h9' tk9' cells9' FG9' F9' N9' Y9' B9' X9' T9' l19 hBs; (try k_lt l19); k_cells Y9'; (try simp only [List.cons_append, List.nil_append] at N9'); (try dsimp only); (try k_lift B9'); (try k_fold))
  k_with "eval ListComp" => (k_here; (with_reducible show wpAny _ _ (eval (PySem.Expr.ListComp (PySem.Expr.Tuple _ _ _) _ _ _) _) _ _ _); k_dflt (refine mc_comp (by with_unfolding_all rfl) (by with_unfolding_all rfl) (by decide) (by rfl) (by decide) (by rfl) (by rfl) (by decide) (by decide) (by decide) ?_))
  k_with "call type:enumerate" => (k_here; (with_reducible show wpAny _ _ (call (Value.type _) [Value.ref _]) (McSrc _) _ _); k_dflt (refine' mc_call ?F_14 ?N_14 ?m_14 ?_; (case F_14 => k_asm); (case N_14 => k_asm); (case m_14 => k_mem)); intro D9' T9' ti9' h9' tk9' F9' N9' l19 l29; (try k_lt l19); (k_lt2 l29); (have l29 := LoA.tr l19 l29); (try k_sweep); (try dsimp only))
  k_with "mine_split" => first | exact Split.here | (apply Split.skip; walk_at "mine_split")
  k_with "eval GeneratorExp" => (k_here; k_dflt (refine' gen_make ?F_16 (Split.toNews ?N_16 ?sp_16) ?h51_16 ?tb_16 ?G_16 ?X_16 ?T_16 ?hh_16 ?hcode_16 ?hgl_16 ?room_16 ?hek_16 ?hey_16 ?hdy_16 ?hvy_16 ?hml_16 ?hmc_16 ?hoc_16 ?hms_16 ?hmd_16 ?hfm_16 ?hq_16 ?hco_16 ?hclos_16 ?hcell_16 ?h0_16 ?hx_16 ?hsn_16 ?hkind_16 ?hdx_16 ?hds_16 ?hdc_16 ?_); (case F_16 => k_asm); (case N_16 => k_asm); (case sp_16 => walk_at "mine_split"); (case h51_16 => k_all); (case tb_16 => assumption); (case G_16 => assumption); (case X_16 => k_asm); (case T_16 => k_asm); (case hh_16 => rfl); (case hcode_16 => rfl); (case hgl_16 => rfl); (case room_16 => ktr_room); (case hek_16 => rfl); (case hey_16 => with_unfolding_all rfl); (case hdy_16 => decide); (case hvy_16 => with_unfolding_all rfl); (case hml_16 => k_mem); (case hclos_16 => with_unfolding_all rfl); (case hmc_16 => k_mem); (case hoc_16 => assumption); (case hms_16 => k_mem); (case hmd_16 => k_mem); (case hfm_16 => k_get); (case hq_16 => omega); (case hco_16 => rfl); (case hcell_16 => decide); (case h0_16 => rfl); (case hx_16 => rfl); (case hsn_16 => rfl); (case hkind_16 => rfl); (case hdx_16 => decide); (case hds_16 => decide); (case hdc_16 => decide); intro a9' tb9' h9' g9' tk9' G9' TB9' F9' N9' X9'; (try k_sweep))
  k_with "call type:tuple" => (k_here; k_dflt (refine' call_tuple_tup ?T_17 ?_); (case T_17 => exact News.isTup (by k_asm) (by k_mem)); (try dsimp only))
  k_with "call type:tuple" => (k_here; (rename GenR _ _ _ _ _ _ _ _ _ _ => gX9'); k_dflt (refine' gen_tuple ?F_18 ?N_18 ?G_18 gX9' ?_); (case F_18 => k_asm); (case N_18 => k_asm); (case G_18 => assumption); intro D9' t19' t29' h9' g9' tk9' G9' F9' N9' l19; clear gX9'; (try k_lt l19); (try k_sweep))
  k_with "mine_reg" => (w_on; (have _h : (PySem.Challenge.rw_kh0013_01 = PySem.Challenge.rw_kh0013_01) ∧ (Mine.hd.heap_1 = Mine.hd.heap_1) := by (k_fill; exact ⟨rfl, rfl⟩)); clear _h)
  k_with "mine_enter" => (refine' enter_def ?k1_20 ?k2_20 ?k3_20 ?k4_20 ?k5_20 ?kA_20 ?kF_20 ?kK_20 ?k6_20 ?k7_20 ?k8_20 ?k9_20 ?kB_20 ?_ ?c2_20 ?c3_20 ?c4_20 ?c5_20; (case kA_20 => exact rfl); (case kF_20 => exact rfl); (case kK_20 => first | exact rfl | assumption); (case k1_20 => k_asm); (case k2_20 => k_asm); (case k3_20 => k_asm); (case k4_20 => k_asm); (case k5_20 => k_asm); (case k6_20 => k_is); (case k7_20 => k_is); (case k8_20 => ktr_room); (case k9_20 => exact BindsTo.of_eq rfl); (case c5_20 => decide); (case kB_20 => exact locs rfl); (case c2_20 => exact rfl); (case c3_20 => exact rfl); (case c4_20 => exact rfl); k_whole; intro g9' L9' h9' FG9' F9' N9' B9' X9' T9' hBs; (try dsimp only); (try k_lift B9'); (try k_fold))
  k_with "mine_sit" => (refine' Sit.mk ?B_21 ?F_21 ?X_21 (Split.toNews ?N_21 ?sp_21) ?T_21 ?hk_21 ?G_21 ?TB_21 ?n51_21 ?hdp_21 ?hun_21; (case B_21 => k_asm); (case F_21 => k_asm); (case X_21 => k_asm); (case N_21 => k_asm); (case sp_21 => walk_at "mine_split"); (case T_21 => k_asm); (case hk_21 => first | exact rfl | assumption); (case G_21 => assumption); (case TB_21 => assumption); (case n51_21 => first | assumption | k_all); (case hdp_21 => ktr_room); (case hun_21 => ktr_units))
  k_with "mine_ret" => (intro x9' d9' ml9' mp9' cf9' tb9' h9' g9' tk9' e19' e29' e39' e49' e59' e69' e79' q19' q29' r19' r29' G9' TB9' F9' N9' l19 l29 l39 l49 l59; (try k_lt l19); (k_lt2 l29); (have l29 := LoA.tr l19 l29); (k_lt2 l39); (have l39 := LoA.tr l29 l39); (k_lt2 l49); (have l49 := LoA.tr l39 l49); (k_lt2 l59); (have l59 := LoA.tr l49 l59); (try k_sweep); (try dsimp only))
  k_with "call ref" => (k_here; (with_reducible show wpAny _ _ (call (Value.ref 192) _) _ _ _); k_dflt (refine' mkS ?S_23 ?hlc_23 ?hmt_23 ?h2_23 ?h3_23 ?_); (case S_23 => walk_at "mine_sit"); (case hlc_23 => k_mem); (case hmt_23 => k_mem); (case h2_23 => first | assumption | omega); (case h3_23 => first | assumption | omega); walk_at "mine_ret"; (try dsimp only))
  k_with "mine_fq" => (refine' And.intro ?f1_24 (And.intro (Exists.intro _ (Exists.intro _ (Exists.intro _ (Exists.intro _ (Exists.intro _ (Exists.intro _ (Exists.intro _ ?f2_24))))))) (And.intro ?f3_24 (And.intro (Exists.intro _ (Exists.intro _ ?f4_24)) (And.intro (Exists.intro _ (Exists.intro _ ?f5_24)) (Exists.intro _ (Exists.intro _ (Exists.intro _ ?f6_24))))))); (case f1_24 => k_mem); (case f2_24 => k_mem); (case f3_24 => k_mem); (case f4_24 => k_mem); (case f5_24 => k_mem); (case f6_24 => k_mem))
  k_with "call ref" => (k_here; (with_reducible show wpAny _ _ (call (Value.ref 181) _) _ _ _); k_dflt (refine' made ?S_25 ?hS_25 ?hlc_25 ?h2_25 ?h3_25 ?_); (case S_25 => walk_at "mine_sit"); (case hS_25 => walk_at "mine_fq"); (case hlc_25 => k_mem); (case h2_25 => first | assumption | omega); (case h3_25 => first | assumption | omega); walk_at "mine_ret"; (try dsimp only))
  k_with "mine_lt" => first | (refine LoA.allLt ?_; (try dsimp only [adr_cons, adr_nil, adr_consA, adr_nilA]); with_reducible assumption) | (refine' LoA.ltSuf ?hZs ?mZs; (case hZs => with_reducible assumption); (case mZs => with_reducible (intro _ hq; (repeat (first | exact hq | refine List.mem_cons_of_mem _ ?_)); done))) | exact allLt_nil | (refine allLt_cons ?mltZ ?_; (case mltZ => first | with_reducible assumption | (refine' LoA.lt ?hZq ?mZq; (case hZq => with_reducible assumption); (case mZq => ((first | ((repeat (with_reducible (first | exact adr_hd | refine adr_tl ?_ | exact List.mem_cons_self | refine List.mem_cons_of_mem _ ?_))); done) | ((with_reducible show @Membership.mem _ _ _ _ (@OfNat.ofNat _ (nat_lit 51) _)); k_dflt ((repeat (first | exact adr_hd | refine adr_tl ?_ | exact List.Mem.head _ | refine List.Mem.tail _ ?_)); done)))))) | (refine' LoA.ltS ?hZq ?mZq; (case hZq => with_reducible assumption); (case mZq => ((first | ((repeat (with_reducible (first | exact adr_hd | refine adr_tl ?_ | exact List.mem_cons_self | refine List.mem_cons_of_mem _ ?_))); done) | ((with_reducible show @Membership.mem _ _ _ _ (@OfNat.ofNat _ (nat_lit 51) _)); k_dflt ((repeat (first | exact adr_hd | refine adr_tl ?_ | exact List.Mem.head _ | refine List.Mem.tail _ ?_)); done))))))); walk_at "mine_lt")
  k_with "UnrEndW" => first | (refine' unr_end2 ?F_27 ?N_27 ?l_27 ?k_27 ?_; (case F_27 => k_asm); (case N_27 => k_asm); (case l_27 => walk_at "mine_lt"); (case k_27 => k_subL)) | (refine' unr_end1 ?F_27 ?N_27 ?l_27 ?k_27 ?_; (case F_27 => k_asm); (case N_27 => k_asm); (case l_27 => walk_at "mine_lt"); (case k_27 => k_subL))
  k_with "getItem ref int" => (k_here; (with_reducible show wpAny _ _ (getItem (Value.ref _) (Value.int _ _)) _ _ _); k_dflt (refine' get_here ?N_28 ?m_28 ?a_28 ?b_28 ?x_28 ?_; (case N_28 => k_asm); (case m_28 => k_mem); (case a_28 => decide); (case b_28 => decide); (case x_28 => rfl); k_whole))
  k_with "subscriptTail" => (k_here; (with_reducible show wpAny _ _ (subscriptTail _ _ (Value.ref _) (Value.int _ _)) _ _ _); with_unfolding_all (first | (refine' item_tupleT ?t_29 ?a_29 ?b_29 ?c_29 ?d_29 ?_ ?e_29; (case t_29 => exact News.isTup (by k_asm) (by k_mem)); (case a_29 => decide); (case b_29 => decide); (case c_29 => rfl); (case d_29 => rfl); (case e_29 => with_unfolding_all rfl); k_whole) | (refine' sub_here ?N_29 ?m_29 ?k2_29 ?k3_29 ?k4_29 ?_ ?k6_29; (case N_29 => k_asm); (case m_29 => k_mem); (case k2_29 => decide); (case k3_29 => decide); (case k4_29 => rfl); (case k6_29 => with_unfolding_all rfl); k_whole)))
  k_with "setItem ref int" => (k_here; k_dflt (refine' ki_set ?F_30 ?N_30 ?a_30 ?b_30 ?e_30 ?U_30 ?_; (case F_30 => k_asm); (case N_30 => k_asm); (case U_30 => k_upd); (case a_30 => decide); (case b_30 => decide); (case e_30 => rfl)); ki_rest; (try dsimp only))
  k_with "binaryOp Mult ref int" => (k_here; (with_reducible show wpAny _ _ (binaryOp Operator.Mult (Value.ref _) (Value.int _ _)) _ _ _); k_dflt (refine' KMa.mul ?F_31 ?N_31 ?l_31 ?lo_31 ?hi_31 ?z_31 ?e_31 ?_; (case F_31 => k_asm); (case N_31 => k_asm); (case l_31 => is_list); (case lo_31 => first | omega | decide); (case hi_31 => first | omega | decide); (case z_31 => (simp only [List.length_cons, List.length_nil]; decide)); (case e_31 => (simp only [Int.reduceMul, Int.reduceSub, Int.reduceAdd, Int.reduceToNat, List.replicate_succ, List.replicate_zero, List.flatten_cons, List.flatten_nil, List.cons_append, List.nil_append, List.append_nil]; first | done | exact rfl)); k_whole); intro D9' h9' F9' N9' l19; (try k_lt l19); (try k_sweep); (try dsimp only))
  k_with "exec While BoolOp" => (k_here; k_dflt (refine whl_start 100 ?_))
  k_with "WhlIf" => (first | (refine WhlIf.yes (by with_unfolding_all rfl) ?_) | (refine WhlIf.no (by with_unfolding_all rfl) ?_) | (refine WhlIf.yes (by simp [*]; done) ?_) | (refine WhlIf.no (by simp [*]; done) ?_))
  k_with "execs cons" => ((try dsimp only); (try k_extra "mine_fold"); first | (refine let_one ?_; intro s7 Qk) | (refine let_cons ?_; intro s7 Qk Qk))
  k_with "eval Constant int" => (refine wpAny_Constant_int ?_; (try dsimp only))
  k_with "newList" => (k_here; k_dflt (refine' newList_K ?k1 ?k2 ?_; (case k1 => k_asm); (case k2 => k_asm); k_whole); intro l9' h9' F9' N9' l19; (try k_lt l19); (try k_sweep); (try dsimp only))
  k_with "mine_ne" => k_dflt (refine neN ?_; (try dsimp only); first | (with_reducible assumption) | (refine' LoA.ne ?hZq ?mZq; (case hZq => with_reducible assumption); (case mZq => ((first | ((repeat (with_reducible (first | exact adr_hd | refine adr_tl ?_ | exact List.mem_cons_self | refine List.mem_cons_of_mem _ ?_))); done) | ((with_reducible show @Membership.mem _ _ _ _ (@OfNat.ofNat _ (nat_lit 51) _)); k_dflt ((repeat (first | exact adr_hd | refine adr_tl ?_ | exact List.Mem.head _ | refine List.Mem.tail _ ?_)); done)))))) | (refine' LoA.ne' ?hZq ?mZq; (case hZq => with_reducible assumption); (case mZq => ((first | ((repeat (with_reducible (first | exact adr_hd | refine adr_tl ?_ | exact List.mem_cons_self | refine List.mem_cons_of_mem _ ?_))); done) | ((with_reducible show @Membership.mem _ _ _ _ (@OfNat.ofNat _ (nat_lit 51) _)); k_dflt ((repeat (first | exact adr_hd | refine adr_tl ?_ | exact List.Mem.head _ | refine List.Mem.tail _ ?_)); done)))))) | (refine' OffA.ne ?hZq ?mZq; (case hZq => with_reducible assumption); (case mZq => ((first | ((repeat (with_reducible (first | exact adr_hd | refine adr_tl ?_ | exact List.mem_cons_self | refine List.mem_cons_of_mem _ ?_))); done) | ((with_reducible show @Membership.mem _ _ _ _ (@OfNat.ofNat _ (nat_lit 51) _)); k_dflt ((repeat (first | exact adr_hd | refine adr_tl ?_ | exact List.Mem.head _ | refine List.Mem.tail _ ?_)); done)))))) | (refine' OffA.ne' ?hZq ?mZq; (case hZq => with_reducible assumption); (case mZq => ((first | ((repeat (with_reducible (first | exact adr_hd | refine adr_tl ?_ | exact List.mem_cons_self | refine List.mem_cons_of_mem _ ?_))); done) | ((with_reducible show @Membership.mem _ _ _ _ (@OfNat.ofNat _ (nat_lit 51) _)); k_dflt ((repeat (first | exact adr_hd | refine adr_tl ?_ | exact List.Mem.head _ | refine List.Mem.tail _ ?_)); done)))))) | (refine' LoA.neS ?hZq ?mZq; (case hZq => with_reducible assumption); (case mZq => ((first | ((repeat (with_reducible (first | exact adr_hd | refine adr_tl ?_ | exact List.mem_cons_self | refine List.mem_cons_of_mem _ ?_))); done) | ((with_reducible show @Membership.mem _ _ _ _ (@OfNat.ofNat _ (nat_lit 51) _)); k_dflt ((repeat (first | exact adr_hd | refine adr_tl ?_ | exact List.Mem.head _ | refine List.Mem.tail _ ?_)); done)))))) | (refine' LoA.neS' ?hZq ?mZq; (case hZq => with_reducible assumption); (case mZq => ((first | ((repeat (with_reducible (first | exact adr_hd | refine adr_tl ?_ | exact List.mem_cons_self | refine List.mem_cons_of_mem _ ?_))); done) | ((with_reducible show @Membership.mem _ _ _ _ (@OfNat.ofNat _ (nat_lit 51) _)); k_dflt ((repeat (first | exact adr_hd | refine adr_tl ?_ | exact List.Mem.head _ | refine List.Mem.tail _ ?_)); done)))))) | (refine' LoA.neT ?hZq ?mZq; (case hZq => with_reducible assumption); (case mZq => ((first | ((repeat (with_reducible (first | exact adr_hd | refine adr_tl ?_ | exact List.mem_cons_self | refine List.mem_cons_of_mem _ ?_))); done) | ((with_reducible show @Membership.mem _ _ _ _ (@OfNat.ofNat _ (nat_lit 51) _)); k_dflt ((repeat (first | exact adr_hd | refine adr_tl ?_ | exact List.Mem.head _ | refine List.Mem.tail _ ?_)); done)))))) | (refine' LoA.neT' ?hZq ?mZq; (case hZq => with_reducible assumption); (case mZq => ((first | ((repeat (with_reducible (first | exact adr_hd | refine adr_tl ?_ | exact List.mem_cons_self | refine List.mem_cons_of_mem _ ?_))); done) | ((with_reducible show @Membership.mem _ _ _ _ (@OfNat.ofNat _ (nat_lit 51) _)); k_dflt ((repeat (first | exact adr_hd | refine adr_tl ?_ | exact List.Mem.head _ | refine List.Mem.tail _ ?_)); done)))))) | exact neS_self | exact neS_self' | k_extra "mine_om")
  k_with "mine_om" => ((try simp only [LoA.cons_iff, LoA.nil_iff, and_true] at *); omega)
  walk_at "mine_reg"
  refine wpAny_call ?_
  k_dflt (walk_at "mine_enter")
  clear N
  refine let_entry ?_
  intro M9 A9 e9 E9 Qk
  k_extra "mine_fold"
  w_strict (repeat' (k_extra "mine_step"))
  all_goals
    rename Fr _ _ _ m => kF
    rename News h₀ L _ _ => kN
    refine hret _ _ _ _ kF kN ?_
    (first | omega | k_extra "mine_om")
end
end C5_part
/-! C6 -/
section C6_part
open PySem PySem.W PyProof.Rows PySem.Calls
section
variable {w : World} {p : Program} {loose : List Str} {mean : ExcName → Option Value} {mg mb : Str → Option Value} {dp un : Nat} {gd : Option (List Code)} {cn : Str} {cs : Scope} {a : Addr} {ccd : Value} {cl : List (Str × Addr)} {outer : List Env} {A₀ : Around} {base h₀ : Heap} {L : Addr} {m : Str → Option Value} {tb : Obj} {news : List (Addr × Obj)} {s : Shared} {Q E : Value → Shared → Prop}
theorem pfiS {x n : Int} {t tn : Tok} (B : Below A₀ base outer h₀) (F : Fr h₀ L s.heap m) (X : (hd.heap_1 w.params).In h₀) (N : News h₀ L s.heap news) (T : Top p loose mean mg mb h₀) (hk : cs.kind = .function)
    (h0 : 1 ≤ x) (h1 : x < n) (h2 : n < 1000) (hg : Int.gcd x n = 1) (hdp : dp + 1 < recursionLimit) (hu : un + 8 < cLine)
    (hret : ∀ (r : Int) (t : Tok) h' tk', Fr h₀ L h' m → News h₀ L h' news → 0 ≤ r ∧ r < n ∧ (r * x) % n = 1 → Q (.int r t) { s with heap := h', toks := tk' }) :
    wpAny (model PySem.Challenge.rw_kh0013_01.row.prog w) (ktrTop dp un gd cn cs L a ccd cl outer) (call (.ref 35) [.int x t, .int n tn]) Q E s :=
  pfi w p loose mean mg mb x n t tn news dp un gd cn cs a ccd cl outer A₀ base h₀ L m s Q E B F X N T hk h0 h1 h2 hg hdp hu hret
theorem pfi_ne {r x n : Int} (h : 0 ≤ r ∧ r < n ∧ (r * x) % n = 1) : 1 ≤ r := by
  have : r ≠ 0 := by
    rintro rfl
    simp at h
  omega
def PfiR (r x n : Int) : Prop := 0 ≤ r ∧ r < n ∧ (r * x) % n = 1
theorem PfiR.fx {r x n : Int} (h1 : 1 < n) (h : PfiR r x n) : 0 ≤ r.fmod n ∧ r.fmod n < n ∧ (r.fmod n * x) % n = 1 := by
  have e : r.fmod n = r := by rw [Int.fmod_eq_emod_of_nonneg _ (by omega)]; exact Int.emod_eq_of_lt h.1 h.2.1
  rw [e]; exact h
theorem fresh_after {h h' g h₀ : Heap} {L L' D : Addr} {o : Obj} {closed rest l : List (Addr × Obj)} (hB : Based0 h closed g L') (Nc : News g L' h' l) (hD : (D, o) ∈ l) (off : ∀ q ∈ closed, q.1 ≠ D) (Nr : News h₀ L h rest) : ∀ p ∈ rest, p.1 ≠ D := by
  intro p hp e
  by_cases hq : ∃ q ∈ closed, q.1 = p.1
  · obtain ⟨q, hq, e2⟩ := hq
    exact off q hq (e2.trans e)
  · have h1 := hB.1 _ _ (Nr p hp).1 fun q hq' e2 => hq ⟨q, hq', e2⟩
    have h2 := (Nc _ hD).2.2
    rw [e] at h1
    rw [h1] at h2
    cases h2
theorem fresh_all {h h' g h₀ : Heap} {L L' D : Addr} {o tb : Obj} {closed rest l : List (Addr × Obj)} (hB : Based0 h closed g L') (Nc : News g L' h' l) (hD : (D, o) ∈ l) (off : ∀ q ∈ closed, q.1 ≠ D) (Nr : News h₀ L h rest) (h51 : (51, tb) ∈ closed) : ∀ p ∈ (51, tb) :: rest, p.1 ≠ D := by
  intro q hq
  rcases List.mem_cons.mp hq with rfl | hq
  · exact off _ h51
  · exact fresh_after hB Nc hD off Nr q hq
theorem PfiR.out {r x n : Int} (h : PfiR r x n) : 0 ≤ r ∧ r < n ∧ (r * x) % n = 1 := h
theorem PfiR.intro {r x n : Int} (h : 0 ≤ r ∧ r < n ∧ (r * x) % n = 1) : PfiR r x n := h
end
--PDIV
--END
section
variable {w : World} {p : Program} {loose : List Str} {mean : ExcName → Option Value} {mg mb : Str → Option Value} {dp un : Nat} {gd : Option (List Code)} {cn : Str} {cs : Scope} {a : Addr} {ccd : Value} {cl : List (Str × Addr)} {outer : List Env} {A₀ : Around} {base h₀ : Heap} {L : Addr} {m : Str → Option Value} {tb : Obj} {news : List (Addr × Obj)} {s : Shared} {Q E : Value → Shared → Prop}
set_option maxRecDepth 100000 in
set_option maxHeartbeats 2000000 in
theorem pdiv1 {ax ad aml amp acf amt : Addr} {la lb : Addr} {ka kb : Nat} {n x0 y0 x y : Int} {t0 t1 t2 t3 t4 t5 : Tok} (S : Sit w p loose mean mg mb 3 dp un cs outer A₀ base h₀ L m tb news s)
    (hA : FqAt w.params news ax ad aml amp acf amt n x0 y0) (hla : (la, ({ cls := .type "list", data := .seq #[.int 1 t0, .int 0 t1, .int 1 t2] ka } : Obj)) ∈ news) (hlb : (lb, ({ cls := .type "list", data := .seq #[.int x t3, .int y t4, .int 0 t5] kb } : Obj)) ∈ news) (h2 : 1 < n) (h3 : n < 1000) (hy : 1 ≤ y) (hy' : y < n) (hg : Int.gcd y n = 1)
    (hret : ∀ D Y t1 t2 h' tk', Fr h₀ L h' m → News h₀ L h' ((D, LCg.lst [.int 0 t1, .int Y t2]) :: (51, tb) :: news) → (∀ p ∈ (51, tb) :: news, p.1 ≠ D) → 0 ≤ Y ∧ Y < n ∧ (Y * y) % n = 1 → Q (.ref D) { s with heap := h', toks := tk' }) :
    wpAny (model PySem.Challenge.rw_kh0013_01.row.prog w) (ktrTop dp un gd cn cs L a ccd cl outer) (call (.ref 107) [.ref ax, .ref la, .ref lb]) Q E s := by
  k_with_none
  k_with "storeName" => (k_here; k_dflt (refine' storeX_L2 ?Fst ?Nst ?_ ?ast ?bst; (case Fst => k_asm); (case Nst => k_asm); (case ast => rfl); (case bst => rfl); k_whole); intro m7 n7 h9' F7 N7; (try k_sweep))
  k_with "mine_fold" => first | (have F8 := F7; have N8 := N7; clear F8 N8) | (rename Fr _ _ _ _ => F7; rename News _ _ _ _ => N7; revert F7 N7; refine let_FN ?_; intro m7 n7 F7 N7)
  k_with "mine_step" => (first | (with_reducible show Qk _ _; dsimp only [Qk]; clear Qk) | (k_unfold; (try dsimp only)) | (k_end; kc_close) | walk1 | (dsimp only; walk1) | (leave1; walk_say "STEP leave1"; (try dsimp only)))
  k_with "mine_lo" => skip
  k_with "CompRest" => (with_unfolding_all first | (refine LCg.CompRest.succ ?_; intro v9' I9' oI9' C9' oC9' D9' m9' h9' tk9' E9' hv9' hC9' hx9' F9' N9' off9' ne9'; clear ne9'; (first | lcg_open hv9' | (obtain ⟨t99', hv99'⟩ := hv9'; subst hv99'))) | refine LCg.CompRest.zero ?_)
  k_with "CompEnd" => (k_here; (refine' LCg.CompEnd.intro ?F_1 ?N_1 _ (fun p hp => hp) ?off_1 ?S_1 ?_); (case F_1 => k_asm); (case N_1 => k_asm); (case off_1 => assumption); (case S_1 => (refine' srcAt_led ?m9_1; (case m9_1 => k_mem))))
  k_with "FinE" => ((unfold LCg.FinE); intro D9' h9' tk9' F9' N9' o19'; k_dflt (replace o19' := OffA.of o19'; (try dsimp only [adr_cons, adr_nil, adr_consA, adr_nilA] at o19')); (try simp only [List.nil_append, List.cons_append] at N9'); (try dsimp only))
  k_with "eval ListComp" => (k_here; k_dflt (refine LCg.ListComp_U (F₀ := by k_asm) (by with_unfolding_all rfl) (by decide) (by rfl) (by decide) (by rfl) ?_); k_dflt lcg_toSrc)
  k_with "CompSrc" => (k_here; k_dflt (refine LCg.CompSrc.ledger (by rfl) (by k_asm) (by k_asm) (by k_mem) (by first | size_fits | exact Nat.le_of_ble_eq_true rfl) ?_; intro g9'; lcg_lit))
  k_with "exec For Name Call cons nil" => (k_here; (rename Fr _ _ _ _ => lF9'); (with_unfolding_all refine' For_turns lF9' ?_; k_whole))
  k_with "pyIter ref" => (k_here; (with_reducible show wpAny _ _ (pyIter (Value.ref _)) (fun it s₂ => TurnsAt _ _ _ _ _ _ _ _ _ it s₂) _ _); (with_reducible rename IsRange _ _ _ _ _ _ _ _ => rX9'); with_unfolding_all (first | (refine' range_turns (xs := [Itm.tok (fun t => Value.int (0 : Int) t)]) ?hh_6 ?F_6 ?N_6 rX9' ?sm_6 ?hn_6 ?hx_6 ?_; (case hn_6 => decide +kernel); (case sm_6 => decide +kernel); (case hx_6 => rfl)) | (refine' range_turns (xs := [Itm.tok (fun t => Value.int (1 : Int) t), Itm.tok (fun t => Value.int (0 : Int) t)]) ?hh_6 ?F_6 ?N_6 rX9' ?sm_6 ?hn_6 ?hx_6 ?_; (case hn_6 => decide +kernel); (case sm_6 => decide +kernel); (case hx_6 => rfl)) | (refine' range_turns (xs := [Itm.tok (fun t => Value.int (0 : Int) t), Itm.tok (fun t => Value.int (1 : Int) t)]) ?hh_6 ?F_6 ?N_6 rX9' ?sm_6 ?hn_6 ?hx_6 ?_; (case hn_6 => decide +kernel); (case sm_6 => decide +kernel); (case hx_6 => rfl)) | (refine' range_turns (xs := [Itm.tok (fun t => Value.int (0 : Int) t), Itm.tok (fun t => Value.int (1 : Int) t), Itm.tok (fun t => Value.int (2 : Int) t)]) ?hh_6 ?F_6 ?N_6 rX9' ?sm_6 ?hn_6 ?hx_6 ?_; (case hn_6 => decide +kernel); (case sm_6 => decide +kernel); (case hx_6 => rfl)) | (refine' range_turns (xs := [Itm.tok (fun t => Value.int (2 : Int) t), Itm.tok (fun t => Value.int (1 : Int) t), Itm.tok (fun t => Value.int (0 : Int) t)]) ?hh_6 ?F_6 ?N_6 rX9' ?sm_6 ?hn_6 ?hx_6 ?_; (case hn_6 => decide +kernel); (case sm_6 => decide +kernel); (case hx_6 => rfl)) | (refine' range_turns (xs := []) ?hh_6 ?F_6 ?N_6 rX9' ?sm_6 ?hn_6 ?hx_6 ?_; (case hn_6 => decide +kernel); (case sm_6 => decide +kernel); (case hx_6 => rfl))); (case hh_6 => rfl); (case F_6 => k_asm); (case N_6 => k_asm); clear rX9'; intro i9' l19; (try k_lt l19))
  k_with "call type:enumerate" => (k_here; k_dflt (refine' enum_make ?F_7 ?N_7 ?m_7 ?_); (case F_7 => k_asm); (case N_7 => k_asm); (case m_7 => k_mem); intro e9' h9' F9' N9' eX9'; (try k_sweep); (try dsimp only))
  k_with "call type:enumerate" => (k_here; (with_reducible show wpAny _ _ (call (Value.type _) [Value.ref _]) (fun xv s₁ => wpAny _ _ (pyIter xv) (fun it s₂ => TurnsAt _ _ _ _ _ _ _ _ _ it s₂) _ s₁) _ _); with_unfolding_all (refine' enum_turns (vs := [_, _]) (xs := [Itm.pair (fun t => Value.int (0 : Int) t) _, Itm.pair (fun t => Value.int (1 : Int) t) _]) ?hh_8 ?F_8 ?N_8 ?hm_8 ?hc_8 ?hd_8 ?hx_8 ?_; (case hh_8 => rfl); (case F_8 => k_asm); (case N_8 => k_asm); (case hm_8 => k_mem); (case hc_8 => rfl); (case hd_8 => rfl); (case hx_8 => rfl)); intro i9' l19; (try k_lt l19); (try dsimp only))
  k_with "call type:list" => (k_here; (rename EnumF _ _ _ _ _ _ _ => eX9'); k_dflt (refine' enum_list ?hh_9 ?F_9 ?N_9 eX9' ?_); (case hh_9 => rfl); (case F_9 => k_asm); (case N_9 => k_asm); intro S9' T19' T29' k19' k29' c9' h9' tk9' F9' N9' l19 l29 l39; clear eX9'; (try k_lt l19); (k_lt2 l29); (have l29 := LoA.tr l19 l29); (k_lt2 l39); (have l39 := LoA.tr l29 l39); (try k_sweep); (try dsimp only))
  k_with "exec For Tuple Call cons nil" => (k_here; (rename Fr _ _ _ _ => lF9'); (with_unfolding_all refine' For_turns lF9' ?_; k_whole))
  k_with "exec For Tuple Attribute cons nil" => (k_here; (rename Fr _ _ _ _ => lF9'); (with_unfolding_all refine' For_turns lF9' ?_; k_whole))
  k_with "mine_enterC" => (refine' enter_defC ?k1_12 ?k2_12 ?k3_12 ?k4_12 ?k5_12 ?kA_12 ?kF_12 ?kK_12 ?k6_12 ?k7_12 ?k8_12 ?k9_12 ?kB_12 ?kD_12 ?_ ?c2_12 ?c3_12 ?c4_12; (case kA_12 => exact rfl); (case kF_12 => exact rfl); (case kK_12 => first | exact rfl | assumption); (case k1_12 => k_asm); (case k2_12 => k_asm); (case k3_12 => k_asm); (case k4_12 => k_asm); (case k5_12 => k_asm); (case k6_12 => k_is); (case k7_12 => k_is); (case k8_12 => ktr_room); (case k9_12 => exact BindsTo.of_eq rfl); (case kB_12 => exact rfl); (case kD_12 => decide +kernel); (case c2_12 => exact rfl); (case c3_12 => exact rfl); (case c4_12 => exact rfl); k_whole; intro g9' L9' h9' tk9' cells9' FG9' F9' N9' Y9' B9' X9' T9' l19 hBs; (try k_lt l19); k_cells Y9'; (try simp only [List.cons_append, List.nil_append] at N9'); (try dsimp only); (try k_lift B9'); (try k_fold))
  k_with "eval ListComp" => (k_here; (with_reducible show wpAny _ _ (eval (PySem.Expr.ListComp (PySem.Expr.Tuple _ _ _) _ _ _) _) _ _ _); k_dflt (refine mc_comp (by with_unfolding_all rfl) (by with_unfolding_all rfl) (by decide) (by rfl) (by decide) (by rfl) (by rfl) (by decide) (by decide) (by decide) ?_))
  k_with "call type:enumerate" => (k_here; (with_reducible show wpAny _ _ (call (Value.type _) [Value.ref _]) (McSrc _) _ _); k_dflt (refine' mc_call ?F_14 ?N_14 ?m_14 ?_; (case F_14 => k_asm); (case N_14 => k_asm); (case m_14 => k_mem)); intro D9' T9' ti9' h9' tk9' F9' N9' l19 l29; (try k_lt l19); (k_lt2 l29); (have l29 := LoA.tr l19 l29); (try k_sweep); (try dsimp only))
  k_with "mine_split" => first | exact Split.here | (apply Split.skip; walk_at "mine_split")
  k_with "eval GeneratorExp" => (k_here; k_dflt (refine' gen_make ?F_16 (Split.toNews ?N_16 ?sp_16) ?h51_16 ?tb_16 ?G_16 ?X_16 ?T_16 ?hh_16 ?hcode_16 ?hgl_16 ?room_16 ?hek_16 ?hey_16 ?hdy_16 ?hvy_16 ?hml_16 ?hmc_16 ?hoc_16 ?hms_16 ?hmd_16 ?hfm_16 ?hq_16 ?hco_16 ?hclos_16 ?hcell_16 ?h0_16 ?hx_16 ?hsn_16 ?hkind_16 ?hdx_16 ?hds_16 ?hdc_16 ?_); (case F_16 => k_asm); (case N_16 => k_asm); (case sp_16 => walk_at "mine_split"); (case h51_16 => k_all); (case tb_16 => assumption); (case G_16 => assumption); (case X_16 => k_asm); (case T_16 => k_asm); (case hh_16 => rfl); (case hcode_16 => rfl); (case hgl_16 => rfl); (case room_16 => ktr_room); (case hek_16 => rfl); (case hey_16 => with_unfolding_all rfl); (case hdy_16 => decide); (case hvy_16 => with_unfolding_all rfl); (case hml_16 => k_mem); (case hclos_16 => with_unfolding_all rfl); (case hmc_16 => k_mem); (case hoc_16 => assumption); (case hms_16 => k_mem); (case hmd_16 => k_mem); (case hfm_16 => k_get); (case hq_16 => omega); (case hco_16 => rfl); (case hcell_16 => decide); (case h0_16 => rfl); (case hx_16 => rfl); (case hsn_16 => rfl); (case hkind_16 => rfl); (case hdx_16 => decide); (case hds_16 => decide); (case hdc_16 => decide); intro a9' tb9' h9' g9' tk9' G9' TB9' F9' N9' X9'; (try k_sweep))
  k_with "call type:tuple" => (k_here; k_dflt (refine' call_tuple_tup ?T_17 ?_); (case T_17 => exact News.isTup (by k_asm) (by k_mem)); (try dsimp only))
  k_with "call type:tuple" => (k_here; (rename GenR _ _ _ _ _ _ _ _ _ _ => gX9'); k_dflt (refine' gen_tuple ?F_18 ?N_18 ?G_18 gX9' ?_); (case F_18 => k_asm); (case N_18 => k_asm); (case G_18 => assumption); intro D9' t19' t29' h9' g9' tk9' G9' F9' N9' l19; clear gX9'; (try k_lt l19); (try k_sweep))
  k_with "mine_reg" => (w_on; (have _h : (PySem.Challenge.rw_kh0013_01 = PySem.Challenge.rw_kh0013_01) ∧ (Mine.hd.heap_1 = Mine.hd.heap_1) := by (k_fill; exact ⟨rfl, rfl⟩)); clear _h)
  k_with "mine_enter" => (refine' enter_def ?k1_20 ?k2_20 ?k3_20 ?k4_20 ?k5_20 ?kA_20 ?kF_20 ?kK_20 ?k6_20 ?k7_20 ?k8_20 ?k9_20 ?kB_20 ?_ ?c2_20 ?c3_20 ?c4_20 ?c5_20; (case kA_20 => exact rfl); (case kF_20 => exact rfl); (case kK_20 => first | exact rfl | assumption); (case k1_20 => k_asm); (case k2_20 => k_asm); (case k3_20 => k_asm); (case k4_20 => k_asm); (case k5_20 => k_asm); (case k6_20 => k_is); (case k7_20 => k_is); (case k8_20 => ktr_room); (case k9_20 => exact BindsTo.of_eq rfl); (case c5_20 => decide); (case kB_20 => exact locs rfl); (case c2_20 => exact rfl); (case c3_20 => exact rfl); (case c4_20 => exact rfl); k_whole; intro g9' L9' h9' FG9' F9' N9' B9' X9' T9' hBs; (try dsimp only); (try k_lift B9'); (try k_fold))
  k_with "mine_sit" => (refine' Sit.mk ?B_21 ?F_21 ?X_21 (Split.toNews ?N_21 ?sp_21) ?T_21 ?hk_21 ?G_21 ?TB_21 ?n51_21 ?hdp_21 ?hun_21; (case B_21 => k_asm); (case F_21 => k_asm); (case X_21 => k_asm); (case N_21 => k_asm); (case sp_21 => walk_at "mine_split"); (case T_21 => k_asm); (case hk_21 => first | exact rfl | assumption); (case G_21 => assumption); (case TB_21 => assumption); (case n51_21 => first | assumption | k_all); (case hdp_21 => ktr_room); (case hun_21 => ktr_units))
  k_with "mine_ret" => (intro x9' d9' ml9' mp9' cf9' tb9' h9' g9' tk9' e19' e29' e39' e49' e59' e69' e79' q19' q29' r19' r29' G9' TB9' F9' N9' l19 l29 l39 l49 l59; (try k_lt l19); (k_lt2 l29); (have l29 := LoA.tr l19 l29); (k_lt2 l39); (have l39 := LoA.tr l29 l39); (k_lt2 l49); (have l49 := LoA.tr l39 l49); (k_lt2 l59); (have l59 := LoA.tr l49 l59); (try k_sweep); (try dsimp only))
  k_with "call ref" => (k_here; (with_reducible show wpAny _ _ (call (Value.ref 192) _) _ _ _); k_dflt (refine' mkS ?S_23 ?hlc_23 ?hmt_23 ?h2_23 ?h3_23 ?_); (case S_23 => walk_at "mine_sit"); (case hlc_23 => k_mem); (case hmt_23 => k_mem); (case h2_23 => first | assumption | omega); (case h3_23 => first | assumption | omega); walk_at "mine_ret"; (try dsimp only))
  k_with "mine_fq" => (refine' And.intro ?f1_24 (And.intro (Exists.intro _ (Exists.intro _ (Exists.intro _ (Exists.intro _ (Exists.intro _ (Exists.intro _ (Exists.intro _ ?f2_24))))))) (And.intro ?f3_24 (And.intro (Exists.intro _ (Exists.intro _ ?f4_24)) (And.intro (Exists.intro _ (Exists.intro _ ?f5_24)) (Exists.intro _ (Exists.intro _ (Exists.intro _ ?f6_24))))))); (case f1_24 => k_mem); (case f2_24 => k_mem); (case f3_24 => k_mem); (case f4_24 => k_mem); (case f5_24 => k_mem); (case f6_24 => k_mem))
  k_with "call ref" => (k_here; (with_reducible show wpAny _ _ (call (Value.ref 181) _) _ _ _); k_dflt (refine' made ?S_25 ?hS_25 ?hlc_25 ?h2_25 ?h3_25 ?_); (case S_25 => walk_at "mine_sit"); (case hS_25 => walk_at "mine_fq"); (case hlc_25 => k_mem); (case h2_25 => first | assumption | omega); (case h3_25 => first | assumption | omega); walk_at "mine_ret"; (try dsimp only))
  k_with "mine_lt" => first | (refine LoA.allLt ?_; (try dsimp only [adr_cons, adr_nil, adr_consA, adr_nilA]); with_reducible assumption) | (refine' LoA.ltSuf ?hZs ?mZs; (case hZs => with_reducible assumption); (case mZs => with_reducible (intro _ hq; (repeat (first | exact hq | refine List.mem_cons_of_mem _ ?_)); done))) | exact allLt_nil | (refine allLt_cons ?mltZ ?_; (case mltZ => first | with_reducible assumption | (refine' LoA.lt ?hZq ?mZq; (case hZq => with_reducible assumption); (case mZq => ((first | ((repeat (with_reducible (first | exact adr_hd | refine adr_tl ?_ | exact List.mem_cons_self | refine List.mem_cons_of_mem _ ?_))); done) | ((with_reducible show @Membership.mem _ _ _ _ (@OfNat.ofNat _ (nat_lit 51) _)); k_dflt ((repeat (first | exact adr_hd | refine adr_tl ?_ | exact List.Mem.head _ | refine List.Mem.tail _ ?_)); done)))))) | (refine' LoA.ltS ?hZq ?mZq; (case hZq => with_reducible assumption); (case mZq => ((first | ((repeat (with_reducible (first | exact adr_hd | refine adr_tl ?_ | exact List.mem_cons_self | refine List.mem_cons_of_mem _ ?_))); done) | ((with_reducible show @Membership.mem _ _ _ _ (@OfNat.ofNat _ (nat_lit 51) _)); k_dflt ((repeat (first | exact adr_hd | refine adr_tl ?_ | exact List.Mem.head _ | refine List.Mem.tail _ ?_)); done))))))); walk_at "mine_lt")
  k_with "UnrEndW" => k_dflt (first | (refine' unr_end2 ?F_27 ?N_27 ?l_27 ?k_27 ?_; (case F_27 => k_asm); (case N_27 => k_asm); (case l_27 => walk_at "mine_lt"); (case k_27 => k_subL)) | (refine' unr_end1 ?F_27 ?N_27 ?l_27 ?k_27 ?_; (case F_27 => k_asm); (case N_27 => k_asm); (case l_27 => walk_at "mine_lt"); (case k_27 => k_subL)))
  k_with "getItem ref int" => (k_here; (with_reducible show wpAny _ _ (getItem (Value.ref _) (Value.int _ _)) _ _ _); k_dflt (refine' get_here ?N_28 ?m_28 ?a_28 ?b_28 ?x_28 ?_; (case N_28 => k_asm); (case m_28 => k_mem); (case a_28 => decide); (case b_28 => decide); (case x_28 => rfl); k_whole))
  k_with "subscriptTail" => (k_here; (with_reducible show wpAny _ _ (subscriptTail _ _ (Value.ref _) (Value.int _ _)) _ _ _); with_unfolding_all (first | (refine' item_tupleT ?t_29 ?a_29 ?b_29 ?c_29 ?d_29 ?_ ?e_29; (case t_29 => exact News.isTup (by k_asm) (by k_mem)); (case a_29 => decide); (case b_29 => decide); (case c_29 => rfl); (case d_29 => rfl); (case e_29 => with_unfolding_all rfl); k_whole) | (refine' sub_here ?N_29 ?m_29 ?k2_29 ?k3_29 ?k4_29 ?_ ?k6_29; (case N_29 => k_asm); (case m_29 => k_mem); (case k2_29 => decide); (case k3_29 => decide); (case k4_29 => rfl); (case k6_29 => with_unfolding_all rfl); k_whole)))
  k_with "setItem ref int" => (k_here; k_dflt (refine' ki_set ?F_30 ?N_30 ?a_30 ?b_30 ?e_30 ?U_30 ?_; (case F_30 => k_asm); (case N_30 => k_asm); (case U_30 => k_upd); (case a_30 => decide); (case b_30 => decide); (case e_30 => rfl)); ki_rest; (try dsimp only))
  k_with "binaryOp Mult ref int" => (k_here; (with_reducible show wpAny _ _ (binaryOp Operator.Mult (Value.ref _) (Value.int _ _)) _ _ _); k_dflt (refine' KMa.mul ?F_31 ?N_31 ?l_31 ?lo_31 ?hi_31 ?z_31 ?e_31 ?_; (case F_31 => k_asm); (case N_31 => k_asm); (case l_31 => is_list); (case lo_31 => first | omega | decide); (case hi_31 => first | omega | decide); (case z_31 => (simp only [List.length_cons, List.length_nil]; decide)); (case e_31 => (simp only [Int.reduceMul, Int.reduceSub, Int.reduceAdd, Int.reduceToNat, List.replicate_succ, List.replicate_zero, List.flatten_cons, List.flatten_nil, List.cons_append, List.nil_append, List.append_nil]; first | done | exact rfl)); k_whole); intro D9' h9' F9' N9' l19; (try k_lt l19); (try k_sweep); (try dsimp only))
  k_with "subscriptTail Name Name ref int" => (k_here; k_dflt (refine' sub_here ?N_32 ?m_32 ?k2_32 ?k3_32 ?k4_32 ?_ ?k6_32; (case N_32 => k_asm); (case m_32 => k_mem); (case k2_32 => decide); (case k3_32 => decide); (case k4_32 => rfl); (case k6_32 => with_unfolding_all rfl); k_whole); (try dsimp only))
  k_with "subscriptTail Name BinOp ref int" => (k_here; k_dflt (refine' sub_here ?N_33 ?m_33 ?k2_33 ?k3_33 ?k4_33 ?_ ?k6_33; (case N_33 => k_asm); (case m_33 => k_mem); (case k2_33 => decide); (case k3_33 => decide); (case k4_33 => rfl); (case k6_33 => with_unfolding_all rfl); k_whole); (try dsimp only))
  k_with "subscriptTail Name Constant ref int" => (k_here; k_dflt (refine' sub_here ?N_34 ?m_34 ?k2_34 ?k3_34 ?k4_34 ?_ ?k6_34; (case N_34 => k_asm); (case m_34 => k_mem); (case k2_34 => decide); (case k3_34 => decide); (case k4_34 => rfl); (case k6_34 => with_unfolding_all rfl); k_whole); (try dsimp only))
  k_with "FinA" => ((unfold LCg.FinA); intro D9' h9' tk9' F9' N9' o19'; (have o519' := Ne51.intro (off1_ne (a := 51) o19' (by k_dflt k_mem))); (try simp only [List.nil_append, List.cons_append] at N9'); (try dsimp only))
  k_with "call ref" => (k_here; (with_reducible show wpAny _ _ (call (Value.ref 42) _) _ _ _); k_dflt (refine' deg3 ?B_36 ?F_36 ?X_36 ?N_36 ?T_36 ?hk_36 ?hl_36 ?hdp_36 ?hun_36 ?_); (case B_36 => k_asm); (case F_36 => k_asm); (case X_36 => k_asm); (case N_36 => k_asm); (case T_36 => k_asm); (case hk_36 => first | exact rfl | assumption); (case hl_36 => k_mem); (case hdp_36 => ktr_room); (case hun_36 => ktr_units); intro d99' t9' h9' tk9' F9' N9' q99'; (first | ((have e99' : d99' = 2 := by omega); subst e99') | ((have e99' : d99' = 1 := by omega); subst e99') | ((have e99' : d99' = 0 := by omega); subst e99')); clear q99'; (try k_sweep); (try dsimp only))
  k_with "call ref" => (k_here; (with_reducible show wpAny _ _ (call (Value.ref 35) _) _ _ _); k_dflt (refine' pfiS ?B_37 ?F_37 ?X_37 ?N_37 ?T_37 ?hk_37 ?h0_37 ?h1_37 ?h2_37 ?hg_37 ?hdp_37 ?hun_37 ?_); (case B_37 => k_asm); (case F_37 => k_asm); (case X_37 => k_asm); (case N_37 => k_asm); (case T_37 => k_asm); (case hk_37 => first | exact rfl | assumption); (case h0_37 => assumption); (case h1_37 => assumption); (case h2_37 => assumption); (case hg_37 => assumption); (case hdp_37 => ktr_room); (case hun_37 => ktr_units); intro r99' t9' h9' tk9' F9' N9' q99'; (have nz99' := pfi_ne q99'); replace q99' := PfiR.intro q99'; (try k_sweep); (try dsimp only))
  k_with "execs cons" => ((try dsimp only); (try k_extra "mine_fold"); first | (refine let_one ?_; intro s7 Qk) | (refine let_cons ?_; intro s7 Qk Qk))
  k_with "eval Constant int" => (refine wpAny_Constant_int ?_; (try dsimp only))
  k_with "newList" => (k_here; k_dflt (refine' newList_K ?k1 ?k2 ?_; (case k1 => k_asm); (case k2 => k_asm); k_whole); intro l9' h9' F9' N9' l19; (try k_lt l19); (try k_sweep); (try dsimp only))
  k_with "mine_ne" => k_dflt (refine neN ?_; (try dsimp only); first | (with_reducible assumption) | (refine' LoA.ne ?hZq ?mZq; (case hZq => with_reducible assumption); (case mZq => ((first | ((repeat (with_reducible (first | exact adr_hd | refine adr_tl ?_ | exact List.mem_cons_self | refine List.mem_cons_of_mem _ ?_))); done) | ((with_reducible show @Membership.mem _ _ _ _ (@OfNat.ofNat _ (nat_lit 51) _)); k_dflt ((repeat (first | exact adr_hd | refine adr_tl ?_ | exact List.Mem.head _ | refine List.Mem.tail _ ?_)); done)))))) | (refine' LoA.ne' ?hZq ?mZq; (case hZq => with_reducible assumption); (case mZq => ((first | ((repeat (with_reducible (first | exact adr_hd | refine adr_tl ?_ | exact List.mem_cons_self | refine List.mem_cons_of_mem _ ?_))); done) | ((with_reducible show @Membership.mem _ _ _ _ (@OfNat.ofNat _ (nat_lit 51) _)); k_dflt ((repeat (first | exact adr_hd | refine adr_tl ?_ | exact List.Mem.head _ | refine List.Mem.tail _ ?_)); done)))))) | (refine' OffA.ne ?hZq ?mZq; (case hZq => with_reducible assumption); (case mZq => ((first | ((repeat (with_reducible (first | exact adr_hd | refine adr_tl ?_ | exact List.mem_cons_self | refine List.mem_cons_of_mem _ ?_))); done) | ((with_reducible show @Membership.mem _ _ _ _ (@OfNat.ofNat _ (nat_lit 51) _)); k_dflt ((repeat (first | exact adr_hd | refine adr_tl ?_ | exact List.Mem.head _ | refine List.Mem.tail _ ?_)); done)))))) | (refine' OffA.ne' ?hZq ?mZq; (case hZq => with_reducible assumption); (case mZq => ((first | ((repeat (with_reducible (first | exact adr_hd | refine adr_tl ?_ | exact List.mem_cons_self | refine List.mem_cons_of_mem _ ?_))); done) | ((with_reducible show @Membership.mem _ _ _ _ (@OfNat.ofNat _ (nat_lit 51) _)); k_dflt ((repeat (first | exact adr_hd | refine adr_tl ?_ | exact List.Mem.head _ | refine List.Mem.tail _ ?_)); done)))))) | (refine' LoA.neS ?hZq ?mZq; (case hZq => with_reducible assumption); (case mZq => ((first | ((repeat (with_reducible (first | exact adr_hd | refine adr_tl ?_ | exact List.mem_cons_self | refine List.mem_cons_of_mem _ ?_))); done) | ((with_reducible show @Membership.mem _ _ _ _ (@OfNat.ofNat _ (nat_lit 51) _)); k_dflt ((repeat (first | exact adr_hd | refine adr_tl ?_ | exact List.Mem.head _ | refine List.Mem.tail _ ?_)); done)))))) | (refine' LoA.neS' ?hZq ?mZq; (case hZq => with_reducible assumption); (case mZq => ((first | ((repeat (with_reducible (first | exact adr_hd | refine adr_tl ?_ | exact List.mem_cons_self | refine List.mem_cons_of_mem _ ?_))); done) | ((with_reducible show @Membership.mem _ _ _ _ (@OfNat.ofNat _ (nat_lit 51) _)); k_dflt ((repeat (first | exact adr_hd | refine adr_tl ?_ | exact List.Mem.head _ | refine List.Mem.tail _ ?_)); done)))))) | (refine' LoA.neT ?hZq ?mZq; (case hZq => with_reducible assumption); (case mZq => ((first | ((repeat (with_reducible (first | exact adr_hd | refine adr_tl ?_ | exact List.mem_cons_self | refine List.mem_cons_of_mem _ ?_))); done) | ((with_reducible show @Membership.mem _ _ _ _ (@OfNat.ofNat _ (nat_lit 51) _)); k_dflt ((repeat (first | exact adr_hd | refine adr_tl ?_ | exact List.Mem.head _ | refine List.Mem.tail _ ?_)); done)))))) | (refine' LoA.neT' ?hZq ?mZq; (case hZq => with_reducible assumption); (case mZq => ((first | ((repeat (with_reducible (first | exact adr_hd | refine adr_tl ?_ | exact List.mem_cons_self | refine List.mem_cons_of_mem _ ?_))); done) | ((with_reducible show @Membership.mem _ _ _ _ (@OfNat.ofNat _ (nat_lit 51) _)); k_dflt ((repeat (first | exact adr_hd | refine adr_tl ?_ | exact List.Mem.head _ | refine List.Mem.tail _ ?_)); done)))))) | exact neS_self | exact neS_self' | ((refine Ne51.ne ?_); with_reducible assumption) | ((refine Ne51.ne' ?_); with_reducible assumption) | (refine' off1_ne ?o1 ?m1; (case o1 => with_reducible assumption); (case m1 => first | k_mem | k_dflt k_mem)) | (refine' Ne.symm (off1_ne ?o1 ?m1); (case o1 => with_reducible assumption); (case m1 => first | k_mem | k_dflt k_mem)) | k_extra "mine_om")
  k_with "mine_om" => ((try simp only [LoA.cons_iff, LoA.nil_iff, and_true] at *); omega)
  walk_at "mine_reg"
  obtain ⟨B, F, X, N, T, hk, G, TB, n51, hdp, hun⟩ := S
  obtain ⟨ha1, ⟨ae1, ae2, ae3, ae4, ae5, ae6, ae7, ha2⟩, ha3, ⟨aq1, aq2, ha4⟩, ⟨ar1, ar2, ha5⟩, at1, at2, ak, ha6⟩ := hA
  have Nr : News h₀ L s.heap news := fun q hq => N q (.tail _ hq)
  let R6 : List (Addr × Obj) := [(ax, instObj 192 ad), (ad, fqDict w.params ae1 ae2 ae3 ae4 ae5 ae6 ae7 aml acf amt n), (la, ({ cls := .type "list", data := .seq #[.int 1 t0, .int 0 t1, .int 1 t2] ka } : Obj)), (lb, ({ cls := .type "list", data := .seq #[.int x t3, .int y t4, .int 0 t5] kb } : Obj))]
  have hs6 : ∀ q ∈ R6, q ∈ news := (List.forall_mem_cons.mpr ⟨ha1, (List.forall_mem_cons.mpr ⟨ha2, (List.forall_mem_cons.mpr ⟨hla, (List.forall_mem_cons.mpr ⟨hlb, (fun _ h => nomatch h)⟩)⟩)⟩)⟩)
  have N1 : News h₀ L s.heap ((51, tb) :: R6) := fun q hq => (List.mem_cons.mp hq).elim (fun e => e ▸ N _ (.head _)) (fun hq => Nr q (hs6 q hq))
  have hg6 : ∀ q ∈ R6, s.heap.get? q.1 = some q.2 := fun q hq => (Nr q (hs6 q hq)).1
  have h516 : ∀ q ∈ R6, q.1 ≠ 51 := fun q hq => n51 q (hs6 q hq)
  have ne0 := Ne51.intro (neN (n51 _ ha1))
  have ne1 := Ne51.intro (neN (n51 _ ha2))
  have ne2 := Ne51.intro (neN (n51 _ hla))
  have ne3 := Ne51.intro (neN (n51 _ hlb))
  dsimp only at ne0 ne1 ne2 ne3
  refine wpAny_call ?_
  clear N
  k_dflt (walk_at "mine_enterC")
  clear N1
  refine let_entry ?_
  intro M9 A9 e9 E9 Qk
  k_extra "mine_fold"
  w_strict (repeat' (k_extra "mine_step"))
  rename Based0 _ _ _ _ => hB0
  rename Fr _ _ _ m => kF
  rename News h₀ L _ _ => kN
  have Nr2 := rest_end hB0 (by assumption) Nr kN n51 hg6 (fun q hq => by (repeat (first | exact hq | refine List.Mem.tail _ ?_)))
  simp only [Int.sub_self, Int.zero_mul, Int.add_zero, Int.zero_add, Int.one_mul, Int.zero_fmod] at kN
  refine' hret _ _ _ _ _ _ kF (news_cons kN ?m1 (news_cons kN ?m2 Nr2)) ?o ?f
  case m1 => k_mem
  case m2 => k_mem
  case f => exact PfiR.fx h2 (by assumption)
  case o =>
    refine' fresh_all hB0 ?Nc ?hD ?off Nr ?h51
    case Nc => assumption
    case hD => k_mem
    case h51 => exact .head _
    case off => k_all
end
end C6_part
/-! C7 -/
section C7_part
open PySem PySem.W PyProof.Rows PySem.Calls
--PDIV
--END
section
variable {w : World} {p : Program} {loose : List Str} {mean : ExcName → Option Value} {mg mb : Str → Option Value} {dp un : Nat} {gd : Option (List Code)} {cn : Str} {cs : Scope} {a : Addr} {ccd : Value} {cl : List (Str × Addr)} {outer : List Env} {A₀ : Around} {base h₀ : Heap} {L : Addr} {m : Str → Option Value} {tb : Obj} {news : List (Addr × Obj)} {s : Shared} {Q E : Value → Shared → Prop}
set_option maxRecDepth 100000 in
set_option maxHeartbeats 2000000 in
theorem pdiv2 {ax ad aml amp acf amt : Addr} {la lb : Addr} {ka kb : Nat} {n x0 y0 x y z : Int} {t0 t1 t2 t3 t4 t5 : Tok} (S : Sit w p loose mean mg mb 3 dp un cs outer A₀ base h₀ L m tb news s)
    (hA : FqAt w.params news ax ad aml amp acf amt n x0 y0) (hla : (la, ({ cls := .type "list", data := .seq #[.int x t0, .int y t1, .int 0 t2] ka } : Obj)) ∈ news) (hlb : (lb, ({ cls := .type "list", data := .seq #[.int 1 t3, .int z t4, .int 0 t5] kb } : Obj)) ∈ news) (h2 : 1 < n) (h3 : n < 1000) (hy : 1 ≤ y) (hy' : y < n) (hz : 1 ≤ z) (hz' : z < n) (hg : Int.gcd z n = 1)
    (hret : ∀ D Y q t1 h' tk', Fr h₀ L h' m → News h₀ L h' ((D, LCg.lst [.int q t1]) :: (51, tb) :: news) → (∀ p ∈ (51, tb) :: news, p.1 ≠ D) → 0 ≤ Y ∧ Y < n ∧ (Y * z) % n = 1 → q = (y * Y) % n → Q (.ref D) { s with heap := h', toks := tk' }) :
    wpAny (model PySem.Challenge.rw_kh0013_01.row.prog w) (ktrTop dp un gd cn cs L a ccd cl outer) (call (.ref 107) [.ref ax, .ref la, .ref lb]) Q E s := by
  k_with_none
  k_with "storeName" => (k_here; k_dflt (refine' storeX_L2 ?Fst ?Nst ?_ ?ast ?bst; (case Fst => k_asm); (case Nst => k_asm); (case ast => rfl); (case bst => rfl); k_whole); intro m7 n7 h9' F7 N7; (try k_sweep))
  k_with "mine_fold" => first | (have F8 := F7; have N8 := N7; clear F8 N8) | (rename Fr _ _ _ _ => F7; rename News _ _ _ _ => N7; revert F7 N7; refine let_FN ?_; intro m7 n7 F7 N7)
  k_with "mine_step" => (first | (with_reducible show Qk _ _; dsimp only [Qk]; clear Qk) | (k_unfold; (try dsimp only)) | (k_end; kc_close) | walk1 | (dsimp only; walk1) | (leave1; walk_say "STEP leave1"; (try dsimp only)))
  k_with "mine_lo" => skip
  k_with "CompRest" => (with_unfolding_all first | (refine LCg.CompRest.succ ?_; intro v9' I9' oI9' C9' oC9' D9' m9' h9' tk9' E9' hv9' hC9' hx9' F9' N9' off9' ne9'; clear ne9'; (first | lcg_open hv9' | (obtain ⟨t99', hv99'⟩ := hv9'; subst hv99'))) | refine LCg.CompRest.zero ?_)
  k_with "CompEnd" => (k_here; (refine' LCg.CompEnd.intro ?F_1 ?N_1 _ (fun p hp => hp) ?off_1 ?S_1 ?_); (case F_1 => k_asm); (case N_1 => k_asm); (case off_1 => assumption); (case S_1 => (refine' srcAt_led ?m9_1; (case m9_1 => k_mem))))
  k_with "FinE" => ((unfold LCg.FinE); intro D9' h9' tk9' F9' N9' o19'; k_dflt (replace o19' := OffA.of o19'; (try dsimp only [adr_cons, adr_nil, adr_consA, adr_nilA] at o19')); (try simp only [List.nil_append, List.cons_append] at N9'); (try dsimp only))
  k_with "eval ListComp" => (k_here; k_dflt (refine LCg.ListComp_U (F₀ := by k_asm) (by with_unfolding_all rfl) (by decide) (by rfl) (by decide) (by rfl) ?_); k_dflt lcg_toSrc)
  k_with "CompSrc" => (k_here; k_dflt (refine LCg.CompSrc.ledger (by rfl) (by k_asm) (by k_asm) (by k_mem) (by first | size_fits | exact Nat.le_of_ble_eq_true rfl) ?_; intro g9'; lcg_lit))
  k_with "exec For Name Call cons nil" => (k_here; (rename Fr _ _ _ _ => lF9'); (with_unfolding_all refine' For_turns lF9' ?_; k_whole))
  k_with "pyIter ref" => (k_here; (with_reducible show wpAny _ _ (pyIter (Value.ref _)) (fun it s₂ => TurnsAt _ _ _ _ _ _ _ _ _ it s₂) _ _); (with_reducible rename IsRange _ _ _ _ _ _ _ _ => rX9'); with_unfolding_all (first | (refine' range_turns (xs := [Itm.tok (fun t => Value.int (0 : Int) t)]) ?hh_6 ?F_6 ?N_6 rX9' ?sm_6 ?hn_6 ?hx_6 ?_; (case hn_6 => decide +kernel); (case sm_6 => decide +kernel); (case hx_6 => rfl)) | (refine' range_turns (xs := [Itm.tok (fun t => Value.int (1 : Int) t), Itm.tok (fun t => Value.int (0 : Int) t)]) ?hh_6 ?F_6 ?N_6 rX9' ?sm_6 ?hn_6 ?hx_6 ?_; (case hn_6 => decide +kernel); (case sm_6 => decide +kernel); (case hx_6 => rfl)) | (refine' range_turns (xs := [Itm.tok (fun t => Value.int (0 : Int) t), Itm.tok (fun t => Value.int (1 : Int) t)]) ?hh_6 ?F_6 ?N_6 rX9' ?sm_6 ?hn_6 ?hx_6 ?_; (case hn_6 => decide +kernel); (case sm_6 => decide +kernel); (case hx_6 => rfl)) | (refine' range_turns (xs := [Itm.tok (fun t => Value.int (0 : Int) t), Itm.tok (fun t => Value.int (1 : Int) t), Itm.tok (fun t => Value.int (2 : Int) t)]) ?hh_6 ?F_6 ?N_6 rX9' ?sm_6 ?hn_6 ?hx_6 ?_; (case hn_6 => decide +kernel); (case sm_6 => decide +kernel); (case hx_6 => rfl)) | (refine' range_turns (xs := [Itm.tok (fun t => Value.int (2 : Int) t), Itm.tok (fun t => Value.int (1 : Int) t), Itm.tok (fun t => Value.int (0 : Int) t)]) ?hh_6 ?F_6 ?N_6 rX9' ?sm_6 ?hn_6 ?hx_6 ?_; (case hn_6 => decide +kernel); (case sm_6 => decide +kernel); (case hx_6 => rfl)) | (refine' range_turns (xs := []) ?hh_6 ?F_6 ?N_6 rX9' ?sm_6 ?hn_6 ?hx_6 ?_; (case hn_6 => decide +kernel); (case sm_6 => decide +kernel); (case hx_6 => rfl))); (case hh_6 => rfl); (case F_6 => k_asm); (case N_6 => k_asm); clear rX9'; intro i9' l19; (try k_lt l19))
  k_with "call type:enumerate" => (k_here; k_dflt (refine' enum_make ?F_7 ?N_7 ?m_7 ?_); (case F_7 => k_asm); (case N_7 => k_asm); (case m_7 => k_mem); intro e9' h9' F9' N9' eX9'; (try k_sweep); (try dsimp only))
  k_with "call type:enumerate" => (k_here; (with_reducible show wpAny _ _ (call (Value.type _) [Value.ref _]) (fun xv s₁ => wpAny _ _ (pyIter xv) (fun it s₂ => TurnsAt _ _ _ _ _ _ _ _ _ it s₂) _ s₁) _ _); with_unfolding_all (refine' enum_turns (vs := [_, _]) (xs := [Itm.pair (fun t => Value.int (0 : Int) t) _, Itm.pair (fun t => Value.int (1 : Int) t) _]) ?hh_8 ?F_8 ?N_8 ?hm_8 ?hc_8 ?hd_8 ?hx_8 ?_; (case hh_8 => rfl); (case F_8 => k_asm); (case N_8 => k_asm); (case hm_8 => k_mem); (case hc_8 => rfl); (case hd_8 => rfl); (case hx_8 => rfl)); intro i9' l19; (try k_lt l19); (try dsimp only))
  k_with "call type:list" => (k_here; (rename EnumF _ _ _ _ _ _ _ => eX9'); k_dflt (refine' enum_list ?hh_9 ?F_9 ?N_9 eX9' ?_); (case hh_9 => rfl); (case F_9 => k_asm); (case N_9 => k_asm); intro S9' T19' T29' k19' k29' c9' h9' tk9' F9' N9' l19 l29 l39; clear eX9'; (try k_lt l19); (k_lt2 l29); (have l29 := LoA.tr l19 l29); (k_lt2 l39); (have l39 := LoA.tr l29 l39); (try k_sweep); (try dsimp only))
  k_with "exec For Tuple Call cons nil" => (k_here; (rename Fr _ _ _ _ => lF9'); (with_unfolding_all refine' For_turns lF9' ?_; k_whole))
  k_with "exec For Tuple Attribute cons nil" => (k_here; (rename Fr _ _ _ _ => lF9'); (with_unfolding_all refine' For_turns lF9' ?_; k_whole))
  k_with "mine_enterC" => (refine' enter_defC ?k1_12 ?k2_12 ?k3_12 ?k4_12 ?k5_12 ?kA_12 ?kF_12 ?kK_12 ?k6_12 ?k7_12 ?k8_12 ?k9_12 ?kB_12 ?kD_12 ?_ ?c2_12 ?c3_12 ?c4_12; (case kA_12 => exact rfl); (case kF_12 => exact rfl); (case kK_12 => first | exact rfl | assumption); (case k1_12 => k_asm); (case k2_12 => k_asm); (case k3_12 => k_asm); (case k4_12 => k_asm); (case k5_12 => k_asm); (case k6_12 => k_is); (case k7_12 => k_is); (case k8_12 => ktr_room); (case k9_12 => exact BindsTo.of_eq rfl); (case kB_12 => exact rfl); (case kD_12 => decide +kernel); (case c2_12 => exact rfl); (case c3_12 => exact rfl); (case c4_12 => exact rfl); k_whole; intro g9' L9' h9' tk9' cells9' FG9' F9' N9' Y9' B9' X9' T9' l19 hBs; (try k_lt l19); k_cells Y9'; (try simp only [List.cons_append, List.nil_append] at N9'); (try dsimp only); (try k_lift B9'); (try k_fold))
  k_with "eval ListComp" => (k_here; (with_reducible show wpAny _ _ (eval (PySem.Expr.ListComp (PySem.Expr.Tuple _ _ _) _ _ _) _) _ _ _); k_dflt (refine mc_comp (by with_unfolding_all rfl) (by with_unfolding_all rfl) (by decide) (by rfl) (by decide) (by rfl) (by rfl) (by decide) (by decide) (by decide) ?_))
  k_with "call type:enumerate" => (k_here; (with_reducible show wpAny _ _ (call (Value.type _) [Value.ref _]) (McSrc _) _ _); k_dflt (refine' mc_call ?F_14 ?N_14 ?m_14 ?_; (case F_14 => k_asm); (case N_14 => k_asm); (case m_14 => k_mem)); intro D9' T9' ti9' h9' tk9' F9' N9' l19 l29; (try k_lt l19); (k_lt2 l29); (have l29 := LoA.tr l19 l29); (try k_sweep); (try dsimp only))
  k_with "mine_split" => first | exact Split.here | (apply Split.skip; walk_at "mine_split")
  k_with "eval GeneratorExp" => (k_here; k_dflt (refine' gen_make ?F_16 (Split.toNews ?N_16 ?sp_16) ?h51_16 ?tb_16 ?G_16 ?X_16 ?T_16 ?hh_16 ?hcode_16 ?hgl_16 ?room_16 ?hek_16 ?hey_16 ?hdy_16 ?hvy_16 ?hml_16 ?hmc_16 ?hoc_16 ?hms_16 ?hmd_16 ?hfm_16 ?hq_16 ?hco_16 ?hclos_16 ?hcell_16 ?h0_16 ?hx_16 ?hsn_16 ?hkind_16 ?hdx_16 ?hds_16 ?hdc_16 ?_); (case F_16 => k_asm); (case N_16 => k_asm); (case sp_16 => walk_at "mine_split"); (case h51_16 => k_all); (case tb_16 => assumption); (case G_16 => assumption); (case X_16 => k_asm); (case T_16 => k_asm); (case hh_16 => rfl); (case hcode_16 => rfl); (case hgl_16 => rfl); (case room_16 => ktr_room); (case hek_16 => rfl); (case hey_16 => with_unfolding_all rfl); (case hdy_16 => decide); (case hvy_16 => with_unfolding_all rfl); (case hml_16 => k_mem); (case hclos_16 => with_unfolding_all rfl); (case hmc_16 => k_mem); (case hoc_16 => assumption); (case hms_16 => k_mem); (case hmd_16 => k_mem); (case hfm_16 => k_get); (case hq_16 => omega); (case hco_16 => rfl); (case hcell_16 => decide); (case h0_16 => rfl); (case hx_16 => rfl); (case hsn_16 => rfl); (case hkind_16 => rfl); (case hdx_16 => decide); (case hds_16 => decide); (case hdc_16 => decide); intro a9' tb9' h9' g9' tk9' G9' TB9' F9' N9' X9'; (try k_sweep))
  k_with "call type:tuple" => (k_here; k_dflt (refine' call_tuple_tup ?T_17 ?_); (case T_17 => exact News.isTup (by k_asm) (by k_mem)); (try dsimp only))
  k_with "call type:tuple" => (k_here; (rename GenR _ _ _ _ _ _ _ _ _ _ => gX9'); k_dflt (refine' gen_tuple ?F_18 ?N_18 ?G_18 gX9' ?_); (case F_18 => k_asm); (case N_18 => k_asm); (case G_18 => assumption); intro D9' t19' t29' h9' g9' tk9' G9' F9' N9' l19; clear gX9'; (try k_lt l19); (try k_sweep))
  k_with "mine_reg" => (w_on; (have _h : (PySem.Challenge.rw_kh0013_01 = PySem.Challenge.rw_kh0013_01) ∧ (Mine.hd.heap_1 = Mine.hd.heap_1) := by (k_fill; exact ⟨rfl, rfl⟩)); clear _h)
  k_with "mine_enter" => (refine' enter_def ?k1_20 ?k2_20 ?k3_20 ?k4_20 ?k5_20 ?kA_20 ?kF_20 ?kK_20 ?k6_20 ?k7_20 ?k8_20 ?k9_20 ?kB_20 ?_ ?c2_20 ?c3_20 ?c4_20 ?c5_20; (case kA_20 => exact rfl); (case kF_20 => exact rfl); (case kK_20 => first | exact rfl | assumption); (case k1_20 => k_asm); (case k2_20 => k_asm); (case k3_20 => k_asm); (case k4_20 => k_asm); (case k5_20 => k_asm); (case k6_20 => k_is); (case k7_20 => k_is); (case k8_20 => ktr_room); (case k9_20 => exact BindsTo.of_eq rfl); (case c5_20 => decide); (case kB_20 => exact locs rfl); (case c2_20 => exact rfl); (case c3_20 => exact rfl); (case c4_20 => exact rfl); k_whole; intro g9' L9' h9' FG9' F9' N9' B9' X9' T9' hBs; (try dsimp only); (try k_lift B9'); (try k_fold))
  k_with "mine_sit" => (refine' Sit.mk ?B_21 ?F_21 ?X_21 (Split.toNews ?N_21 ?sp_21) ?T_21 ?hk_21 ?G_21 ?TB_21 ?n51_21 ?hdp_21 ?hun_21; (case B_21 => k_asm); (case F_21 => k_asm); (case X_21 => k_asm); (case N_21 => k_asm); (case sp_21 => walk_at "mine_split"); (case T_21 => k_asm); (case hk_21 => first | exact rfl | assumption); (case G_21 => assumption); (case TB_21 => assumption); (case n51_21 => first | assumption | k_all); (case hdp_21 => ktr_room); (case hun_21 => ktr_units))
  k_with "mine_ret" => (intro x9' d9' ml9' mp9' cf9' tb9' h9' g9' tk9' e19' e29' e39' e49' e59' e69' e79' q19' q29' r19' r29' G9' TB9' F9' N9' l19 l29 l39 l49 l59; (try k_lt l19); (k_lt2 l29); (have l29 := LoA.tr l19 l29); (k_lt2 l39); (have l39 := LoA.tr l29 l39); (k_lt2 l49); (have l49 := LoA.tr l39 l49); (k_lt2 l59); (have l59 := LoA.tr l49 l59); (try k_sweep); (try dsimp only))
  k_with "call ref" => (k_here; (with_reducible show wpAny _ _ (call (Value.ref 192) _) _ _ _); k_dflt (refine' mkS ?S_23 ?hlc_23 ?hmt_23 ?h2_23 ?h3_23 ?_); (case S_23 => walk_at "mine_sit"); (case hlc_23 => k_mem); (case hmt_23 => k_mem); (case h2_23 => first | assumption | omega); (case h3_23 => first | assumption | omega); walk_at "mine_ret"; (try dsimp only))
  k_with "mine_fq" => (refine' And.intro ?f1_24 (And.intro (Exists.intro _ (Exists.intro _ (Exists.intro _ (Exists.intro _ (Exists.intro _ (Exists.intro _ (Exists.intro _ ?f2_24))))))) (And.intro ?f3_24 (And.intro (Exists.intro _ (Exists.intro _ ?f4_24)) (And.intro (Exists.intro _ (Exists.intro _ ?f5_24)) (Exists.intro _ (Exists.intro _ (Exists.intro _ ?f6_24))))))); (case f1_24 => k_mem); (case f2_24 => k_mem); (case f3_24 => k_mem); (case f4_24 => k_mem); (case f5_24 => k_mem); (case f6_24 => k_mem))
  k_with "call ref" => (k_here; (with_reducible show wpAny _ _ (call (Value.ref 181) _) _ _ _); k_dflt (refine' made ?S_25 ?hS_25 ?hlc_25 ?h2_25 ?h3_25 ?_); (case S_25 => walk_at "mine_sit"); (case hS_25 => walk_at "mine_fq"); (case hlc_25 => k_mem); (case h2_25 => first | assumption | omega); (case h3_25 => first | assumption | omega); walk_at "mine_ret"; (try dsimp only))
  k_with "mine_lt" => first | (refine LoA.allLt ?_; (try dsimp only [adr_cons, adr_nil, adr_consA, adr_nilA]); with_reducible assumption) | (refine' LoA.ltSuf ?hZs ?mZs; (case hZs => with_reducible assumption); (case mZs => with_reducible (intro _ hq; (repeat (first | exact hq | refine List.mem_cons_of_mem _ ?_)); done))) | exact allLt_nil | (refine allLt_cons ?mltZ ?_; (case mltZ => first | with_reducible assumption | (refine' LoA.lt ?hZq ?mZq; (case hZq => with_reducible assumption); (case mZq => ((first | ((repeat (with_reducible (first | exact adr_hd | refine adr_tl ?_ | exact List.mem_cons_self | refine List.mem_cons_of_mem _ ?_))); done) | ((with_reducible show @Membership.mem _ _ _ _ (@OfNat.ofNat _ (nat_lit 51) _)); k_dflt ((repeat (first | exact adr_hd | refine adr_tl ?_ | exact List.Mem.head _ | refine List.Mem.tail _ ?_)); done)))))) | (refine' LoA.ltS ?hZq ?mZq; (case hZq => with_reducible assumption); (case mZq => ((first | ((repeat (with_reducible (first | exact adr_hd | refine adr_tl ?_ | exact List.mem_cons_self | refine List.mem_cons_of_mem _ ?_))); done) | ((with_reducible show @Membership.mem _ _ _ _ (@OfNat.ofNat _ (nat_lit 51) _)); k_dflt ((repeat (first | exact adr_hd | refine adr_tl ?_ | exact List.Mem.head _ | refine List.Mem.tail _ ?_)); done))))))); walk_at "mine_lt")
  k_with "UnrEndW" => k_dflt (first | (refine' unr_end2 ?F_27 ?N_27 ?l_27 ?k_27 ?_; (case F_27 => k_asm); (case N_27 => k_asm); (case l_27 => walk_at "mine_lt"); (case k_27 => k_subL)) | (refine' unr_end1 ?F_27 ?N_27 ?l_27 ?k_27 ?_; (case F_27 => k_asm); (case N_27 => k_asm); (case l_27 => walk_at "mine_lt"); (case k_27 => k_subL)))
  k_with "getItem ref int" => (k_here; (with_reducible show wpAny _ _ (getItem (Value.ref _) (Value.int _ _)) _ _ _); k_dflt (refine' get_here ?N_28 ?m_28 ?a_28 ?b_28 ?x_28 ?_; (case N_28 => k_asm); (case m_28 => k_mem); (case a_28 => decide); (case b_28 => decide); (case x_28 => rfl); k_whole))
  k_with "subscriptTail" => (k_here; (with_reducible show wpAny _ _ (subscriptTail _ _ (Value.ref _) (Value.int _ _)) _ _ _); with_unfolding_all (first | (refine' item_tupleT ?t_29 ?a_29 ?b_29 ?c_29 ?d_29 ?_ ?e_29; (case t_29 => exact News.isTup (by k_asm) (by k_mem)); (case a_29 => decide); (case b_29 => decide); (case c_29 => rfl); (case d_29 => rfl); (case e_29 => with_unfolding_all rfl); k_whole) | (refine' sub_here ?N_29 ?m_29 ?k2_29 ?k3_29 ?k4_29 ?_ ?k6_29; (case N_29 => k_asm); (case m_29 => k_mem); (case k2_29 => decide); (case k3_29 => decide); (case k4_29 => rfl); (case k6_29 => with_unfolding_all rfl); k_whole)))
  k_with "setItem ref int" => (k_here; k_dflt (refine' ki_set ?F_30 ?N_30 ?a_30 ?b_30 ?e_30 ?U_30 ?_; (case F_30 => k_asm); (case N_30 => k_asm); (case U_30 => k_upd); (case a_30 => decide); (case b_30 => decide); (case e_30 => rfl)); ki_rest; (try dsimp only))
  k_with "binaryOp Mult ref int" => (k_here; (with_reducible show wpAny _ _ (binaryOp Operator.Mult (Value.ref _) (Value.int _ _)) _ _ _); k_dflt (refine' KMa.mul ?F_31 ?N_31 ?l_31 ?lo_31 ?hi_31 ?z_31 ?e_31 ?_; (case F_31 => k_asm); (case N_31 => k_asm); (case l_31 => is_list); (case lo_31 => first | omega | decide); (case hi_31 => first | omega | decide); (case z_31 => (simp only [List.length_cons, List.length_nil]; decide)); (case e_31 => (simp only [Int.reduceMul, Int.reduceSub, Int.reduceAdd, Int.reduceToNat, List.replicate_succ, List.replicate_zero, List.flatten_cons, List.flatten_nil, List.cons_append, List.nil_append, List.append_nil]; first | done | exact rfl)); k_whole); intro D9' h9' F9' N9' l19; (try k_lt l19); (try k_sweep); (try dsimp only))
  k_with "subscriptTail Name Name ref int" => (k_here; k_dflt (refine' sub_here ?N_32 ?m_32 ?k2_32 ?k3_32 ?k4_32 ?_ ?k6_32; (case N_32 => k_asm); (case m_32 => k_mem); (case k2_32 => decide); (case k3_32 => decide); (case k4_32 => rfl); (case k6_32 => with_unfolding_all rfl); k_whole); (try dsimp only))
  k_with "subscriptTail Name BinOp ref int" => (k_here; k_dflt (refine' sub_here ?N_33 ?m_33 ?k2_33 ?k3_33 ?k4_33 ?_ ?k6_33; (case N_33 => k_asm); (case m_33 => k_mem); (case k2_33 => decide); (case k3_33 => decide); (case k4_33 => rfl); (case k6_33 => with_unfolding_all rfl); k_whole); (try dsimp only))
  k_with "subscriptTail Name Constant ref int" => (k_here; k_dflt (refine' sub_here ?N_34 ?m_34 ?k2_34 ?k3_34 ?k4_34 ?_ ?k6_34; (case N_34 => k_asm); (case m_34 => k_mem); (case k2_34 => decide); (case k3_34 => decide); (case k4_34 => rfl); (case k6_34 => with_unfolding_all rfl); k_whole); (try dsimp only))
  k_with "FinA" => ((unfold LCg.FinA); intro D9' h9' tk9' F9' N9' o19'; (have o519' := Ne51.intro (off1_ne (a := 51) o19' (by k_dflt k_mem))); (try simp only [List.nil_append, List.cons_append] at N9'); (try dsimp only))
  k_with "call ref" => (k_here; (with_reducible show wpAny _ _ (call (Value.ref 42) _) _ _ _); k_dflt (refine' deg3 ?B_36 ?F_36 ?X_36 ?N_36 ?T_36 ?hk_36 ?hl_36 ?hdp_36 ?hun_36 ?_); (case B_36 => k_asm); (case F_36 => k_asm); (case X_36 => k_asm); (case N_36 => k_asm); (case T_36 => k_asm); (case hk_36 => first | exact rfl | assumption); (case hl_36 => k_mem); (case hdp_36 => ktr_room); (case hun_36 => ktr_units); intro d99' t9' h9' tk9' F9' N9' q99'; (first | ((have e99' : d99' = 2 := by omega); subst e99') | ((have e99' : d99' = 1 := by omega); subst e99') | ((have e99' : d99' = 0 := by omega); subst e99')); clear q99'; (try k_sweep); (try dsimp only))
  k_with "call ref" => (k_here; (with_reducible show wpAny _ _ (call (Value.ref 35) _) _ _ _); k_dflt (refine' pfiS ?B_37 ?F_37 ?X_37 ?N_37 ?T_37 ?hk_37 ?h0_37 ?h1_37 ?h2_37 ?hg_37 ?hdp_37 ?hun_37 ?_); (case B_37 => k_asm); (case F_37 => k_asm); (case X_37 => k_asm); (case N_37 => k_asm); (case T_37 => k_asm); (case hk_37 => first | exact rfl | assumption); (case h0_37 => assumption); (case h1_37 => assumption); (case h2_37 => assumption); (case hg_37 => assumption); (case hdp_37 => ktr_room); (case hun_37 => ktr_units); intro r99' t9' h9' tk9' F9' N9' q99'; (have nz99' := pfi_ne q99'); replace q99' := PfiR.intro q99'; (try k_sweep); (try dsimp only))
  k_with "execs cons" => ((try dsimp only); (try k_extra "mine_fold"); first | (refine let_one ?_; intro s7 Qk) | (refine let_cons ?_; intro s7 Qk Qk))
  k_with "eval Constant int" => (refine wpAny_Constant_int ?_; (try dsimp only))
  k_with "newList" => (k_here; k_dflt (refine' newList_K ?k1 ?k2 ?_; (case k1 => k_asm); (case k2 => k_asm); k_whole); intro l9' h9' F9' N9' l19; (try k_lt l19); (try k_sweep); (try dsimp only))
  k_with "mine_ne" => k_dflt (refine neN ?_; (try dsimp only); first | (with_reducible assumption) | (refine' LoA.ne ?hZq ?mZq; (case hZq => with_reducible assumption); (case mZq => ((first | ((repeat (with_reducible (first | exact adr_hd | refine adr_tl ?_ | exact List.mem_cons_self | refine List.mem_cons_of_mem _ ?_))); done) | ((with_reducible show @Membership.mem _ _ _ _ (@OfNat.ofNat _ (nat_lit 51) _)); k_dflt ((repeat (first | exact adr_hd | refine adr_tl ?_ | exact List.Mem.head _ | refine List.Mem.tail _ ?_)); done)))))) | (refine' LoA.ne' ?hZq ?mZq; (case hZq => with_reducible assumption); (case mZq => ((first | ((repeat (with_reducible (first | exact adr_hd | refine adr_tl ?_ | exact List.mem_cons_self | refine List.mem_cons_of_mem _ ?_))); done) | ((with_reducible show @Membership.mem _ _ _ _ (@OfNat.ofNat _ (nat_lit 51) _)); k_dflt ((repeat (first | exact adr_hd | refine adr_tl ?_ | exact List.Mem.head _ | refine List.Mem.tail _ ?_)); done)))))) | (refine' OffA.ne ?hZq ?mZq; (case hZq => with_reducible assumption); (case mZq => ((first | ((repeat (with_reducible (first | exact adr_hd | refine adr_tl ?_ | exact List.mem_cons_self | refine List.mem_cons_of_mem _ ?_))); done) | ((with_reducible show @Membership.mem _ _ _ _ (@OfNat.ofNat _ (nat_lit 51) _)); k_dflt ((repeat (first | exact adr_hd | refine adr_tl ?_ | exact List.Mem.head _ | refine List.Mem.tail _ ?_)); done)))))) | (refine' OffA.ne' ?hZq ?mZq; (case hZq => with_reducible assumption); (case mZq => ((first | ((repeat (with_reducible (first | exact adr_hd | refine adr_tl ?_ | exact List.mem_cons_self | refine List.mem_cons_of_mem _ ?_))); done) | ((with_reducible show @Membership.mem _ _ _ _ (@OfNat.ofNat _ (nat_lit 51) _)); k_dflt ((repeat (first | exact adr_hd | refine adr_tl ?_ | exact List.Mem.head _ | refine List.Mem.tail _ ?_)); done)))))) | (refine' LoA.neS ?hZq ?mZq; (case hZq => with_reducible assumption); (case mZq => ((first | ((repeat (with_reducible (first | exact adr_hd | refine adr_tl ?_ | exact List.mem_cons_self | refine List.mem_cons_of_mem _ ?_))); done) | ((with_reducible show @Membership.mem _ _ _ _ (@OfNat.ofNat _ (nat_lit 51) _)); k_dflt ((repeat (first | exact adr_hd | refine adr_tl ?_ | exact List.Mem.head _ | refine List.Mem.tail _ ?_)); done)))))) | (refine' LoA.neS' ?hZq ?mZq; (case hZq => with_reducible assumption); (case mZq => ((first | ((repeat (with_reducible (first | exact adr_hd | refine adr_tl ?_ | exact List.mem_cons_self | refine List.mem_cons_of_mem _ ?_))); done) | ((with_reducible show @Membership.mem _ _ _ _ (@OfNat.ofNat _ (nat_lit 51) _)); k_dflt ((repeat (first | exact adr_hd | refine adr_tl ?_ | exact List.Mem.head _ | refine List.Mem.tail _ ?_)); done)))))) | (refine' LoA.neT ?hZq ?mZq; (case hZq => with_reducible assumption); (case mZq => ((first | ((repeat (with_reducible (first | exact adr_hd | refine adr_tl ?_ | exact List.mem_cons_self | refine List.mem_cons_of_mem _ ?_))); done) | ((with_reducible show @Membership.mem _ _ _ _ (@OfNat.ofNat _ (nat_lit 51) _)); k_dflt ((repeat (first | exact adr_hd | refine adr_tl ?_ | exact List.Mem.head _ | refine List.Mem.tail _ ?_)); done)))))) | (refine' LoA.neT' ?hZq ?mZq; (case hZq => with_reducible assumption); (case mZq => ((first | ((repeat (with_reducible (first | exact adr_hd | refine adr_tl ?_ | exact List.mem_cons_self | refine List.mem_cons_of_mem _ ?_))); done) | ((with_reducible show @Membership.mem _ _ _ _ (@OfNat.ofNat _ (nat_lit 51) _)); k_dflt ((repeat (first | exact adr_hd | refine adr_tl ?_ | exact List.Mem.head _ | refine List.Mem.tail _ ?_)); done)))))) | exact neS_self | exact neS_self' | ((refine Ne51.ne ?_); with_reducible assumption) | ((refine Ne51.ne' ?_); with_reducible assumption) | (refine' off1_ne ?o1 ?m1; (case o1 => with_reducible assumption); (case m1 => first | k_mem | k_dflt k_mem)) | (refine' Ne.symm (off1_ne ?o1 ?m1); (case o1 => with_reducible assumption); (case m1 => first | k_mem | k_dflt k_mem)) | k_extra "mine_om")
  k_with "mine_om" => ((try simp only [LoA.cons_iff, LoA.nil_iff, and_true] at *); omega)
  walk_at "mine_reg"
  obtain ⟨B, F, X, N, T, hk, G, TB, n51, hdp, hun⟩ := S
  obtain ⟨ha1, ⟨ae1, ae2, ae3, ae4, ae5, ae6, ae7, ha2⟩, ha3, ⟨aq1, aq2, ha4⟩, ⟨ar1, ar2, ha5⟩, at1, at2, ak, ha6⟩ := hA
  have Nr : News h₀ L s.heap news := fun q hq => N q (.tail _ hq)
  let R6 : List (Addr × Obj) := [(ax, instObj 192 ad), (ad, fqDict w.params ae1 ae2 ae3 ae4 ae5 ae6 ae7 aml acf amt n), (la, ({ cls := .type "list", data := .seq #[.int x t0, .int y t1, .int 0 t2] ka } : Obj)), (lb, ({ cls := .type "list", data := .seq #[.int 1 t3, .int z t4, .int 0 t5] kb } : Obj))]
  have hs6 : ∀ q ∈ R6, q ∈ news := (List.forall_mem_cons.mpr ⟨ha1, (List.forall_mem_cons.mpr ⟨ha2, (List.forall_mem_cons.mpr ⟨hla, (List.forall_mem_cons.mpr ⟨hlb, (fun _ h => nomatch h)⟩)⟩)⟩)⟩)
  have N1 : News h₀ L s.heap ((51, tb) :: R6) := fun q hq => (List.mem_cons.mp hq).elim (fun e => e ▸ N _ (.head _)) (fun hq => Nr q (hs6 q hq))
  have hg6 : ∀ q ∈ R6, s.heap.get? q.1 = some q.2 := fun q hq => (Nr q (hs6 q hq)).1
  have h516 : ∀ q ∈ R6, q.1 ≠ 51 := fun q hq => n51 q (hs6 q hq)
  have ne0 := Ne51.intro (neN (n51 _ ha1))
  have ne1 := Ne51.intro (neN (n51 _ ha2))
  have ne2 := Ne51.intro (neN (n51 _ hla))
  have ne3 := Ne51.intro (neN (n51 _ hlb))
  dsimp only at ne0 ne1 ne2 ne3
  refine wpAny_call ?_
  clear N
  k_dflt (walk_at "mine_enterC")
  clear N1
  refine let_entry ?_
  intro M9 A9 e9 E9 Qk
  k_extra "mine_fold"
  w_strict (repeat' (k_extra "mine_step"))
  rename Based0 _ _ _ _ => hB0
  rename Fr _ _ _ m => kF
  rename News h₀ L _ _ => kN
  have Nr2 := rest_end hB0 (by assumption) Nr kN n51 hg6 (fun q hq => by (repeat (first | exact hq | refine List.Mem.tail _ ?_)))
  simp only [Int.sub_self, Int.zero_mul, Int.add_zero, Int.zero_add, Int.one_mul, Int.zero_fmod] at kN
  refine' hret _ _ _ _ _ _ kF (news_cons kN ?m1 (news_cons kN ?m2 Nr2)) ?o ?f ?g
  case m1 => k_mem
  case m2 => k_mem
  case f => exact PfiR.out (by assumption)
  case g => exact Int.fmod_eq_emod_of_nonneg _ (by (first | omega | k_extra "mine_om"))
  case o =>
    refine' fresh_all hB0 ?Nc ?hD ?off Nr ?h51
    case Nc => assumption
    case hD => k_mem
    case h51 => exact .head _
    case off => k_all
end
end C7_part
/-! T3 -/
section T3_part
theorem em_ex {a b n : Int} (h : a % n = b) : ∃ k, a = b + n * k := ⟨a / n, by rw [← h]; exact (Int.emod_add_mul_ediv a n).symm⟩
theorem fm_ex {a b n : Int} (h2 : 1 < n) (h : a.fmod n = b) : ∃ k, a = b + n * k := em_ex (by rw [← h, Int.fmod_eq_emod_of_nonneg _ (by omega)])
theorem em_one {a n K : Int} (h2 : 1 < n) (h : a = 1 + n * K) : a % n = 1 := by
  rw [h, Int.add_mul_emod_self_left]; exact Int.emod_eq_of_lt (by omega) h2
theorem em_zero {a n K : Int} (h : a = n * K) : a % n = 0 := by rw [h]; exact Int.mul_emod_right n K
theorem em_rg {a n : Int} (h2 : 1 < n) : 0 ≤ a % n ∧ a % n < n := ⟨Int.emod_nonneg _ (by omega), Int.emod_lt_of_pos _ (by omega)⟩
theorem fm_zero {a n K : Int} (h2 : 1 < n) (h : a = n * K) : a.fmod n = 0 := by rw [Int.fmod_eq_emod_of_nonneg _ (by omega)]; exact em_zero h
def QIs (q y Z n : Int) : Prop := q = (y * Z) % n
theorem QIs.intro {q y Z n : Int} (h : q = (y * Z) % n) : QIs q y Z n := h
theorem pfz {Y y n : Int} (h2 : 1 < n) (h : PfiR Y y n) : (1 - y * Y).fmod n = 0 := by
  obtain ⟨k, hk⟩ := em_ex h.2.2
  exact fm_zero (K := -k) h2 (by grind)
theorem pz2 {y z q Z n : Int} (h2 : 1 < n) (h : PfiR Z z n) (e : QIs q y Z n) : (y - z * q).fmod n = 0 := by
  obtain ⟨k, hk⟩ := em_ex h.2.2
  obtain ⟨j, hj⟩ := em_ex (show (y * Z) % n = q from e.symm)
  exact fm_zero (K := z * j - y * k) h2 (by grind)
/-- one turn and the second part left is nought -/
theorem invA {x y n Y Z c : Int} (h2 : 1 < n) (qA : PfiR Y y n) (hz : (-(x * Y)).fmod n = 0) (hc : (-Y).fmod n = c) (qZ : PfiR Z 1 n) :
    ((0 * Z) % n * x - (c.fmod n * Z) % n * y) % n = 1 ∧ ((0 * Z) % n * y + (c.fmod n * Z) % n * x) % n = 0 := by
  obtain ⟨k1, e1⟩ := em_ex qA.2.2
  obtain ⟨k2, e2⟩ := fm_ex h2 hz
  obtain ⟨k3, e3⟩ := fm_ex h2 hc
  obtain ⟨k4, e4⟩ := em_ex qZ.2.2
  obtain ⟨k5, e5⟩ := fm_ex h2 (rfl : c.fmod n = c.fmod n)
  obtain ⟨k6, e6⟩ := em_ex (rfl : (c.fmod n * Z) % n = (c.fmod n * Z) % n)
  have e7 : (0 * Z) % n = 0 := by simp
  rw [e7]
  clear qA hz hc qZ
  generalize (c.fmod n * Z) % n = v at *
  generalize c.fmod n = c' at *
  -- v = c' Z - n k6, c' = c - n k5, c = -Y - n k3, Z = 1 + n k4
  have ev : v = -Y + n * (-k3 - k5 + c' * k4 - k6) := by grind
  generalize -k3 - k5 + c' * k4 - k6 = t at ev
  constructor
  · exact em_one (K := k1 - t * y) h2 (by grind)
  · exact em_zero (K := k2 + t * x) (by grind)
/-- two turns -/
theorem invB {x y n Y z Zz q c d e Z : Int} (h2 : 1 < n) (qA : PfiR Y y n) (hz : (-(x * Y)).fmod n = z) (hc : (-Y).fmod n = c) (qB : PfiR Zz z n) (eq : QIs q y Zz n) (hd : (x - q).fmod n = d) (he : (-(c * q)).fmod n = e) (qZ : PfiR Z d n) :
    ((1 * Z) % n * x - (e.fmod n * Z) % n * y) % n = 1 ∧ ((1 * Z) % n * y + (e.fmod n * Z) % n * x) % n = 0 := by
  obtain ⟨k1, e1⟩ := em_ex qA.2.2
  obtain ⟨k2, e2⟩ := fm_ex h2 hz
  obtain ⟨k3, e3⟩ := fm_ex h2 hc
  obtain ⟨k4, e4⟩ := em_ex qB.2.2
  obtain ⟨k5, e5⟩ := em_ex (show (y * Zz) % n = q from eq.symm)
  obtain ⟨k6, e6⟩ := fm_ex h2 hd
  obtain ⟨k7, e7⟩ := fm_ex h2 he
  obtain ⟨k8, e8⟩ := em_ex qZ.2.2
  obtain ⟨k9, e9⟩ := fm_ex h2 (rfl : e.fmod n = e.fmod n)
  obtain ⟨k10, e10⟩ := em_ex (rfl : (e.fmod n * Z) % n = (e.fmod n * Z) % n)
  obtain ⟨k11, e11⟩ := em_ex (rfl : (1 * Z) % n = (1 * Z) % n)
  clear qA hz hc qB eq hd he qZ
  generalize (1 * Z) % n = u at *
  generalize (e.fmod n * Z) % n = v at *
  generalize e.fmod n = e' at *
  have eu : u = Z - n * k11 := by omega
  have ec : c = -Y - n * k3 := by omega
  have he1 : e' = Y * q + n * (k3 * q - k7 - k9) := by
    have : e' = -(c * q) - n * k7 - n * k9 := by omega
    rw [this, ec]; grind
  generalize k3 * q - k7 - k9 = t at he1
  have ev : v = Y * q * Z + n * (t * Z - k10) := by
    have : v = e' * Z - n * k10 := by omega
    rw [this, he1]; grind
  generalize t * Z - k10 = r at ev
  clear e9 e10 e11 he1 e7 e3 ec
  constructor
  · have s1 : u * x - v * y = Z * (x - q) - (Y * y - 1) * (q * Z) - n * (k11 * x + r * y) := by rw [eu, ev]; grind
    refine em_one (K := k8 + Z * k6 - k1 * q * Z - k11 * x - r * y) h2 ?_
    have s3 : Z * (d + n * k6) = Z * d + n * (Z * k6) := by grind
    rw [s1, e6, e1, s3, e8]
    grind
  · have s2 : u * y + v * x = Z * y - -(x * Y) * (q * Z) + n * (r * x - k11 * y) := by rw [eu, ev]; grind
    have a1 : z * q = y + n * (y * k4 - z * k5) := by
      have h1 : q = y * Zz - n * k5 := by omega
      have h3 : z * (y * Zz - n * k5) = y * (Zz * z) - n * (z * k5) := by grind
      rw [h1, h3, e4]; grind
    refine em_zero (K := Z * (-(k2 * q) - (y * k4 - z * k5)) - k11 * y + r * x) ?_
    have s4 : Z * y - (z + n * k2) * (q * Z) = Z * y - (z * q) * Z - n * (k2 * q * Z) := by grind
    rw [s2, e2, s4, a1]
    grind
theorem dNe {x y n Y z Zz q d : Int} (h2 : 1 < n) (qA : PfiR Y y n) (hz : (-(x * Y)).fmod n = z) (qB : PfiR Zz z n) (eq : QIs q y Zz n) (hd : (x - q).fmod n = d) (hn : (x * x + y * y) % n ≠ 0) : 1 ≤ d := by
  have h0 : 0 ≤ d := by rw [← hd, Int.fmod_eq_emod_of_nonneg _ (by omega)]; exact Int.emod_nonneg _ (by omega)
  have : d ≠ 0 := by
    rintro rfl
    refine hn ?_
    obtain ⟨k1, e1⟩ := em_ex qA.2.2
    obtain ⟨k2, e2⟩ := fm_ex h2 hz
    obtain ⟨k4, e4⟩ := em_ex qB.2.2
    obtain ⟨k5, e5⟩ := em_ex (show (y * Zz) % n = q from eq.symm)
    obtain ⟨k6, e6⟩ := fm_ex h2 hd
    clear qA hz qB eq hd hn
    -- x = q + n k6;  z q = y + n a;  x Y = -z - n k2;  x = x Y y - n x k1
    have a1 : z * q = y + n * (y * k4 - z * k5) := by grind
    generalize y * k4 - z * k5 = a at a1
    have a2 : x * x = -(y * y) + n * (-(y * a) - k2 * y * q - x * k1 * q + x * k6) := by
      have b1 : x = x * Y * y - n * (x * k1) := by grind
      have b2 : x = -(z * y) - n * (k2 * y) - n * (x * k1) := by grind
      have b3 : x * q = -(z * q * y) - n * (k2 * y * q) - n * (x * k1 * q) := by grind
      grind
    exact em_zero (K := -(y * a) - k2 * y * q - x * k1 * q + x * k6) (by rw [a2]; grind)
  omega
end T3_part
/-! C8 -/
section C8_part
open PySem PySem.W PyProof.Rows PySem.Calls
--PDIV
theorem tupAt_led {ax : Addr} {its : Array Value} {k : Nat} {news : List (Addr × Obj)} (hm : (ax, ({ cls := .type "tuple", data := .seq its k } : Obj)) ∈ news) : TupAt ax its news := ⟨k, hm⟩
section
variable {w : World} {p : Program} {loose : List Str} {mean : ExcName → Option Value} {mg mb : Str → Option Value} {dp un : Nat} {gd : Option (List Code)} {cn : Str} {cs : Scope} {a : Addr} {ccd : Value} {cl : List (Str × Addr)} {outer : List Env} {A₀ : Around} {base h₀ : Heap} {L : Addr} {m : Str → Option Value} {tb : Obj} {news : List (Addr × Obj)} {s : Shared} {Q E : Value → Shared → Prop}
theorem pfi_uni {r r' x n : Int} (h : PfiR r x n) (h' : PfiR r' x n) : r = r' := by
  obtain ⟨a, b, c⟩ := h
  obtain ⟨a', b', c'⟩ := h'
  have e1 : (r * (r' * x)) % n = r % n := by rw [Int.mul_emod, c', Int.mul_one, Int.emod_emod]
  have e2 : (r' * (r * x)) % n = r' % n := by rw [Int.mul_emod, c, Int.mul_one, Int.emod_emod]
  have e3 : r * (r' * x) = r' * (r * x) := by grind
  rw [e3, e2, Int.emod_eq_of_lt a b, Int.emod_eq_of_lt a' b'] at e1
  exact e1.symm
set_option maxRecDepth 100000 in
set_option maxHeartbeats 2000000 in
theorem divI {ax ad aml amp acf amt : Addr} {n x y z : Int} {tz : Tok} (S : Sit w p loose mean mg mb 6 dp un cs outer A₀ base h₀ L m tb news s)
    (ha : FqAt w.params news ax ad aml amp acf amt n x y) (h2 : 1 < n) (h3 : n < 1000) (hx : 0 ≤ x ∧ x < n) (hy : 0 ≤ y ∧ y < n) (hz : 1 ≤ z) (hz' : z < n) (hg : Int.gcd z n = 1)
    (hret : ∀ Z, 0 ≤ Z ∧ Z < n ∧ (Z * z) % n = 1 → RetFq w h₀ L m news s Q amt n ((x * Z) % n) ((y * Z) % n)) :
    wpAny (model PySem.Challenge.rw_kh0013_01.row.prog w) (ktrTop dp un gd cn cs L a ccd cl outer) (call (.ref 95) [.ref ax, .int z tz]) Q E s := by
  k_with_none
  k_with "storeName" => (k_here; k_dflt (refine' storeX_L2 ?Fst ?Nst ?_ ?ast ?bst; (case Fst => k_asm); (case Nst => k_asm); (case ast => rfl); (case bst => rfl); k_whole); intro m7 n7 h9' F7 N7; (try k_sweep))
  k_with "mine_fold" => first | (have F8 := F7; have N8 := N7; clear F8 N8) | (rename Fr _ _ _ _ => F7; rename News _ _ _ _ => N7; revert F7 N7; refine let_FN ?_; intro m7 n7 F7 N7)
  k_with "mine_step" => (first | (with_reducible show Qk _ _; dsimp only [Qk]; clear Qk) | (k_unfold; (try dsimp only)) | (k_end; kc_close) | walk1 | (dsimp only; walk1) | (leave1; walk_say "STEP leave1"; (try dsimp only)))
  k_with "mine_lo" => skip
  k_with "CompRest" => (with_unfolding_all first | (refine LCg.CompRest.succ ?_; intro v9' I9' oI9' C9' oC9' D9' m9' h9' tk9' E9' hv9' hC9' hx9' F9' N9' off9' ne9'; clear ne9'; (first | lcg_open hv9' | (obtain ⟨t99', hv99'⟩ := hv9'; subst hv99'))) | refine LCg.CompRest.zero ?_)
  k_with "CompEnd" => (k_here; (refine' LCg.CompEnd.intro ?F_1 ?N_1 _ (fun p hp => hp) ?off_1 ?S_1 ?_); (case F_1 => k_asm); (case N_1 => k_asm); (case off_1 => assumption); (case S_1 => (refine' srcAt_led ?m9_1; (case m9_1 => k_mem))))
  k_with "FinE" => ((unfold LCg.FinE); intro D9' h9' tk9' F9' N9' o19'; k_dflt (replace o19' := OffA.of o19'; (try dsimp only [adr_cons, adr_nil, adr_consA, adr_nilA] at o19')); (try simp only [List.nil_append, List.cons_append] at N9'); (try dsimp only))
  k_with "eval ListComp" => (k_here; k_dflt (refine LCg.ListComp_U (F₀ := by k_asm) (by with_unfolding_all rfl) (by decide) (by rfl) (by decide) (by rfl) ?_); k_dflt lcg_toSrc)
  k_with "CompSrc" => (k_here; k_dflt (refine LCg.CompSrc.ledger (by rfl) (by k_asm) (by k_asm) (by k_mem) (by first | size_fits | exact Nat.le_of_ble_eq_true rfl) ?_; intro g9'; lcg_lit))
  k_with "exec For Name Call cons nil" => (k_here; (rename Fr _ _ _ _ => lF9'); (with_unfolding_all refine' For_turns lF9' ?_; k_whole))
  k_with "pyIter ref" => (k_here; (with_reducible show wpAny _ _ (pyIter (Value.ref _)) (fun it s₂ => TurnsAt _ _ _ _ _ _ _ _ _ it s₂) _ _); (with_reducible rename IsRange _ _ _ _ _ _ _ _ => rX9'); with_unfolding_all (first | (refine' range_turns (xs := [Itm.tok (fun t => Value.int (0 : Int) t)]) ?hh_6 ?F_6 ?N_6 rX9' ?sm_6 ?hn_6 ?hx_6 ?_; (case hn_6 => decide +kernel); (case sm_6 => decide +kernel); (case hx_6 => rfl)) | (refine' range_turns (xs := [Itm.tok (fun t => Value.int (1 : Int) t), Itm.tok (fun t => Value.int (0 : Int) t)]) ?hh_6 ?F_6 ?N_6 rX9' ?sm_6 ?hn_6 ?hx_6 ?_; (case hn_6 => decide +kernel); (case sm_6 => decide +kernel); (case hx_6 => rfl)) | (refine' range_turns (xs := [Itm.tok (fun t => Value.int (0 : Int) t), Itm.tok (fun t => Value.int (1 : Int) t)]) ?hh_6 ?F_6 ?N_6 rX9' ?sm_6 ?hn_6 ?hx_6 ?_; (case hn_6 => decide +kernel); (case sm_6 => decide +kernel); (case hx_6 => rfl)) | (refine' range_turns (xs := [Itm.tok (fun t => Value.int (0 : Int) t), Itm.tok (fun t => Value.int (1 : Int) t), Itm.tok (fun t => Value.int (2 : Int) t)]) ?hh_6 ?F_6 ?N_6 rX9' ?sm_6 ?hn_6 ?hx_6 ?_; (case hn_6 => decide +kernel); (case sm_6 => decide +kernel); (case hx_6 => rfl)) | (refine' range_turns (xs := [Itm.tok (fun t => Value.int (2 : Int) t), Itm.tok (fun t => Value.int (1 : Int) t), Itm.tok (fun t => Value.int (0 : Int) t)]) ?hh_6 ?F_6 ?N_6 rX9' ?sm_6 ?hn_6 ?hx_6 ?_; (case hn_6 => decide +kernel); (case sm_6 => decide +kernel); (case hx_6 => rfl)) | (refine' range_turns (xs := []) ?hh_6 ?F_6 ?N_6 rX9' ?sm_6 ?hn_6 ?hx_6 ?_; (case hn_6 => decide +kernel); (case sm_6 => decide +kernel); (case hx_6 => rfl))); (case hh_6 => rfl); (case F_6 => k_asm); (case N_6 => k_asm); clear rX9'; intro i9' l19; (try k_lt l19))
  k_with "call type:enumerate" => (k_here; k_dflt (refine' enum_make ?F_7 ?N_7 ?m_7 ?_); (case F_7 => k_asm); (case N_7 => k_asm); (case m_7 => k_mem); intro e9' h9' F9' N9' eX9'; (try k_sweep); (try dsimp only))
  k_with "call type:enumerate" => (k_here; (with_reducible show wpAny _ _ (call (Value.type _) [Value.ref _]) (fun xv s₁ => wpAny _ _ (pyIter xv) (fun it s₂ => TurnsAt _ _ _ _ _ _ _ _ _ it s₂) _ s₁) _ _); with_unfolding_all (refine' enum_turns (vs := [_, _]) (xs := [Itm.pair (fun t => Value.int (0 : Int) t) _, Itm.pair (fun t => Value.int (1 : Int) t) _]) ?hh_8 ?F_8 ?N_8 ?hm_8 ?hc_8 ?hd_8 ?hx_8 ?_; (case hh_8 => rfl); (case F_8 => k_asm); (case N_8 => k_asm); (case hm_8 => k_mem); (case hc_8 => rfl); (case hd_8 => rfl); (case hx_8 => rfl)); intro i9' l19; (try k_lt l19); (try dsimp only))
  k_with "call type:list" => (k_here; (rename EnumF _ _ _ _ _ _ _ => eX9'); k_dflt (refine' enum_list ?hh_9 ?F_9 ?N_9 eX9' ?_); (case hh_9 => rfl); (case F_9 => k_asm); (case N_9 => k_asm); intro S9' T19' T29' k19' k29' c9' h9' tk9' F9' N9' l19 l29 l39; clear eX9'; (try k_lt l19); (k_lt2 l29); (have l29 := LoA.tr l19 l29); (k_lt2 l39); (have l39 := LoA.tr l29 l39); (try k_sweep); (try dsimp only))
  k_with "exec For Tuple Call cons nil" => (k_here; (rename Fr _ _ _ _ => lF9'); (with_unfolding_all refine' For_turns lF9' ?_; k_whole))
  k_with "exec For Tuple Attribute cons nil" => (k_here; (rename Fr _ _ _ _ => lF9'); (with_unfolding_all refine' For_turns lF9' ?_; k_whole))
  k_with "mine_enterC" => (refine' enter_defC ?k1_12 ?k2_12 ?k3_12 ?k4_12 ?k5_12 ?kA_12 ?kF_12 ?kK_12 ?k6_12 ?k7_12 ?k8_12 ?k9_12 ?kB_12 ?kD_12 ?_ ?c2_12 ?c3_12 ?c4_12; (case kA_12 => exact rfl); (case kF_12 => exact rfl); (case kK_12 => first | exact rfl | assumption); (case k1_12 => k_asm); (case k2_12 => k_asm); (case k3_12 => k_asm); (case k4_12 => k_asm); (case k5_12 => k_asm); (case k6_12 => k_is); (case k7_12 => k_is); (case k8_12 => ktr_room); (case k9_12 => exact BindsTo.of_eq rfl); (case kB_12 => exact rfl); (case kD_12 => decide +kernel); (case c2_12 => exact rfl); (case c3_12 => exact rfl); (case c4_12 => exact rfl); k_whole; intro g9' L9' h9' tk9' cells9' FG9' F9' N9' Y9' B9' X9' T9' l19 hBs; (try k_lt l19); k_cells Y9'; (try simp only [List.cons_append, List.nil_append] at N9'); (try dsimp only); (try k_lift B9'); (try k_fold))
  k_with "eval ListComp" => (k_here; (with_reducible show wpAny _ _ (eval (PySem.Expr.ListComp (PySem.Expr.Tuple _ _ _) _ _ _) _) _ _ _); k_dflt (refine mc_comp (by with_unfolding_all rfl) (by with_unfolding_all rfl) (by decide) (by rfl) (by decide) (by rfl) (by rfl) (by decide) (by decide) (by decide) ?_))
  k_with "call type:enumerate" => (k_here; (with_reducible show wpAny _ _ (call (Value.type _) [Value.ref _]) (McSrc _) _ _); k_dflt (refine' mc_call ?F_14 ?N_14 ?m_14 ?_; (case F_14 => k_asm); (case N_14 => k_asm); (case m_14 => k_mem)); intro D9' T9' ti9' h9' tk9' F9' N9' l19 l29; (try k_lt l19); (k_lt2 l29); (have l29 := LoA.tr l19 l29); (try k_sweep); (try dsimp only))
  k_with "mine_split" => first | exact Split.here | (apply Split.skip; walk_at "mine_split")
  k_with "eval GeneratorExp" => (k_here; k_dflt (refine' gen_make ?F_16 (Split.toNews ?N_16 ?sp_16) ?h51_16 ?tb_16 ?G_16 ?X_16 ?T_16 ?hh_16 ?hcode_16 ?hgl_16 ?room_16 ?hek_16 ?hey_16 ?hdy_16 ?hvy_16 ?hml_16 ?hmc_16 ?hoc_16 ?hms_16 ?hmd_16 ?hfm_16 ?hq_16 ?hco_16 ?hclos_16 ?hcell_16 ?h0_16 ?hx_16 ?hsn_16 ?hkind_16 ?hdx_16 ?hds_16 ?hdc_16 ?_); (case F_16 => k_asm); (case N_16 => k_asm); (case sp_16 => walk_at "mine_split"); (case h51_16 => k_all); (case tb_16 => assumption); (case G_16 => assumption); (case X_16 => k_asm); (case T_16 => k_asm); (case hh_16 => rfl); (case hcode_16 => rfl); (case hgl_16 => rfl); (case room_16 => ktr_room); (case hek_16 => rfl); (case hey_16 => with_unfolding_all rfl); (case hdy_16 => decide); (case hvy_16 => with_unfolding_all rfl); (case hml_16 => k_mem); (case hclos_16 => with_unfolding_all rfl); (case hmc_16 => k_mem); (case hoc_16 => assumption); (case hms_16 => k_mem); (case hmd_16 => k_mem); (case hfm_16 => k_get); (case hq_16 => omega); (case hco_16 => rfl); (case hcell_16 => decide); (case h0_16 => rfl); (case hx_16 => rfl); (case hsn_16 => rfl); (case hkind_16 => rfl); (case hdx_16 => decide); (case hds_16 => decide); (case hdc_16 => decide); intro a9' tb9' h9' g9' tk9' G9' TB9' F9' N9' X9'; (try k_sweep))
  k_with "call type:tuple" => (k_here; k_dflt (refine' call_tuple_tup ?T_17 ?_); (case T_17 => exact News.isTup (by k_asm) (by k_mem)); (try dsimp only))
  k_with "call type:tuple" => (k_here; (rename GenR _ _ _ _ _ _ _ _ _ _ => gX9'); k_dflt (refine' gen_tuple ?F_18 ?N_18 ?G_18 gX9' ?_); (case F_18 => k_asm); (case N_18 => k_asm); (case G_18 => assumption); intro D9' t19' t29' h9' g9' tk9' G9' F9' N9' l19; clear gX9'; (try k_lt l19); (try k_sweep))
  k_with "mine_reg" => (w_on; (have _h : (PySem.Challenge.rw_kh0013_01 = PySem.Challenge.rw_kh0013_01) ∧ (Mine.hd.heap_1 = Mine.hd.heap_1) := by (k_fill; exact ⟨rfl, rfl⟩)); clear _h)
  k_with "mine_enter" => (refine' enter_def ?k1_20 ?k2_20 ?k3_20 ?k4_20 ?k5_20 ?kA_20 ?kF_20 ?kK_20 ?k6_20 ?k7_20 ?k8_20 ?k9_20 ?kB_20 ?_ ?c2_20 ?c3_20 ?c4_20 ?c5_20; (case kA_20 => exact rfl); (case kF_20 => exact rfl); (case kK_20 => first | exact rfl | assumption); (case k1_20 => k_asm); (case k2_20 => k_asm); (case k3_20 => k_asm); (case k4_20 => k_asm); (case k5_20 => k_asm); (case k6_20 => k_is); (case k7_20 => k_is); (case k8_20 => ktr_room); (case k9_20 => exact BindsTo.of_eq rfl); (case c5_20 => decide); (case kB_20 => exact locs rfl); (case c2_20 => exact rfl); (case c3_20 => exact rfl); (case c4_20 => exact rfl); k_whole; intro g9' L9' h9' FG9' F9' N9' B9' X9' T9' hBs; (try dsimp only); (try k_lift B9'); (try k_fold))
  k_with "mine_sit" => (refine' Sit.mk ?B_21 ?F_21 ?X_21 (Split.toNews ?N_21 ?sp_21) ?T_21 ?hk_21 ?G_21 ?TB_21 ?n51_21 ?hdp_21 ?hun_21; (case B_21 => k_asm); (case F_21 => k_asm); (case X_21 => k_asm); (case N_21 => k_asm); (case sp_21 => walk_at "mine_split"); (case T_21 => k_asm); (case hk_21 => first | exact rfl | assumption); (case G_21 => assumption); (case TB_21 => assumption); (case n51_21 => first | assumption | k_all); (case hdp_21 => ktr_room); (case hun_21 => ktr_units))
  k_with "mine_ret" => (intro x9' d9' ml9' mp9' cf9' tb9' h9' g9' tk9' e19' e29' e39' e49' e59' e69' e79' q19' q29' r19' r29' G9' TB9' F9' N9' l19 l29 l39 l49 l59; (try k_lt l19); (k_lt2 l29); (have l29 := LoA.tr l19 l29); (k_lt2 l39); (have l39 := LoA.tr l29 l39); (k_lt2 l49); (have l49 := LoA.tr l39 l49); (k_lt2 l59); (have l59 := LoA.tr l49 l59); (try k_sweep); (try dsimp only))
  k_with "call ref" => (k_here; (with_reducible show wpAny _ _ (call (Value.ref 192) _) _ _ _); k_dflt (refine' mkS ?S_23 ?hlc_23 ?hmt_23 ?h2_23 ?h3_23 ?_); (case S_23 => walk_at "mine_sit"); (case hlc_23 => k_mem); (case hmt_23 => k_mem); (case h2_23 => first | assumption | omega); (case h3_23 => first | assumption | omega); walk_at "mine_ret"; (try dsimp only))
  k_with "mine_fq" => (refine' And.intro ?f1_24 (And.intro (Exists.intro _ (Exists.intro _ (Exists.intro _ (Exists.intro _ (Exists.intro _ (Exists.intro _ (Exists.intro _ ?f2_24))))))) (And.intro ?f3_24 (And.intro (Exists.intro _ (Exists.intro _ ?f4_24)) (And.intro (Exists.intro _ (Exists.intro _ ?f5_24)) (Exists.intro _ (Exists.intro _ (Exists.intro _ ?f6_24))))))); (case f1_24 => k_mem); (case f2_24 => k_mem); (case f3_24 => k_mem); (case f4_24 => k_mem); (case f5_24 => k_mem); (case f6_24 => k_mem))
  k_with "call ref" => (k_here; (with_reducible show wpAny _ _ (call (Value.ref 181) _) _ _ _); k_dflt (refine' made ?S_25 ?hS_25 ?hlc_25 ?h2_25 ?h3_25 ?_); (case S_25 => walk_at "mine_sit"); (case hS_25 => walk_at "mine_fq"); (case hlc_25 => k_mem); (case h2_25 => first | assumption | omega); (case h3_25 => first | assumption | omega); walk_at "mine_ret"; (try dsimp only))
  k_with "mine_lt" => first | (refine LoA.allLt ?_; (try dsimp only [adr_cons, adr_nil, adr_consA, adr_nilA]); with_reducible assumption) | (refine' LoA.ltSuf ?hZs ?mZs; (case hZs => with_reducible assumption); (case mZs => with_reducible (intro _ hq; (repeat (first | exact hq | refine List.mem_cons_of_mem _ ?_)); done))) | exact allLt_nil | (refine allLt_cons ?mltZ ?_; (case mltZ => first | with_reducible assumption | (refine' LoA.lt ?hZq ?mZq; (case hZq => with_reducible assumption); (case mZq => ((first | ((repeat (with_reducible (first | exact adr_hd | refine adr_tl ?_ | exact List.mem_cons_self | refine List.mem_cons_of_mem _ ?_))); done) | ((with_reducible show @Membership.mem _ _ _ _ (@OfNat.ofNat _ (nat_lit 51) _)); k_dflt ((repeat (first | exact adr_hd | refine adr_tl ?_ | exact List.Mem.head _ | refine List.Mem.tail _ ?_)); done)))))) | (refine' LoA.ltS ?hZq ?mZq; (case hZq => with_reducible assumption); (case mZq => ((first | ((repeat (with_reducible (first | exact adr_hd | refine adr_tl ?_ | exact List.mem_cons_self | refine List.mem_cons_of_mem _ ?_))); done) | ((with_reducible show @Membership.mem _ _ _ _ (@OfNat.ofNat _ (nat_lit 51) _)); k_dflt ((repeat (first | exact adr_hd | refine adr_tl ?_ | exact List.Mem.head _ | refine List.Mem.tail _ ?_)); done))))))); walk_at "mine_lt")
  k_with "UnrEndW" => k_dflt (first | (refine' unr_end2 ?F_27 ?N_27 ?l_27 ?k_27 ?_; (case F_27 => k_asm); (case N_27 => k_asm); (case l_27 => walk_at "mine_lt"); (case k_27 => k_subL)) | (refine' unr_end1 ?F_27 ?N_27 ?l_27 ?k_27 ?_; (case F_27 => k_asm); (case N_27 => k_asm); (case l_27 => walk_at "mine_lt"); (case k_27 => k_subL)))
  k_with "getItem ref int" => (k_here; (with_reducible show wpAny _ _ (getItem (Value.ref _) (Value.int _ _)) _ _ _); k_dflt (refine' get_here ?N_28 ?m_28 ?a_28 ?b_28 ?x_28 ?_; (case N_28 => k_asm); (case m_28 => k_mem); (case a_28 => decide); (case b_28 => decide); (case x_28 => rfl); k_whole))
  k_with "subscriptTail" => (k_here; (with_reducible show wpAny _ _ (subscriptTail _ _ (Value.ref _) (Value.int _ _)) _ _ _); with_unfolding_all (first | (refine' item_tupleT ?t_29 ?a_29 ?b_29 ?c_29 ?d_29 ?_ ?e_29; (case t_29 => exact News.isTup (by k_asm) (by k_mem)); (case a_29 => decide); (case b_29 => decide); (case c_29 => rfl); (case d_29 => rfl); (case e_29 => with_unfolding_all rfl); k_whole) | (refine' sub_here ?N_29 ?m_29 ?k2_29 ?k3_29 ?k4_29 ?_ ?k6_29; (case N_29 => k_asm); (case m_29 => k_mem); (case k2_29 => decide); (case k3_29 => decide); (case k4_29 => rfl); (case k6_29 => with_unfolding_all rfl); k_whole)))
  k_with "setItem ref int" => (k_here; k_dflt (refine' ki_set ?F_30 ?N_30 ?a_30 ?b_30 ?e_30 ?U_30 ?_; (case F_30 => k_asm); (case N_30 => k_asm); (case U_30 => k_upd); (case a_30 => decide); (case b_30 => decide); (case e_30 => rfl)); ki_rest; (try dsimp only))
  k_with "binaryOp Mult ref int" => (k_here; (with_reducible show wpAny _ _ (binaryOp Operator.Mult (Value.ref _) (Value.int _ _)) _ _ _); k_dflt (refine' KMa.mul ?F_31 ?N_31 ?l_31 ?lo_31 ?hi_31 ?z_31 ?e_31 ?_; (case F_31 => k_asm); (case N_31 => k_asm); (case l_31 => is_list); (case lo_31 => first | omega | decide); (case hi_31 => first | omega | decide); (case z_31 => (simp only [List.length_cons, List.length_nil]; decide)); (case e_31 => (simp only [Int.reduceMul, Int.reduceSub, Int.reduceAdd, Int.reduceToNat, List.replicate_succ, List.replicate_zero, List.flatten_cons, List.flatten_nil, List.cons_append, List.nil_append, List.append_nil]; first | done | exact rfl)); k_whole); intro D9' h9' F9' N9' l19; (try k_lt l19); (try k_sweep); (try dsimp only))
  k_with "subscriptTail Name Name ref int" => (k_here; k_dflt (refine' sub_here ?N_32 ?m_32 ?k2_32 ?k3_32 ?k4_32 ?_ ?k6_32; (case N_32 => k_asm); (case m_32 => k_mem); (case k2_32 => decide); (case k3_32 => decide); (case k4_32 => rfl); (case k6_32 => with_unfolding_all rfl); k_whole); (try dsimp only))
  k_with "subscriptTail Name BinOp ref int" => (k_here; k_dflt (refine' sub_here ?N_33 ?m_33 ?k2_33 ?k3_33 ?k4_33 ?_ ?k6_33; (case N_33 => k_asm); (case m_33 => k_mem); (case k2_33 => decide); (case k3_33 => decide); (case k4_33 => rfl); (case k6_33 => with_unfolding_all rfl); k_whole); (try dsimp only))
  k_with "subscriptTail Name Constant ref int" => (k_here; k_dflt (refine' sub_here ?N_34 ?m_34 ?k2_34 ?k3_34 ?k4_34 ?_ ?k6_34; (case N_34 => k_asm); (case m_34 => k_mem); (case k2_34 => decide); (case k3_34 => decide); (case k4_34 => rfl); (case k6_34 => with_unfolding_all rfl); k_whole); (try dsimp only))
  k_with "FinA" => ((unfold LCg.FinA); intro D9' h9' tk9' F9' N9' o19'; (have o519' := Ne51.intro (off1_ne (a := 51) o19' (by k_dflt k_mem))); (try simp only [List.nil_append, List.cons_append] at N9'); (try dsimp only))
  k_with "call ref" => (k_here; (with_reducible show wpAny _ _ (call (Value.ref 42) _) _ _ _); k_dflt (refine' deg3 ?B_36 ?F_36 ?X_36 ?N_36 ?T_36 ?hk_36 ?hl_36 ?hdp_36 ?hun_36 ?_); (case B_36 => k_asm); (case F_36 => k_asm); (case X_36 => k_asm); (case N_36 => k_asm); (case T_36 => k_asm); (case hk_36 => first | exact rfl | assumption); (case hl_36 => k_mem); (case hdp_36 => ktr_room); (case hun_36 => ktr_units); intro d99' t9' h9' tk9' F9' N9' q99'; (first | ((have e99' : d99' = 2 := by omega); subst e99') | ((have e99' : d99' = 1 := by omega); subst e99') | ((have e99' : d99' = 0 := by omega); subst e99')); clear q99'; (try k_sweep); (try dsimp only))
  k_with "call ref" => (k_here; (with_reducible show wpAny _ _ (call (Value.ref 35) _) _ _ _); k_dflt (refine' pfiS ?B_37 ?F_37 ?X_37 ?N_37 ?T_37 ?hk_37 ?h0_37 ?h1_37 ?h2_37 ?hg_37 ?hdp_37 ?hun_37 ?_); (case B_37 => k_asm); (case F_37 => k_asm); (case X_37 => k_asm); (case N_37 => k_asm); (case T_37 => k_asm); (case hk_37 => first | exact rfl | assumption); (case h0_37 => assumption); (case h1_37 => assumption); (case h2_37 => assumption); (case hg_37 => assumption); (case hdp_37 => ktr_room); (case hun_37 => ktr_units); intro r99' t9' h9' tk9' F9' N9' q99'; (have nz99' := pfi_ne q99'); replace q99' := PfiR.intro q99'; (try k_sweep); (try dsimp only))
  k_with "eval ListComp" => (k_here; k_dflt (refine ListComp_T (F₀ := by k_asm) (by with_unfolding_all rfl) (by decide) (by rfl) (by decide) (by rfl) ?_))
  k_with "TupSrc" => (k_here; k_dflt (refine TupSrc.mk (by rfl) (by k_asm) (by k_asm) (by k_mem) (by exact Nat.le_of_ble_eq_true rfl) ?_; intro g9'; lcg_lit))
  k_with "CompEnd" => (k_here; (refine' LCg.CompEnd.intro ?F_40 ?N_40 _ (fun p hp => hp) ?off_40 ?S_40 ?_); (case F_40 => k_asm); (case N_40 => k_asm); (case off_40 => assumption); (case S_40 => (refine' tupAt_led ?m9_40; (case m9_40 => k_mem))))
  k_with "execs cons" => ((try dsimp only); (try k_extra "mine_fold"); first | (refine let_one ?_; intro s7 Qk) | (refine let_cons ?_; intro s7 Qk Qk))
  k_with "eval Constant int" => (refine wpAny_Constant_int ?_; (try dsimp only))
  k_with "newList" => (k_here; k_dflt (refine' newList_K ?k1 ?k2 ?_; (case k1 => k_asm); (case k2 => k_asm); k_whole); intro l9' h9' F9' N9' l19; (try k_lt l19); (try k_sweep); (try dsimp only))
  k_with "mine_ne" => k_dflt (refine neN ?_; (try dsimp only); first | (with_reducible assumption) | (refine' LoA.ne ?hZq ?mZq; (case hZq => with_reducible assumption); (case mZq => ((first | ((repeat (with_reducible (first | exact adr_hd | refine adr_tl ?_ | exact List.mem_cons_self | refine List.mem_cons_of_mem _ ?_))); done) | ((with_reducible show @Membership.mem _ _ _ _ (@OfNat.ofNat _ (nat_lit 51) _)); k_dflt ((repeat (first | exact adr_hd | refine adr_tl ?_ | exact List.Mem.head _ | refine List.Mem.tail _ ?_)); done)))))) | (refine' LoA.ne' ?hZq ?mZq; (case hZq => with_reducible assumption); (case mZq => ((first | ((repeat (with_reducible (first | exact adr_hd | refine adr_tl ?_ | exact List.mem_cons_self | refine List.mem_cons_of_mem _ ?_))); done) | ((with_reducible show @Membership.mem _ _ _ _ (@OfNat.ofNat _ (nat_lit 51) _)); k_dflt ((repeat (first | exact adr_hd | refine adr_tl ?_ | exact List.Mem.head _ | refine List.Mem.tail _ ?_)); done)))))) | (refine' OffA.ne ?hZq ?mZq; (case hZq => with_reducible assumption); (case mZq => ((first | ((repeat (with_reducible (first | exact adr_hd | refine adr_tl ?_ | exact List.mem_cons_self | refine List.mem_cons_of_mem _ ?_))); done) | ((with_reducible show @Membership.mem _ _ _ _ (@OfNat.ofNat _ (nat_lit 51) _)); k_dflt ((repeat (first | exact adr_hd | refine adr_tl ?_ | exact List.Mem.head _ | refine List.Mem.tail _ ?_)); done)))))) | (refine' OffA.ne' ?hZq ?mZq; (case hZq => with_reducible assumption); (case mZq => ((first | ((repeat (with_reducible (first | exact adr_hd | refine adr_tl ?_ | exact List.mem_cons_self | refine List.mem_cons_of_mem _ ?_))); done) | ((with_reducible show @Membership.mem _ _ _ _ (@OfNat.ofNat _ (nat_lit 51) _)); k_dflt ((repeat (first | exact adr_hd | refine adr_tl ?_ | exact List.Mem.head _ | refine List.Mem.tail _ ?_)); done)))))) | (refine' LoA.neS ?hZq ?mZq; (case hZq => with_reducible assumption); (case mZq => ((first | ((repeat (with_reducible (first | exact adr_hd | refine adr_tl ?_ | exact List.mem_cons_self | refine List.mem_cons_of_mem _ ?_))); done) | ((with_reducible show @Membership.mem _ _ _ _ (@OfNat.ofNat _ (nat_lit 51) _)); k_dflt ((repeat (first | exact adr_hd | refine adr_tl ?_ | exact List.Mem.head _ | refine List.Mem.tail _ ?_)); done)))))) | (refine' LoA.neS' ?hZq ?mZq; (case hZq => with_reducible assumption); (case mZq => ((first | ((repeat (with_reducible (first | exact adr_hd | refine adr_tl ?_ | exact List.mem_cons_self | refine List.mem_cons_of_mem _ ?_))); done) | ((with_reducible show @Membership.mem _ _ _ _ (@OfNat.ofNat _ (nat_lit 51) _)); k_dflt ((repeat (first | exact adr_hd | refine adr_tl ?_ | exact List.Mem.head _ | refine List.Mem.tail _ ?_)); done)))))) | (refine' LoA.neT ?hZq ?mZq; (case hZq => with_reducible assumption); (case mZq => ((first | ((repeat (with_reducible (first | exact adr_hd | refine adr_tl ?_ | exact List.mem_cons_self | refine List.mem_cons_of_mem _ ?_))); done) | ((with_reducible show @Membership.mem _ _ _ _ (@OfNat.ofNat _ (nat_lit 51) _)); k_dflt ((repeat (first | exact adr_hd | refine adr_tl ?_ | exact List.Mem.head _ | refine List.Mem.tail _ ?_)); done)))))) | (refine' LoA.neT' ?hZq ?mZq; (case hZq => with_reducible assumption); (case mZq => ((first | ((repeat (with_reducible (first | exact adr_hd | refine adr_tl ?_ | exact List.mem_cons_self | refine List.mem_cons_of_mem _ ?_))); done) | ((with_reducible show @Membership.mem _ _ _ _ (@OfNat.ofNat _ (nat_lit 51) _)); k_dflt ((repeat (first | exact adr_hd | refine adr_tl ?_ | exact List.Mem.head _ | refine List.Mem.tail _ ?_)); done)))))) | exact neS_self | exact neS_self' | ((refine Ne51.ne ?_); with_reducible assumption) | ((refine Ne51.ne' ?_); with_reducible assumption) | (refine' off1_ne ?o1 ?m1; (case o1 => with_reducible assumption); (case m1 => first | k_mem | k_dflt k_mem)) | (refine' Ne.symm (off1_ne ?o1 ?m1); (case o1 => with_reducible assumption); (case m1 => first | k_mem | k_dflt k_mem)) | k_extra "mine_om")
  k_with "mine_om" => ((try simp only [LoA.cons_iff, LoA.nil_iff, and_true] at *); omega)
  walk_at "mine_reg"
  obtain ⟨B, F, X, N, T, hk, G, TB, n51, hdp, hun⟩ := S
  obtain ⟨ha1, ⟨ae1, ae2, ae3, ae4, ae5, ae6, ae7, ha2⟩, ha3, ⟨aq1, aq2, ha4⟩, ⟨ar1, ar2, ha5⟩, at1, at2, ak, ha6⟩ := ha
  have Nr : News h₀ L s.heap news := fun q hq => N q (.tail _ hq)
  let R6 : List (Addr × Obj) := [(ax, instObj 192 ad), (ad, fqDict w.params ae1 ae2 ae3 ae4 ae5 ae6 ae7 aml acf amt n), (aml, LCg.lst [.ref amp]), (amp, { cls := .type "tuple", data := .seq #[.int 0 aq1, .int 1 aq2] }), (acf, { cls := .type "tuple", data := .seq #[.int x ar1, .int y ar2] }), (amt, { cls := .type "tuple", data := .seq #[.int 1 at1, .int 0 at2] ak })]
  have hs6 : ∀ q ∈ R6, q ∈ news := (List.forall_mem_cons.mpr ⟨ha1, (List.forall_mem_cons.mpr ⟨ha2, (List.forall_mem_cons.mpr ⟨ha3, (List.forall_mem_cons.mpr ⟨ha4, (List.forall_mem_cons.mpr ⟨ha5, (List.forall_mem_cons.mpr ⟨ha6, (fun _ h => nomatch h)⟩)⟩)⟩)⟩)⟩)⟩)
  have N1 : News h₀ L s.heap ((51, tb) :: R6) := fun q hq => (List.mem_cons.mp hq).elim (fun e => e ▸ N _ (.head _)) (fun hq => Nr q (hs6 q hq))
  have hg6 : ∀ q ∈ R6, s.heap.get? q.1 = some q.2 := fun q hq => (Nr q (hs6 q hq)).1
  have h516 : ∀ q ∈ R6, q.1 ≠ 51 := fun q hq => n51 q (hs6 q hq)
  have ne0 := Ne51.intro (neN (n51 _ ha1))
  have ne1 := Ne51.intro (neN (n51 _ ha2))
  have ne2 := Ne51.intro (neN (n51 _ ha3))
  have ne3 := Ne51.intro (neN (n51 _ ha4))
  have ne4 := Ne51.intro (neN (n51 _ ha5))
  have ne5 := Ne51.intro (neN (n51 _ ha6))
  dsimp only at ne0 ne1 ne2 ne3 ne4 ne5
  refine wpAny_call ?_
  clear N
  k_dflt (walk_at "mine_enterC")
  clear N1
  refine let_entry ?_
  intro M9 A9 e9 E9 Qk
  k_extra "mine_fold"
  w_strict (repeat' (k_extra "mine_step"))
  rename PfiR _ _ _ => qB
  have qB2 := And.intro qB True.intro
  clear qB
  rename PfiR _ _ _ => qA
  have eAB := pfi_uni qA (qB2.1)
  subst eAB
  replace hret := hret _ qA.out
  rename Based0 _ _ _ _ => hB0
  rename Fr _ _ _ m => kF
  rename News h₀ L _ _ => kN
  have Nr2 := rest_end hB0 (by assumption) Nr kN n51 hg6 (fun q hq => by (repeat (first | exact hq | refine List.Mem.tail _ ?_)))
  have hsz : @LE.le Nat _ s.heap.objs.size _ := hB0.2
  simp only [Int.zero_add, Int.mul_one, ff (Int.lt_trans Int.zero_lt_one h2)] at kN
  refine' hret _ _ _ _ _ _ _ _ _ _ _ _ _ _ _ _ _ _ _ _ ?G ?T kF (news_cons kN ?m1 (news_cons kN ?m2 (news_cons kN ?m3 (news_cons kN ?m4 (news_cons kN ?m5 (news_cons kN ?m6 Nr2)))))) ?o1 ?o2 ?o3 ?o4 ?o5
  case m1 => k_mem
  case m2 => k_mem
  case m3 => k_mem
  case m4 => k_mem
  case m5 => k_mem
  case m6 => k_mem
  case G => assumption
  case T => assumption
  case o1 =>
    intro u hu
    rcases List.mem_cons.mp hu with r | hu
    · subst r
      refine ltN ?_
      (first | omega | k_extra "mine_om")
    · have hu1 : @LT.lt Nat _ u.1 s.heap.objs.size := Heap.lt_size (Nr u hu).1
      refine ltN ?_
      (first | omega | k_extra "mine_om")
  all_goals (refine ltN ?_; (first | omega | k_extra "mine_om"))
end
end C8_part
/-! I1 -/
section I1_part
open PySem PySem.W PyProof.Rows PySem.Calls
/-- what the turns of inv keep: k turns may be left -/
def InvA (n x y : Int) (k : Nat) (l0 l1 l2 w0 w1 w2 h0 h1 h2 g0 g1 g2 : Int) : Prop :=
  (k = 2 ∧ l0 = 1 ∧ l1 = 0 ∧ l2 = 0 ∧ w0 = x ∧ w1 = y ∧ w2 = 0 ∧ h0 = 0 ∧ h1 = 0 ∧ h2 = 0 ∧ g0 = 1 ∧ g1 = 0 ∧ g2 = 1) ∨
  (k = 1 ∧ y ≠ 0 ∧ ∃ Y, PfiR Y y n ∧ l0 = 0 ∧ l1 = (-Y).fmod n ∧ l2 = 0 ∧ w0 = 1 ∧ w1 = (-(x * Y)).fmod n ∧ w2 = 0 ∧ h0 = 1 ∧ h1 = 0 ∧ h2 = 0 ∧ g0 = x ∧ g1 = y ∧ g2 = 0) ∨
  (k = 0 ∧ y ≠ 0 ∧ ∃ Y Z q, PfiR Y y n ∧ (-(x * Y)).fmod n ≠ 0 ∧ PfiR Z ((-(x * Y)).fmod n) n ∧ QIs q y Z n ∧ l0 = 1 ∧ l1 = (-((-Y).fmod n * q)).fmod n ∧ l2 = 0 ∧ w0 = (x - q).fmod n ∧ w1 = 0 ∧ w2 = 0)
/-- the quotient of a turn -/
def InvQ (n y w1 : Int) (k : Nat) (r0 r1 r2 : Int) : Prop :=
  (k = 2 ∧ ∃ Y, PfiR Y y n ∧ r0 = 0 ∧ r1 = Y ∧ r2 = 0) ∨ (k = 1 ∧ ∃ Z q, PfiR Z w1 n ∧ QIs q y Z n ∧ r0 = q ∧ r1 = 0 ∧ r2 = 0)
theorem inv_start {n x y : Int} : InvA n x y 2 1 0 0 x y 0 0 0 0 1 0 1 := .inl ⟨rfl, rfl, rfl, rfl, rfl, rfl, rfl, rfl, rfl, rfl, rfl, rfl, rfl⟩
theorem fm0' {n : Int} : (0 : Int).fmod n = 0 := by simp
theorem fm1' {n : Int} (h2 : 1 < n) : (1 : Int).fmod n = 1 := by rw [Int.fmod_eq_emod_of_nonneg _ (by omega)]; exact Int.emod_eq_of_lt (by omega) h2
theorem fmr_lt {a n : Int} (h : 1 < n) : a.fmod n < n := by rw [Int.fmod_eq_emod_of_nonneg _ (by omega)]; exact Int.emod_lt_of_pos _ (by omega)
theorem fmr_ge {a n : Int} (h : 1 < n) : 0 ≤ a.fmod n := by rw [Int.fmod_eq_emod_of_nonneg _ (by omega)]; exact Int.emod_nonneg _ (by omega)
theorem inv_step {n x y : Int} {k : Nat} {l0 l1 l2 w0 w1 w2 h0 h1 h2 g0 g1 g2 r0 r1 r2 : Int} (hn : 1 < n) (A : InvA n x y k l0 l1 l2 w0 w1 w2 h0 h1 h2 g0 g1 g2) (hw : w1 ≠ 0) (R : InvQ n y w1 k r0 r1 r2) :
    InvA n x y (k - 1) ((h0 - l0 * r0).fmod n) ((h1 - l0 * r1 - l1 * r0).fmod n) ((h2 - l0 * r2 - l1 * r1 - l2 * r0).fmod n) ((g0 - w0 * r0).fmod n) ((g1 - w0 * r1 - w1 * r0).fmod n) ((g2 - w0 * r2 - w1 * r1 - w2 * r0).fmod n) l0 l1 l2 w0 w1 w2 ∧ k - 1 < k := by
  rcases A with ⟨rfl, rfl, rfl, rfl, rfl, rfl, rfl, rfl, rfl, rfl, rfl, rfl, rfl⟩ | ⟨rfl, hy, Y, qA, rfl, rfl, rfl, rfl, rfl, rfl, rfl, rfl, rfl, rfl, rfl, rfl⟩ | ⟨rfl, hy, Y, Z, q, qA, hz, qB, eq, rfl, rfl, rfl, rfl, rfl, rfl⟩
  · rcases R with ⟨_, Y, qA, rfl, rfl, rfl⟩ | ⟨e, _⟩
    · refine ⟨.inr (.inl ⟨rfl, hw, r1, qA, ?_, ?_, ?_, ?_, ?_, ?_, rfl, rfl, rfl, rfl, rfl, rfl⟩), by omega⟩
      · simp
      · simp
      · simp
      · simp [fm1' hn]
      · simp
      · have := pfz hn qA
        simpa using this
    · cases e
  · rcases R with ⟨e, _⟩ | ⟨_, Z, q, qB, eq, rfl, rfl, rfl⟩
    · cases e
    · refine ⟨.inr (.inr ⟨rfl, hy, Y, Z, r0, qA, hw, qB, eq, ?_, ?_, ?_, ?_, ?_, ?_⟩), by omega⟩
      · simp [fm1' hn]
      · simp
      · simp
      · simp
      · have := pz2 hn qB eq
        simpa using this
      · simp
  · exact absurd rfl hw
theorem inv_fin {n x y : Int} {k : Nat} {l0 l1 l2 w0 w1 w2 h0 h1 h2 g0 g1 g2 : Int} (hn : 1 < n) (hx : 0 ≤ x ∧ x < n) (hy : 0 ≤ y ∧ y < n) (hN : (x * x + y * y) % n ≠ 0) (A : InvA n x y k l0 l1 l2 w0 w1 w2 h0 h1 h2 g0 g1 g2) (hw : w1 = 0) :
    1 ≤ w0 ∧ w0 < n ∧ ∀ Z, PfiR Z w0 n → ((l0.fmod n * Z) % n * x - (l1.fmod n * Z) % n * y) % n = 1 ∧ ((l0.fmod n * Z) % n * y + (l1.fmod n * Z) % n * x) % n = 0 := by
  rcases A with ⟨rfl, rfl, rfl, rfl, rfl, rfl, rfl, rfl, rfl, rfl, rfl, rfl, rfl⟩ | ⟨rfl, hy', Y, qA, rfl, rfl, rfl, rfl, rfl, rfl, rfl, rfl, rfl, rfl, rfl, rfl⟩ | ⟨rfl, hy', Y, Z, q, qA, hz, qB, eq, rfl, rfl, rfl, rfl, rfl, rfl⟩
  · subst hw
    have hx1 : w0 ≠ 0 := by
      rintro rfl
      simp at hN
    refine ⟨by omega, hx.2, fun Z hZ => ?_⟩
    have e1 : (1 * Z) % n = Z := by rw [Int.one_mul]; exact Int.emod_eq_of_lt hZ.1 hZ.2.1
    have e2 : (0 * Z) % n = 0 := by simp
    rw [fm1' hn, fm0', e1, e2]
    refine ⟨by simpa using hZ.2.2, by simp⟩
  · refine ⟨Int.le_refl 1, hn, fun Z hZ => ?_⟩
    rw [fm0']
    exact invA hn qA hw rfl hZ
  · refine ⟨dNe hn qA rfl qB eq rfl hN, (by rw [Int.fmod_eq_emod_of_nonneg _ (by omega)]; exact Int.emod_lt_of_pos _ (by omega)), fun Zz hZ => ?_⟩
    rw [fm1' hn]
    exact invB hn qA rfl rfl qB eq rfl rfl hZ
/-- the stages as the walk of a turn wants them -/
theorem inv_cases {n x y : Int} {k : Nat} {l0 l1 l2 w0 w1 w2 h0 h1 h2 g0 g1 g2 : Int} (hn : 1 < n) (hy : 0 ≤ y ∧ y < n) (A : InvA n x y k l0 l1 l2 w0 w1 w2 h0 h1 h2 g0 g1 g2) (hw : w1 ≠ 0) :
    w2 = 0 ∧ ((k = 2 ∧ w1 = y ∧ g0 = 1 ∧ g1 = 0 ∧ g2 = 1 ∧ 1 ≤ w1 ∧ w1 < n) ∨ (k = 1 ∧ w0 = 1 ∧ g1 = y ∧ g2 = 0 ∧ 1 ≤ y ∧ y < n ∧ 1 ≤ w1 ∧ w1 < n)) := by
  rcases A with ⟨rfl, rfl, rfl, rfl, rfl, rfl, rfl, rfl, rfl, rfl, rfl, rfl, rfl⟩ | ⟨rfl, hy', Y, qA, rfl, rfl, rfl, rfl, rfl, rfl, rfl, rfl, rfl, rfl, rfl, rfl⟩ | ⟨rfl, hy', Y, Z, q, qA, hz, qB, eq, rfl, rfl, rfl, rfl, rfl, rfl⟩
  · exact ⟨rfl, .inl ⟨rfl, rfl, rfl, rfl, rfl, by omega, by omega⟩⟩
  · refine ⟨rfl, .inr ⟨rfl, rfl, rfl, rfl, by omega, by omega, ?_, fmr_lt hn⟩⟩
    have := fmr_ge (a := -(g0 * Y)) hn
    omega
  · exact absurd rfl hw
theorem inv_w2 {n x y : Int} {k : Nat} {l0 l1 l2 w0 w1 w2 h0 h1 h2 g0 g1 g2 : Int} (A : InvA n x y k l0 l1 l2 w0 w1 w2 h0 h1 h2 g0 g1 g2) : w2 = 0 := by
  rcases A with ⟨rfl, rfl, rfl, rfl, rfl, rfl, rfl, rfl, rfl, rfl, rfl, rfl, rfl⟩ | ⟨rfl, hy', Y, qA, rfl, rfl, rfl, rfl, rfl, rfl, rfl, rfl, rfl, rfl, rfl, rfl⟩ | ⟨rfl, hy', Y, Z, q, qA, hz, qB, eq, rfl, rfl, rfl, rfl, rfl, rfl⟩ <;> rfl
theorem fm1 {n : Int} (h : 1 < n) : (1 : Int).fmod n = 1 := fm1' h
theorem fm0 {n : Int} : (0 : Int).fmod n = 0 := Int.zero_fmod n
theorem fm_rg {a n : Int} (h : 1 < n) : 0 ≤ a.fmod n ∧ a.fmod n < n := ⟨fmr_ge h, fmr_lt h⟩
/-- every int of the state is a rest -/
theorem inv_bd {n x y : Int} {k : Nat} {l0 l1 l2 w0 w1 w2 h0 h1 h2 g0 g1 g2 : Int} (hn : 1 < n) (hx : 0 ≤ x ∧ x < n) (hy : 0 ≤ y ∧ y < n) (A : InvA n x y k l0 l1 l2 w0 w1 w2 h0 h1 h2 g0 g1 g2) :
    (0 ≤ l0 ∧ l0 < n) ∧ (0 ≤ l1 ∧ l1 < n) ∧ (0 ≤ l2 ∧ l2 < n) ∧ (0 ≤ w0 ∧ w0 < n) ∧ (0 ≤ w1 ∧ w1 < n) ∧ (0 ≤ w2 ∧ w2 < n) := by
  rcases A with ⟨rfl, rfl, rfl, rfl, rfl, rfl, rfl, rfl, rfl, rfl, rfl, rfl, rfl⟩ | ⟨rfl, hy', Y, qA, rfl, rfl, rfl, rfl, rfl, rfl, rfl, rfl, rfl, rfl, rfl, rfl⟩ | ⟨rfl, hy', Y, Z, q, qA, hz, qB, eq, rfl, rfl, rfl, rfl, rfl, rfl⟩
  · exact ⟨by omega, by omega, by omega, hx, hy, by omega⟩
  · exact ⟨by omega, fm_rg hn, by omega, by omega, fm_rg hn, by omega⟩
  · exact ⟨by omega, fm_rg hn, by omega, fm_rg hn, by omega, by omega⟩
theorem inv_qb {n y w1 : Int} {k : Nat} {r0 r1 r2 : Int} (hn : 1 < n) (R : InvQ n y w1 k r0 r1 r2) : (0 ≤ r0 ∧ r0 < n) ∧ (0 ≤ r1 ∧ r1 < n) ∧ (0 ≤ r2 ∧ r2 < n) := by
  rcases R with ⟨_, Y, qA, rfl, rfl, rfl⟩ | ⟨_, Z, q, qB, eq, rfl, rfl, rfl⟩
  · exact ⟨by omega, ⟨qA.1, qA.2.1⟩, by omega⟩
  · have := em_rg (a := y * Z) hn
    rw [show y * Z % n = r0 from eq.symm] at this
    exact ⟨this, by omega, by omega⟩
set_option genInjectivity false in
set_option genSizeOf false in
/-- the state between the turns -/
structure InvSt where
  tb : Obj
  lm : Addr
  low : Addr
  hm : Addr
  high : Addr
  kl : Nat
  kw : Nat
  kh : Nat
  kg : Nat
  k : Nat
  l0 : Int
  l1 : Int
  l2 : Int
  w0 : Int
  w1 : Int
  w2 : Int
  h0 : Int
  h1 : Int
  h2 : Int
  g0 : Int
  g1 : Int
  g2 : Int
  t0 : Tok
  t1 : Tok
  t2 : Tok
  t3 : Tok
  t4 : Tok
  t5 : Tok
  t6 : Tok
  t7 : Tok
  t8 : Tok
  t9 : Tok
  ta : Tok
  tc : Tok
/-- a list of three ints -/
abbrev li3 (a b c : Int) (t u v : Tok) (k : Nat) : Obj := { cls := .type "list", data := .seq #[.int a t, .int b u, .int c v] k }
abbrev InvSt.led (rows : List (Addr × Obj)) (c : InvSt) : List (Addr × Obj) :=
  (51, c.tb) :: (c.lm, li3 c.l0 c.l1 c.l2 c.t0 c.t1 c.t2 c.kl) :: (c.low, li3 c.w0 c.w1 c.w2 c.t3 c.t4 c.t5 c.kw) :: (c.hm, li3 c.h0 c.h1 c.h2 c.t6 c.t7 c.t8 c.kh) :: (c.high, li3 c.g0 c.g1 c.g2 c.t9 c.ta c.tc c.kg) :: rows
abbrev InvSt.ps (c : InvSt) : List (Str × Value) := [(Str.ofString "lm", .ref c.lm), (Str.ofString "low", .ref c.low), (Str.ofString "hm", .ref c.hm), (Str.ofString "high", .ref c.high)]
def InvSt.Ok (n x y : Int) (c : InvSt) : Prop :=
  TabOk c.tb ∧ Ne51 c.lm ∧ Ne51 c.low ∧ Ne51 c.hm ∧ Ne51 c.high ∧ InvA n x y c.k c.l0 c.l1 c.l2 c.w0 c.w1 c.w2 c.h0 c.h1 c.h2 c.g0 c.g1 c.g2
/-- behind the two statements that make r -/
def InvK (g : Heap) (L : Addr) (n y w1 : Int) (k : Nat) (ps : List (Str × Value)) (rows : List (Addr × Obj)) (s0 : Shared) (f : Flow) (s' : Shared) : Prop :=
  f = .next ∧ ∃ (h' : Heap) (g' : Array GenState) (tk' : Nat) (m' : Str → Option Value) (R : Addr) (r0 r1 r2 : Int) (t0 t1 t2 : Tok) (kk : Nat), s' = { s0 with heap := h', gens := g', toks := tk' } ∧ AllBare g' ∧ Fr g L h' m' ∧ (∀ p ∈ (Str.ofString "r", .ref R) :: ps, m' p.1 = some p.2) ∧
    News g L h' ((R, li3 r0 r1 r2 t0 t1 t2 kk) :: rows) ∧ OffA R (adr rows) ∧ InvQ n y w1 k r0 r1 r2
theorem execs_cut2 {M : Model} {A : Around} {s1 s2 : Stmt} {rest : List Stmt} {env : Env} {Q : Flow → Shared → Prop} {E : Value → Shared → Prop} {s : Shared} (K : Flow → Shared → Prop) (hK : ∀ f s', K f s' → f = .next)
    (h1 : wpAny M A (exec s1 env) (fun f s' => match f with | .next => wpAny M A (exec s2 env) K E s' | f => K f s') E s) (h2 : ∀ s', K .next s' → wpAny M A (execs rest env) Q E s') : wpAny M A (execs (s1 :: s2 :: rest) env) Q E s := by
  refine wpAny_execs_cons (wpAny_mono h1 (fun f s' h => ?_) fun _ _ e => e)
  cases f with
  | next =>
    refine wpAny_execs_cons (wpAny_mono h (fun f s'' h => ?_) fun _ _ e => e)
    have e := hK _ _ h
    subst e
    exact h2 _ h
  | _ => exact nomatch hK _ _ h
theorem InvK.intro {g : Heap} {L : Addr} {n y w1 : Int} {k : Nat} {ps : List (Str × Value)} {rows : List (Addr × Obj)} {s0 : Shared} {h' : Heap} {g' : Array GenState} {tk' : Nat} {m' : Str → Option Value} {R : Addr} {r0 r1 r2 : Int} {t0 t1 t2 : Tok} {kk : Nat}
    (F : Fr g L h' m') (hG : AllBare g') (N : News g L h' ((R, li3 r0 r1 r2 t0 t1 t2 kk) :: rows)) (hp : ∀ p ∈ (Str.ofString "r", .ref R) :: ps, m' p.1 = some p.2) (o : OffA R (adr rows)) (q : InvQ n y w1 k r0 r1 r2) : InvK g L n y w1 k ps rows s0 .next { s0 with heap := h', gens := g', toks := tk' } :=
  ⟨rfl, h', g', tk', m', R, r0, r1, r2, t0, t1, t2, kk, rfl, hG, F, hp, N, o, q⟩
theorem InvK.next {g : Heap} {L : Addr} {n y w1 : Int} {k : Nat} {ps : List (Str × Value)} {rows : List (Addr × Obj)} {s0 : Shared} : ∀ f s', InvK g L n y w1 k ps rows s0 f s' → f = .next := fun _ _ h => h.1
/-- a turn's end -/
theorem invEnd {g : Heap} {L : Addr} {s0 : Shared} {n x y : Int} {rows : List (Addr × Obj)} {Q : Flow → Shared → Prop} {c : InvSt} {h' : Heap} {g' : Array GenState} {tk : Nat} {m' : Str → Option Value} {news' : List (Addr × Obj)}
    (F : Fr g L h' m') (N : News g L h' news') (hg : AllBare g') (c' : InvSt) (hn : ∀ p ∈ c'.led rows, p ∈ news') (hk : ∀ p ∈ c'.ps, m' p.1 = some p.2) (hp : c'.Ok n x y) (hm : c'.k < c.k) :
    WhPost g L s0 AllBare (InvSt.led rows) InvSt.ps (InvSt.Ok n x y) (fun c => c.k) Q c .next { s0 with heap := h', gens := g', toks := tk } :=
  WhEnd.intro F N hg c' hn hk hp hm
end I1_part
/-! I2 -/
section I2_part
open PySem PySem.W PyProof.Rows PySem.Calls
section
variable {w : World} {p : Program} {loose : List Str} {mean : ExcName → Option Value} {mg mb : Str → Option Value} {dp un : Nat} {gd : Option (List Code)} {cn : Str} {cs : Scope} {a : Addr} {ccd : Value} {cl : List (Str × Addr)} {outer : List Env} {A₀ : Around} {base h₀ : Heap} {L : Addr} {m : Str → Option Value} {tb : Obj} {news : List (Addr × Obj)} {s : Shared} {Q E : Value → Shared → Prop}
set_option maxRecDepth 100000 in
set_option maxHeartbeats 4000000 in
theorem invAll {ax ad aml amp acf amt : Addr} {n x y : Int} (S : Sit w p loose mean mg mb 8 dp un cs outer A₀ base h₀ L m tb news s)
    (ha : FqAt w.params news ax ad aml amp acf amt n x y) (h2 : 1 < n) (h3 : n < 1000) (hP : ∀ a, 1 ≤ a → a < n → Int.gcd a n = 1) (hx : 0 ≤ x ∧ x < n) (hy : 0 ≤ y ∧ y < n) (hn : (x * x + y * y) % n ≠ 0)
    (hret : ∀ u v, 0 ≤ u ∧ u < n → 0 ≤ v ∧ v < n → (u * x - v * y) % n = 1 → (u * y + v * x) % n = 0 → RetFq w h₀ L m news s Q amt n u v) :
    wpAny (model PySem.Challenge.rw_kh0013_01.row.prog w) (ktrTop dp un gd cn cs L a ccd cl outer) (call (.ref 112) [.ref ax]) Q E s := by
  k_with_none
  k_with "mine_fold" => first | (have F8 := F7; have N8 := N7; clear F8 N8) | (rename Fr _ _ _ _ => F7; rename News _ _ _ _ => N7; revert F7 N7; refine let_FN ?_; intro m7 n7 F7 N7)
  k_with "mine_step" => (first | (with_reducible show Qk _ _; dsimp only [Qk]; clear Qk) | (k_unfold; (try dsimp only)) | (k_end; kc_close) | walk1 | (dsimp only; walk1) | (leave1; walk_say "STEP leave1"; (try dsimp only)))
  k_with "mine_lo" => skip
  k_with "CompRest" => (with_unfolding_all first | (refine LCg.CompRest.succ ?_; intro v9' I9' oI9' C9' oC9' D9' m9' h9' tk9' E9' hv9' hC9' hx9' F9' N9' off9' ne9'; clear ne9'; (first | lcg_open hv9' | (obtain ⟨t99', hv99'⟩ := hv9'; subst hv99'))) | refine LCg.CompRest.zero ?_)
  k_with "CompEnd" => (k_here; (refine' LCg.CompEnd.intro ?F_1 ?N_1 _ (fun p hp => hp) ?off_1 ?S_1 ?_); (case F_1 => k_asm); (case N_1 => k_asm); (case off_1 => assumption); (case S_1 => (refine' srcAt_led ?m9_1; (case m9_1 => k_mem))))
  k_with "FinE" => ((unfold LCg.FinE); intro D9' h9' tk9' F9' N9' o19'; k_dflt (replace o19' := OffA.of o19'; (try dsimp only [adr_cons, adr_nil, adr_consA, adr_nilA] at o19')); (try simp only [List.nil_append, List.cons_append] at N9'); (try dsimp only))
  k_with "eval ListComp" => (k_here; k_dflt (refine LCg.ListComp_U (F₀ := by k_asm) (by with_unfolding_all rfl) (by decide) (by rfl) (by decide) (by rfl) ?_); k_dflt lcg_toSrc)
  k_with "CompSrc" => (k_here; k_dflt (refine LCg.CompSrc.ledger (by rfl) (by k_asm) (by k_asm) (by k_mem) (by first | size_fits | exact Nat.le_of_ble_eq_true rfl) ?_; intro g9'; lcg_lit))
  k_with "exec For Name Call cons nil" => (k_here; (rename Fr _ _ _ _ => lF9'); (with_unfolding_all refine' For_turns lF9' ?_; k_whole))
  k_with "pyIter ref" => (k_here; (with_reducible show wpAny _ _ (pyIter (Value.ref _)) (fun it s₂ => TurnsAt _ _ _ _ _ _ _ _ _ it s₂) _ _); (with_reducible rename IsRange _ _ _ _ _ _ _ _ => rX9'); with_unfolding_all (first | (refine' range_turns (xs := [Itm.tok (fun t => Value.int (0 : Int) t)]) ?hh_6 ?F_6 ?N_6 rX9' ?sm_6 ?hn_6 ?hx_6 ?_; (case hn_6 => decide +kernel); (case sm_6 => decide +kernel); (case hx_6 => rfl)) | (refine' range_turns (xs := [Itm.tok (fun t => Value.int (1 : Int) t), Itm.tok (fun t => Value.int (0 : Int) t)]) ?hh_6 ?F_6 ?N_6 rX9' ?sm_6 ?hn_6 ?hx_6 ?_; (case hn_6 => decide +kernel); (case sm_6 => decide +kernel); (case hx_6 => rfl)) | (refine' range_turns (xs := [Itm.tok (fun t => Value.int (0 : Int) t), Itm.tok (fun t => Value.int (1 : Int) t)]) ?hh_6 ?F_6 ?N_6 rX9' ?sm_6 ?hn_6 ?hx_6 ?_; (case hn_6 => decide +kernel); (case sm_6 => decide +kernel); (case hx_6 => rfl)) | (refine' range_turns (xs := [Itm.tok (fun t => Value.int (0 : Int) t), Itm.tok (fun t => Value.int (1 : Int) t), Itm.tok (fun t => Value.int (2 : Int) t)]) ?hh_6 ?F_6 ?N_6 rX9' ?sm_6 ?hn_6 ?hx_6 ?_; (case hn_6 => decide +kernel); (case sm_6 => decide +kernel); (case hx_6 => rfl)) | (refine' range_turns (xs := [Itm.tok (fun t => Value.int (2 : Int) t), Itm.tok (fun t => Value.int (1 : Int) t), Itm.tok (fun t => Value.int (0 : Int) t)]) ?hh_6 ?F_6 ?N_6 rX9' ?sm_6 ?hn_6 ?hx_6 ?_; (case hn_6 => decide +kernel); (case sm_6 => decide +kernel); (case hx_6 => rfl)) | (refine' range_turns (xs := []) ?hh_6 ?F_6 ?N_6 rX9' ?sm_6 ?hn_6 ?hx_6 ?_; (case hn_6 => decide +kernel); (case sm_6 => decide +kernel); (case hx_6 => rfl))); (case hh_6 => rfl); (case F_6 => k_asm); (case N_6 => k_asm); clear rX9'; intro i9' l19; (try k_lt l19))
  k_with "call type:enumerate" => (k_here; k_dflt (refine' enum_make ?F_7 ?N_7 ?m_7 ?_); (case F_7 => k_asm); (case N_7 => k_asm); (case m_7 => k_mem); intro e9' h9' F9' N9' eX9'; (try k_sweep); (try dsimp only))
  k_with "call type:enumerate" => (k_here; (with_reducible show wpAny _ _ (call (Value.type _) [Value.ref _]) (fun xv s₁ => wpAny _ _ (pyIter xv) (fun it s₂ => TurnsAt _ _ _ _ _ _ _ _ _ it s₂) _ s₁) _ _); with_unfolding_all (refine' enum_turns (vs := [_, _]) (xs := [Itm.pair (fun t => Value.int (0 : Int) t) _, Itm.pair (fun t => Value.int (1 : Int) t) _]) ?hh_8 ?F_8 ?N_8 ?hm_8 ?hc_8 ?hd_8 ?hx_8 ?_; (case hh_8 => rfl); (case F_8 => k_asm); (case N_8 => k_asm); (case hm_8 => k_mem); (case hc_8 => rfl); (case hd_8 => rfl); (case hx_8 => rfl)); intro i9' l19; (try k_lt l19); (try dsimp only))
  k_with "call type:list" => (k_here; (rename EnumF _ _ _ _ _ _ _ => eX9'); k_dflt (refine' enum_list ?hh_9 ?F_9 ?N_9 eX9' ?_); (case hh_9 => rfl); (case F_9 => k_asm); (case N_9 => k_asm); intro S9' T19' T29' k19' k29' c9' h9' tk9' F9' N9' l19 l29 l39; clear eX9'; (try k_lt l19); (k_lt2 l29); (have l29 := LoA.tr l19 l29); (k_lt2 l39); (have l39 := LoA.tr l29 l39); (try k_sweep); (try dsimp only))
  k_with "exec For Tuple Call cons nil" => (k_here; (rename Fr _ _ _ _ => lF9'); (with_unfolding_all refine' For_turns lF9' ?_; k_whole))
  k_with "exec For Tuple Attribute cons nil" => (k_here; (rename Fr _ _ _ _ => lF9'); (with_unfolding_all refine' For_turns lF9' ?_; k_whole))
  k_with "mine_enterC" => (refine' enter_defC ?k1_12 ?k2_12 ?k3_12 ?k4_12 ?k5_12 ?kA_12 ?kF_12 ?kK_12 ?k6_12 ?k7_12 ?k8_12 ?k9_12 ?kB_12 ?kD_12 ?_ ?c2_12 ?c3_12 ?c4_12; (case kA_12 => exact rfl); (case kF_12 => exact rfl); (case kK_12 => first | exact rfl | assumption); (case k1_12 => k_asm); (case k2_12 => k_asm); (case k3_12 => k_asm); (case k4_12 => k_asm); (case k5_12 => k_asm); (case k6_12 => k_is); (case k7_12 => k_is); (case k8_12 => ktr_room); (case k9_12 => exact BindsTo.of_eq rfl); (case kB_12 => exact rfl); (case kD_12 => decide +kernel); (case c2_12 => exact rfl); (case c3_12 => exact rfl); (case c4_12 => exact rfl); k_whole; intro gB9 LB9 h9' tk9' cells9' FG9' F9' N9' Y9' B9' X9' T9' l19 hBs; (try k_lt l19); k_cells Y9'; (try simp only [List.cons_append, List.nil_append] at N9'); (try dsimp only); (try k_lift B9'); (try k_fold))
  k_with "eval ListComp" => (k_here; (with_reducible show wpAny _ _ (eval (PySem.Expr.ListComp (PySem.Expr.Tuple _ _ _) _ _ _) _) _ _ _); k_dflt (refine mc_comp (by with_unfolding_all rfl) (by with_unfolding_all rfl) (by decide) (by rfl) (by decide) (by rfl) (by rfl) (by decide) (by decide) (by decide) ?_))
  k_with "call type:enumerate" => (k_here; (with_reducible show wpAny _ _ (call (Value.type _) [Value.ref _]) (McSrc _) _ _); k_dflt (refine' mc_call ?F_14 ?N_14 ?m_14 ?_; (case F_14 => k_asm); (case N_14 => k_asm); (case m_14 => k_mem)); intro D9' T9' ti9' h9' tk9' F9' N9' l19 l29; (try k_lt l19); (k_lt2 l29); (have l29 := LoA.tr l19 l29); (try k_sweep); (try dsimp only))
  k_with "mine_split" => (repeat' (first | exact Split.here | apply Split.skip))
  k_with "eval GeneratorExp" => (k_here; k_dflt (refine' gen_make ?F_16 (Split.toNews ?N_16 ?sp_16) ?h51_16 ?tb_16 ?G_16 ?X_16 ?T_16 ?hh_16 ?hcode_16 ?hgl_16 ?room_16 ?hek_16 ?hey_16 ?hdy_16 ?hvy_16 ?hml_16 ?hmc_16 ?hoc_16 ?hms_16 ?hmd_16 ?hfm_16 ?hq_16 ?hco_16 ?hclos_16 ?hcell_16 ?h0_16 ?hx_16 ?hsn_16 ?hkind_16 ?hdx_16 ?hds_16 ?hdc_16 ?_); (case F_16 => k_asm); (case N_16 => k_asm); (case sp_16 => walk_at "mine_split"); (case h51_16 => k_all); (case tb_16 => assumption); (case G_16 => assumption); (case X_16 => k_asm); (case T_16 => k_asm); (case hh_16 => rfl); (case hcode_16 => rfl); (case hgl_16 => rfl); (case room_16 => ktr_room); (case hek_16 => rfl); (case hey_16 => with_unfolding_all rfl); (case hdy_16 => decide); (case hvy_16 => with_unfolding_all rfl); (case hml_16 => k_mem); (case hclos_16 => with_unfolding_all rfl); (case hmc_16 => k_mem); (case hoc_16 => assumption); (case hms_16 => k_mem); (case hmd_16 => k_mem); (case hfm_16 => k_get); (case hq_16 => omega); (case hco_16 => rfl); (case hcell_16 => decide); (case h0_16 => rfl); (case hx_16 => rfl); (case hsn_16 => rfl); (case hkind_16 => rfl); (case hdx_16 => decide); (case hds_16 => decide); (case hdc_16 => decide); intro a9' tb9' h9' g9' tk9' G9' TB9' F9' N9' X9'; (try k_sweep))
  k_with "call type:tuple" => (k_here; k_dflt (refine' call_tuple_tup ?T_17 ?_); (case T_17 => exact News.isTup (by k_asm) (by k_mem)); (try dsimp only))
  k_with "call type:tuple" => (k_here; (rename GenR _ _ _ _ _ _ _ _ _ _ => gX9'); k_dflt (refine' gen_tuple ?F_18 ?N_18 ?G_18 gX9' ?_); (case F_18 => k_asm); (case N_18 => k_asm); (case G_18 => assumption); intro D9' t19' t29' h9' g9' tk9' G9' F9' N9' l19; clear gX9'; (try k_lt l19); (try k_sweep))
  k_with "mine_reg" => (w_on; (have _h : (PySem.Challenge.rw_kh0013_01 = PySem.Challenge.rw_kh0013_01) ∧ (Mine.hd.heap_1 = Mine.hd.heap_1) := by (k_fill; exact ⟨rfl, rfl⟩)); clear _h)
  k_with "mine_enter" => (refine' enter_def ?k1_20 ?k2_20 ?k3_20 ?k4_20 ?k5_20 ?kA_20 ?kF_20 ?kK_20 ?k6_20 ?k7_20 ?k8_20 ?k9_20 ?kB_20 ?_ ?c2_20 ?c3_20 ?c4_20 ?c5_20; (case kA_20 => exact rfl); (case kF_20 => exact rfl); (case kK_20 => first | exact rfl | assumption); (case k1_20 => k_asm); (case k2_20 => k_asm); (case k3_20 => k_asm); (case k4_20 => k_asm); (case k5_20 => k_asm); (case k6_20 => k_is); (case k7_20 => k_is); (case k8_20 => ktr_room); (case k9_20 => exact BindsTo.of_eq rfl); (case c5_20 => decide); (case kB_20 => exact locs rfl); (case c2_20 => exact rfl); (case c3_20 => exact rfl); (case c4_20 => exact rfl); k_whole; intro g9' L9' h9' FG9' F9' N9' B9' X9' T9' hBs; (try dsimp only); (try k_lift B9'); (try k_fold))
  k_with "mine_sit" => (refine' Sit.mk ?B_21 ?F_21 ?X_21 (Split.toNews ?N_21 ?sp_21) ?T_21 ?hk_21 ?G_21 ?TB_21 ?n51_21 ?hdp_21 ?hun_21; (case B_21 => k_asm); (case F_21 => k_asm); (case X_21 => k_asm); (case N_21 => k_asm); (case sp_21 => walk_at "mine_split"); (case T_21 => k_asm); (case hk_21 => first | exact rfl | assumption); (case G_21 => assumption); (case TB_21 => assumption); (case n51_21 => first | assumption | k_all); (case hdp_21 => ktr_room); (case hun_21 => ktr_units))
  k_with "mine_ret" => (intro x9' d9' ml9' mp9' cf9' tb9' h9' g9' tk9' e19' e29' e39' e49' e59' e69' e79' q19' q29' r19' r29' G9' TB9' F9' N9' l19 l29 l39 l49 l59; (try k_lt l19); (k_lt2 l29); (have l29 := LoA.tr l19 l29); (k_lt2 l39); (have l39 := LoA.tr l29 l39); (k_lt2 l49); (have l49 := LoA.tr l39 l49); (k_lt2 l59); (have l59 := LoA.tr l49 l59); (try k_sweep); (try dsimp only))
  k_with "call ref" => (k_here; (with_reducible show wpAny _ _ (call (Value.ref 192) _) _ _ _); k_dflt (refine' mkS ?S_23 ?hlc_23 ?hmt_23 ?h2_23 ?h3_23 ?_); (case S_23 => walk_at "mine_sit"); (case hlc_23 => k_mem); (case hmt_23 => k_mem); (case h2_23 => first | assumption | omega); (case h3_23 => first | assumption | omega); walk_at "mine_ret"; (try dsimp only))
  k_with "mine_fq" => (refine' And.intro ?f1_24 (And.intro (Exists.intro _ (Exists.intro _ (Exists.intro _ (Exists.intro _ (Exists.intro _ (Exists.intro _ (Exists.intro _ ?f2_24))))))) (And.intro ?f3_24 (And.intro (Exists.intro _ (Exists.intro _ ?f4_24)) (And.intro (Exists.intro _ (Exists.intro _ ?f5_24)) (Exists.intro _ (Exists.intro _ (Exists.intro _ ?f6_24))))))); (case f1_24 => k_mem); (case f2_24 => k_mem); (case f3_24 => k_mem); (case f4_24 => k_mem); (case f5_24 => k_mem); (case f6_24 => k_mem))
  k_with "call ref" => (k_here; (with_reducible show wpAny _ _ (call (Value.ref 181) _) _ _ _); k_dflt (refine' made ?S_25 ?hS_25 ?hlc_25 ?h2_25 ?h3_25 ?_); (case S_25 => walk_at "mine_sit"); (case hS_25 => walk_at "mine_fq"); (case hlc_25 => k_mem); (case h2_25 => first | assumption | omega); (case h3_25 => first | assumption | omega); walk_at "mine_ret"; (try dsimp only))
  k_with "mine_lt" => first | (refine LoA.allLt ?_; (try dsimp only [adr_cons, adr_nil, adr_consA, adr_nilA]); with_reducible assumption) | (refine' LoA.ltSuf ?hZs ?mZs; (case hZs => with_reducible assumption); (case mZs => with_reducible (intro _ hq; (repeat (first | exact hq | refine List.mem_cons_of_mem _ ?_)); done))) | exact allLt_nil | (refine allLt_cons ?mltZ ?_; (case mltZ => first | with_reducible assumption | (refine' LoA.lt ?hZq ?mZq; (case hZq => with_reducible assumption); (case mZq => ((first | ((repeat (with_reducible (first | exact adr_hd | refine adr_tl ?_ | exact List.mem_cons_self | refine List.mem_cons_of_mem _ ?_))); done) | ((with_reducible show @Membership.mem _ _ _ _ (@OfNat.ofNat _ (nat_lit 51) _)); k_dflt ((repeat (first | exact adr_hd | refine adr_tl ?_ | exact List.Mem.head _ | refine List.Mem.tail _ ?_)); done)))))) | (refine' LoA.ltS ?hZq ?mZq; (case hZq => with_reducible assumption); (case mZq => ((first | ((repeat (with_reducible (first | exact adr_hd | refine adr_tl ?_ | exact List.mem_cons_self | refine List.mem_cons_of_mem _ ?_))); done) | ((with_reducible show @Membership.mem _ _ _ _ (@OfNat.ofNat _ (nat_lit 51) _)); k_dflt ((repeat (first | exact adr_hd | refine adr_tl ?_ | exact List.Mem.head _ | refine List.Mem.tail _ ?_)); done))))))); walk_at "mine_lt")
  k_with "UnrEndW" => k_dflt (first | (refine' unr_end2 ?F_27 ?N_27 ?l_27 ?k_27 ?_; (case F_27 => k_asm); (case N_27 => k_asm); (case l_27 => walk_at "mine_lt"); (case k_27 => k_subL)) | (refine' unr_end1 ?F_27 ?N_27 ?l_27 ?k_27 ?_; (case F_27 => k_asm); (case N_27 => k_asm); (case l_27 => walk_at "mine_lt"); (case k_27 => k_subL)))
  k_with "getItem ref int" => (k_here; (with_reducible show wpAny _ _ (getItem (Value.ref _) (Value.int _ _)) _ _ _); k_dflt (refine' get_here ?N_28 ?m_28 ?a_28 ?b_28 ?x_28 ?_; (case N_28 => k_asm); (case m_28 => k_mem); (case a_28 => decide); (case b_28 => decide); (case x_28 => rfl); k_whole))
  k_with "subscriptTail" => (k_here; (with_reducible show wpAny _ _ (subscriptTail _ _ (Value.ref _) (Value.int _ _)) _ _ _); with_unfolding_all (first | (refine' item_tupleT ?t_29 ?a_29 ?b_29 ?c_29 ?d_29 ?_ ?e_29; (case t_29 => exact News.isTup (by k_asm) (by k_mem)); (case a_29 => decide); (case b_29 => decide); (case c_29 => rfl); (case d_29 => rfl); (case e_29 => with_unfolding_all rfl); k_whole) | (refine' sub_here ?N_29 ?m_29 ?k2_29 ?k3_29 ?k4_29 ?_ ?k6_29; (case N_29 => k_asm); (case m_29 => k_mem); (case k2_29 => decide); (case k3_29 => decide); (case k4_29 => rfl); (case k6_29 => with_unfolding_all rfl); k_whole)))
  k_with "setItem ref int" => (k_here; k_dflt (refine' ki_set ?F_30 ?N_30 ?a_30 ?b_30 ?e_30 ?U_30 ?_; (case F_30 => k_asm); (case N_30 => k_asm); (case U_30 => k_upd); (case a_30 => decide); (case b_30 => decide); (case e_30 => rfl)); ki_rest; (try dsimp only))
  k_with "binaryOp Mult ref int" => (k_here; (with_reducible show wpAny _ _ (binaryOp Operator.Mult (Value.ref _) (Value.int _ _)) _ _ _); k_dflt (refine' KMa.mul ?F_31 ?N_31 ?l_31 ?lo_31 ?hi_31 ?z_31 ?e_31 ?_; (case F_31 => k_asm); (case N_31 => k_asm); (case l_31 => is_list); (case lo_31 => first | omega | decide); (case hi_31 => first | omega | decide); (case z_31 => (simp only [List.length_cons, List.length_nil]; decide)); (case e_31 => (simp only [Int.reduceMul, Int.reduceSub, Int.reduceAdd, Int.reduceToNat, List.replicate_succ, List.replicate_zero, List.flatten_cons, List.flatten_nil, List.cons_append, List.nil_append, List.append_nil]; first | done | exact rfl)); k_whole); intro D9' h9' F9' N9' l19; (try k_lt l19); (try k_sweep); (try dsimp only))
  k_with "subscriptTail Name Name ref int" => (k_here; k_dflt (refine' sub_here ?N_32 ?m_32 ?k2_32 ?k3_32 ?k4_32 ?_ ?k6_32; (case N_32 => k_asm); (case m_32 => k_mem); (case k2_32 => decide); (case k3_32 => decide); (case k4_32 => rfl); (case k6_32 => with_unfolding_all rfl); k_whole); (try dsimp only))
  k_with "subscriptTail Name BinOp ref int" => (k_here; k_dflt (refine' sub_here ?N_33 ?m_33 ?k2_33 ?k3_33 ?k4_33 ?_ ?k6_33; (case N_33 => k_asm); (case m_33 => k_mem); (case k2_33 => decide); (case k3_33 => decide); (case k4_33 => rfl); (case k6_33 => with_unfolding_all rfl); k_whole); (try dsimp only))
  k_with "subscriptTail Name Constant ref int" => (k_here; k_dflt (refine' sub_here ?N_34 ?m_34 ?k2_34 ?k3_34 ?k4_34 ?_ ?k6_34; (case N_34 => k_asm); (case m_34 => k_mem); (case k2_34 => decide); (case k3_34 => decide); (case k4_34 => rfl); (case k6_34 => with_unfolding_all rfl); k_whole); (try dsimp only))
  k_with "FinA" => ((unfold LCg.FinA); intro D9' h9' tk9' F9' N9' o19'; (have o519' := Ne51.intro (off1_ne (a := 51) o19' (by k_dflt k_mem))); (try simp only [List.nil_append, List.cons_append] at N9'); (try dsimp only))
  k_with "call ref" => (k_here; (with_reducible show wpAny _ _ (call (Value.ref 42) _) _ _ _); k_dflt (refine' deg3 ?B_36 ?F_36 ?X_36 ?N_36 ?T_36 ?hk_36 ?hl_36 ?hdp_36 ?hun_36 ?_); (case B_36 => k_asm); (case F_36 => k_asm); (case X_36 => k_asm); (case N_36 => k_asm); (case T_36 => k_asm); (case hk_36 => first | exact rfl | assumption); (case hl_36 => k_mem); (case hdp_36 => ktr_room); (case hun_36 => ktr_units); intro d99' t9' h9' tk9' F9' N9' q99'; (first | ((have e99' : d99' = 2 := by omega); subst e99') | ((have e99' : d99' = 1 := by omega); subst e99') | ((have e99' : d99' = 0 := by omega); subst e99')); clear q99'; (try k_sweep); (try dsimp only))
  k_with "call ref" => (k_here; (with_reducible show wpAny _ _ (call (Value.ref 35) _) _ _ _); k_dflt (refine' pfiS ?B_37 ?F_37 ?X_37 ?N_37 ?T_37 ?hk_37 ?h0_37 ?h1_37 ?h2_37 ?hg_37 ?hdp_37 ?hun_37 ?_); (case B_37 => k_asm); (case F_37 => k_asm); (case X_37 => k_asm); (case N_37 => k_asm); (case T_37 => k_asm); (case hk_37 => first | exact rfl | assumption); (case h0_37 => assumption); (case h1_37 => assumption); (case h2_37 => assumption); (case hg_37 => assumption); (case hdp_37 => ktr_room); (case hun_37 => ktr_units); intro r99' t9' h9' tk9' F9' N9' q99'; (have nz99' := pfi_ne q99'); replace q99' := PfiR.intro q99'; (try k_sweep); (try dsimp only))
  k_with "inplaceOp Add ref ref" => (k_here; k_dflt (refine' kl_iadd ?F_38 ?N_38 ?b_38 ?e_38 ?ne_38 ?U_38 ?d_38 ?z_38 ?y_38 ?_; (case F_38 => k_asm); (case N_38 => k_asm); (case b_38 => k_mem); (case U_38 => k_upd); (case e_38 => kl_lit); (case ne_38 => kl_some); (case d_38 => kl_no); (case z_38 => kl_room); (case y_38 => kl_room)); kl_rest; (try dsimp only))
  k_with "call ref" => (k_here; (with_reducible show wpAny _ _ (call (Value.ref 95) _) _ _ _); k_dflt (refine' divI ?S_40 ?hS_40 ?h2_40 ?h3_40 ?hx_40 ?hy_40 ?hz_40 ?hz1_40 ?hg_40 ?_); (case S_40 => walk_at "mine_sit"); (case hS_40 => walk_at "mine_fq"); (case h2_40 => assumption); (case h3_40 => assumption); (case hx_40 => exact fm_rg (by assumption)); (case hy_40 => exact fm_rg (by assumption)); (case hz_40 => assumption); (case hz1_40 => assumption); (case hg_40 => assumption); intro Z9' qZ9'; replace qZ9' := PfiR.intro qZ9'; walk_at "mine_ret"; (try dsimp only [PySem.W.CmpBack]); (try dsimp only))
  k_with "call ref" => (k_here; (with_reducible show wpAny _ _ (call (Value.ref 107) _) _ _ _); k_dflt (refine' pdiv1 ?S_41 ?hA_41 ?hla_41 ?hlb_41 ?h2_41 ?h3_41 ?hy_41 ?hy1_41 ?hg_41 ?_); (case S_41 => walk_at "mine_sit"); (case hA_41 => walk_at "mine_fq"); (case hla_41 => k_mem); (case hlb_41 => k_mem); (case h2_41 => assumption); (case h3_41 => assumption); (case hy_41 => assumption); (case hy1_41 => assumption); (case hg_41 => assumption); intro D9' Y9' t19' t29' h9' tk9' F9' N9' o19' q9'; replace o19' := OffA.of (off1_of o19'); k_dflt (dsimp only [adr_cons, adr_nil, adr_consA, adr_nilA] at o19'); replace q9' := PfiR.intro q9'; (try k_sweep); (try dsimp only))
  k_with "call ref" => (k_here; (with_reducible show wpAny _ _ (call (Value.ref 107) _) _ _ _); k_dflt (refine' pdiv2 ?S_42 ?hA_42 ?hla_42 ?hlb_42 ?h2_42 ?h3_42 ?hy_42 ?hy1_42 ?hz_42 ?hz1_42 ?hg_42 ?_); (case S_42 => walk_at "mine_sit"); (case hA_42 => walk_at "mine_fq"); (case hla_42 => k_mem); (case hlb_42 => k_mem); (case h2_42 => assumption); (case h3_42 => assumption); (case hy_42 => assumption); (case hy1_42 => assumption); (case hz_42 => assumption); (case hz1_42 => assumption); (case hg_42 => assumption); intro D9' Y9' c9' t19' h9' tk9' F9' N9' o19' q9' eq9'; replace o19' := OffA.of (off1_of o19'); k_dflt (dsimp only [adr_cons, adr_nil, adr_consA, adr_nilA] at o19'); replace q9' := PfiR.intro q9'; replace eq9' := QIs.intro eq9'; (try k_sweep); (try dsimp only))
  k_with "execs cons" => ((try dsimp only); (try k_extra "mine_fold"); first | (refine let_one ?_; intro s7 Qk) | (refine let_cons ?_; intro s7 Qk Qk))
  k_with "eval Constant int" => (refine wpAny_Constant_int ?_; (try dsimp only))
  k_with "newList" => (k_here; k_dflt (refine' newList_K ?k1 ?k2 ?_; (case k1 => k_asm); (case k2 => k_asm); k_whole); intro l9' h9' F9' N9' l19; (try k_lt l19); (try k_sweep); (try dsimp only))
  k_with "mine_ne" => k_dflt (refine neN ?_; (try dsimp only); first | (with_reducible assumption) | (refine' LoA.ne ?hZq ?mZq; (case hZq => with_reducible assumption); (case mZq => ((first | ((repeat (with_reducible (first | exact adr_hd | refine adr_tl ?_ | exact List.mem_cons_self | refine List.mem_cons_of_mem _ ?_))); done) | ((with_reducible show @Membership.mem _ _ _ _ (@OfNat.ofNat _ (nat_lit 51) _)); k_dflt ((repeat (first | exact adr_hd | refine adr_tl ?_ | exact List.Mem.head _ | refine List.Mem.tail _ ?_)); done)))))) | (refine' LoA.ne' ?hZq ?mZq; (case hZq => with_reducible assumption); (case mZq => ((first | ((repeat (with_reducible (first | exact adr_hd | refine adr_tl ?_ | exact List.mem_cons_self | refine List.mem_cons_of_mem _ ?_))); done) | ((with_reducible show @Membership.mem _ _ _ _ (@OfNat.ofNat _ (nat_lit 51) _)); k_dflt ((repeat (first | exact adr_hd | refine adr_tl ?_ | exact List.Mem.head _ | refine List.Mem.tail _ ?_)); done)))))) | (refine' OffA.ne ?hZq ?mZq; (case hZq => with_reducible assumption); (case mZq => ((first | ((repeat (with_reducible (first | exact adr_hd | refine adr_tl ?_ | exact List.mem_cons_self | refine List.mem_cons_of_mem _ ?_))); done) | ((with_reducible show @Membership.mem _ _ _ _ (@OfNat.ofNat _ (nat_lit 51) _)); k_dflt ((repeat (first | exact adr_hd | refine adr_tl ?_ | exact List.Mem.head _ | refine List.Mem.tail _ ?_)); done)))))) | (refine' OffA.ne' ?hZq ?mZq; (case hZq => with_reducible assumption); (case mZq => ((first | ((repeat (with_reducible (first | exact adr_hd | refine adr_tl ?_ | exact List.mem_cons_self | refine List.mem_cons_of_mem _ ?_))); done) | ((with_reducible show @Membership.mem _ _ _ _ (@OfNat.ofNat _ (nat_lit 51) _)); k_dflt ((repeat (first | exact adr_hd | refine adr_tl ?_ | exact List.Mem.head _ | refine List.Mem.tail _ ?_)); done)))))) | (refine' LoA.neS ?hZq ?mZq; (case hZq => with_reducible assumption); (case mZq => ((first | ((repeat (with_reducible (first | exact adr_hd | refine adr_tl ?_ | exact List.mem_cons_self | refine List.mem_cons_of_mem _ ?_))); done) | ((with_reducible show @Membership.mem _ _ _ _ (@OfNat.ofNat _ (nat_lit 51) _)); k_dflt ((repeat (first | exact adr_hd | refine adr_tl ?_ | exact List.Mem.head _ | refine List.Mem.tail _ ?_)); done)))))) | (refine' LoA.neS' ?hZq ?mZq; (case hZq => with_reducible assumption); (case mZq => ((first | ((repeat (with_reducible (first | exact adr_hd | refine adr_tl ?_ | exact List.mem_cons_self | refine List.mem_cons_of_mem _ ?_))); done) | ((with_reducible show @Membership.mem _ _ _ _ (@OfNat.ofNat _ (nat_lit 51) _)); k_dflt ((repeat (first | exact adr_hd | refine adr_tl ?_ | exact List.Mem.head _ | refine List.Mem.tail _ ?_)); done)))))) | (refine' LoA.neT ?hZq ?mZq; (case hZq => with_reducible assumption); (case mZq => ((first | ((repeat (with_reducible (first | exact adr_hd | refine adr_tl ?_ | exact List.mem_cons_self | refine List.mem_cons_of_mem _ ?_))); done) | ((with_reducible show @Membership.mem _ _ _ _ (@OfNat.ofNat _ (nat_lit 51) _)); k_dflt ((repeat (first | exact adr_hd | refine adr_tl ?_ | exact List.Mem.head _ | refine List.Mem.tail _ ?_)); done)))))) | (refine' LoA.neT' ?hZq ?mZq; (case hZq => with_reducible assumption); (case mZq => ((first | ((repeat (with_reducible (first | exact adr_hd | refine adr_tl ?_ | exact List.mem_cons_self | refine List.mem_cons_of_mem _ ?_))); done) | ((with_reducible show @Membership.mem _ _ _ _ (@OfNat.ofNat _ (nat_lit 51) _)); k_dflt ((repeat (first | exact adr_hd | refine adr_tl ?_ | exact List.Mem.head _ | refine List.Mem.tail _ ?_)); done)))))) | exact neS_self | exact neS_self' | ((refine Ne51.ne ?_); with_reducible assumption) | ((refine Ne51.ne' ?_); with_reducible assumption) | (refine' off1_ne ?o1 ?m1; (case o1 => with_reducible assumption); (case m1 => ((repeat (first | exact List.Mem.head _ | refine List.Mem.tail _ ?_)); done))) | (refine' Ne.symm (off1_ne ?o1 ?m1); (case o1 => with_reducible assumption); (case m1 => ((repeat (first | exact List.Mem.head _ | refine List.Mem.tail _ ?_)); done))) | k_extra "mine_om")
  k_with "mine_om" => ((try simp only [LoA.cons_iff, LoA.nil_iff, and_true] at *); omega)
  k_with "exec While" => (
    (rename Fr _ _ _ _ => lF); (rename News _ _ _ _ => lN); (rename Obj => oC);
    k_dflt (refine' while_st (σ := InvSt) AllBare (InvSt.led ((LB9 + 1, oC) :: R6)) InvSt.ps (InvSt.Ok n x y) (fun c => c.k) ⟨_, _, _, _, _, _, _, _, _, 2, _, _, _, _, _, _, _, _, _, _, _, _, _, _, _, _, _, _, _, _, _, _, _, _⟩ lF ?kN ?kG ?k2 ?k3 ?_);
    (case k2 => kst_all);
    (case kN => ((try dsimp only); k_dflt (exact (news_cons lN (by k_dflt k_mem) (news_cons lN (by k_dflt k_mem) (news_cons lN (by k_dflt k_mem) (news_cons lN (by k_dflt k_mem) (news_cons lN (by k_dflt k_mem) (news_cons lN (by k_dflt k_mem) (fun q hq => lN q (by k_dflt (repeat (first | exact hq | refine List.Mem.tail _ ?_)))))))))))));
    (case kG => ((try dsimp only); assumption));
    (case k3 => k_dflt (refine ⟨by assumption, Ne51.intro ?_, Ne51.intro ?_, Ne51.intro ?_, Ne51.intro ?_, inv_start⟩ <;> k_ne));
    clear lF lN;
    intro c u9' h9' g9' tk9' hG9' hI9' F9' N9';
    obtain ⟨tb1, lmA, lowA, hmA, highA, kl1, kw1, kh1, kg1, kt, lz0, lz1, lz2, w0, w1, w2, hz0, hz1, hz2, gz0, gz1, gz2, tt0, tt1, tt2, tt3, tt4, tt5, tt6, tt7, tt8, tt9, tta, ttc⟩ := c;
    dsimp only [InvSt.led, InvSt.ps, InvSt.Ok, li3] at hI9' F9' N9';
    obtain ⟨TB9', nn1, nn2, nn3, nn4, hA⟩ := hI9';
    (have hw2 := inv_w2 hA); subst hw2; obtain ⟨⟨bl0, bl0'⟩, ⟨bl1, bl1'⟩, ⟨bl2, bl2'⟩, ⟨bw0, bw0'⟩, ⟨bw1, bw1'⟩, _⟩ := inv_bd h2 hx hy hA;
    (by_cases hw : w1 = 0 <;> first | (subst hw; obtain ⟨f1, f2, f3⟩ := inv_fin h2 hx hy hn hA rfl; (have hg1 := hP _ f1 f2); (try dsimp only); (try k_unmd); (try k_fold); k_extra "mine_fold") | (obtain ⟨_, hst⟩ := inv_cases h2 hy hA hw; (try dsimp only); (try k_unmd); (try k_fold)); k_extra "mine_fold"))
  k_with "execs cons" => (
    (with_reducible show wpAny _ _ (execs (Stmt.Assign _ (Expr.Call _ [Expr.Call (Expr.Attribute _ _ _) _ _ _] _ _) _ :: _ :: _) _) _ _ _);
    k_dflt (refine' execs_cut2 (InvK gB9 LB9 n y w1 kt (InvSt.ps ⟨tb1, lmA, lowA, hmA, highA, kl1, kw1, kh1, kg1, kt, lz0, lz1, lz2, w0, w1, 0, hz0, hz1, hz2, gz0, gz1, gz2, tt0, tt1, tt2, tt3, tt4, tt5, tt6, tt7, tt8, tt9, tta, ttc⟩) (InvSt.led ((LB9 + 1, oC) :: R6) ⟨tb1, lmA, lowA, hmA, highA, kl1, kw1, kh1, kg1, kt, lz0, lz1, lz2, w0, w1, 0, hz0, hz1, hz2, gz0, gz1, gz2, tt0, tt1, tt2, tt3, tt4, tt5, tt6, tt7, tt8, tt9, tta, ttc⟩) s) InvK.next ?c1 ?c2);
    (case' c1 => (rcases hst with ⟨rfl, hw1, rfl, rfl, rfl, a1, a2⟩ | ⟨rfl, rfl, e1, rfl, b1, b2, b3, b4⟩ <;> first | ((have hw1 := hw1.symm); subst hw1; (have hg1 := hP _ a1 a2)) | (subst e1; (have hg1 := hP _ b1 b2); (have hg2 := hP _ b3 b4))));
    (case' c2 => (k_dflt (rintro s9' ⟨_, h9', g9', tk9', m9', R9', r0, r1, r2, tr0, tr1, tr2, kr, rfl, hG9', F9', hp9', N9', o19', hq⟩); rw [← kstB_same hp9'] at F9'; (try dsimp only [InvSt.led, InvSt.ps, adr_cons, adr_nil, li3] at F9' N9' o19'); clear hp9'; obtain ⟨⟨br0, br0'⟩, ⟨br1, br1'⟩, ⟨br2, br2'⟩⟩ := inv_qb h2 hq; (try k_sweep); (try dsimp only); (try k_unmd); (try k_fold)); k_extra "mine_fold"))
  k_with "mine_end" => first
    | ((rename Fr gB9 LB9 _ _ => kF); (rename News gB9 LB9 _ _ => lN); k_dflt (refine' InvK.intro kF ?hG ?kN ?hp ?ho ?hq); (case hp => kst_all); (case hG => ((try dsimp only); assumption)); (case kN => (dsimp only [InvSt.led]; k_dflt (exact (news_cons lN (by k_dflt k_mem) (news_cons lN (by k_dflt k_mem) (news_cons lN (by k_dflt k_mem) (news_cons lN (by k_dflt k_mem) (news_cons lN (by k_dflt k_mem) (news_cons lN (by k_dflt k_mem) (news_cons lN (by k_dflt k_mem) (fun q hq => lN q (by k_dflt (repeat (first | exact hq | refine List.Mem.tail _ ?_)))))))))))))); (case ho => (dsimp only [InvSt.led, adr_cons, adr_nil]; (repeat (first | exact OffA.nil | ((with_reducible show OffA _ (adr R6)); first | (refine' OffA.sub ?oh ?om; (case oh => with_reducible assumption); (case om => exact fun q hq => by (repeat (with_reducible (first | exact hq | refine adr_tl ?_ | refine List.mem_cons_of_mem _ ?_))))) | (refine' LoA.offSub ?oi ?on; (case oi => with_reducible assumption); (case on => exact fun q hq => by (repeat (with_reducible (first | exact hq | refine adr_tl ?_ | refine List.mem_cons_of_mem _ ?_)))))) | refine OffA.cons (by k_ne) ?_)))); (case hq => first | exact .inl ⟨rfl, _, by assumption, rfl, rfl, rfl⟩ | exact .inr ⟨rfl, _, _, by assumption, by assumption, rfl, rfl, rfl⟩))
    | ((rename Fr gB9 LB9 _ _ => kF); (rename News gB9 LB9 _ _ => lN); (have stp := inv_step h2 hA hw hq); k_dflt (refine' invEnd kF lN ?hG ⟨_, _, _, _, _, _, _, _, _, kt - 1, _, _, _, _, _, _, _, _, _, _, _, _, _, _, _, _, _, _, _, _, _, _, _, _⟩ ?hn ?hk ?hp ?hm); (case hk => kst_all); (case hG => ((try dsimp only); assumption)); (case hn => (dsimp only [InvSt.led]; (repeat (first | ((with_reducible show ∀ p ∈ R6, _); k_dflt (exact fun q hq => by k_dflt (repeat (first | exact hq | refine List.Mem.tail _ ?_)))) | refine List.forall_mem_cons.mpr ⟨by k_dflt k_mem, ?_⟩)))); (case hm => exact stp.2); (case hp => k_dflt (refine ⟨by assumption, Ne51.intro ?_, Ne51.intro ?_, Ne51.intro ?_, Ne51.intro ?_, stp.1⟩ <;> k_ne)))
    | k_extra "mine_fin"
  k_with "binaryOp Add ref ref" => (k_here; (with_reducible show wpAny _ _ (binaryOp _ (Value.ref _) (Value.ref _)) _ _ _); k_dflt (refine' kde_addT ?ka1 ?ka2 ?ka3 ?ka4 ?ka5 ?ka6 ?ka7 ?ka8 ?_; (case ka1 => k_asm); (case ka2 => k_asm); (case ka3 => kun_tup); (case ka4 => kun_tup); (case ka5 => exact List.cons_ne_nil _ _); (case ka6 => exact List.cons_ne_nil _ _); (case ka7 => exact Nat.le_of_ble_eq_true rfl); (case ka8 => kun_lit); k_whole); intro D9' h9' F9' N9' l19; (try k_lt l19); (try k_sweep))
  k_with "mine_fin" => (
    rename PfiR _ _ _ => qA
    have fz := f3 _ qA
    replace hret := hret _ _ (em_rg h2) (em_rg h2) fz.1 fz.2
    rename Based0 _ _ _ _ => hB0
    rename Fr _ _ _ m => kF
    rename News h₀ L _ _ => kN
    have Nr2 := rest_end hB0 (by assumption) Nr kN n51 hg6 (fun q hq => by (repeat (first | exact hq | refine List.Mem.tail _ ?_)))
    have hsz : @LE.le Nat _ s.heap.objs.size _ := hB0.2
    refine' hret _ _ _ _ _ _ _ _ _ _ _ _ _ _ _ _ _ _ _ _ ?G ?T kF (news_cons kN ?m1 (news_cons kN ?m2 (news_cons kN ?m3 (news_cons kN ?m4 (news_cons kN ?m5 (news_cons kN ?m6 Nr2)))))) ?o1 ?o2 ?o3 ?o4 ?o5
    case m1 => k_mem
    case m2 => k_mem
    case m3 => k_mem
    case m4 => k_mem
    case m5 => k_mem
    case m6 => k_mem
    case G => assumption
    case T => assumption
    case o1 =>
      intro u hu
      rcases List.mem_cons.mp hu with r | hu
      · subst r
        refine ltN ?_
        (first | omega | k_extra "mine_om")
      · have hu1 : @LT.lt Nat _ u.1 s.heap.objs.size := Heap.lt_size (Nr u hu).1
        refine ltN ?_
        (first | omega | k_extra "mine_om")
    all_goals (refine ltN ?_; (first | omega | k_extra "mine_om")))
  walk_at "mine_reg"
  obtain ⟨B, F, X, N, T, hk, G, TB, n51, hdp, hun⟩ := S
  obtain ⟨ha1, ⟨ae1, ae2, ae3, ae4, ae5, ae6, ae7, ha2⟩, ha3, ⟨aq1, aq2, ha4⟩, ⟨ar1, ar2, ha5⟩, at1, at2, ak, ha6⟩ := ha
  have Nr : News h₀ L s.heap news := fun q hq => N q (.tail _ hq)
  let R6 : List (Addr × Obj) := [(ax, instObj 192 ad), (ad, fqDict w.params ae1 ae2 ae3 ae4 ae5 ae6 ae7 aml acf amt n), (aml, LCg.lst [.ref amp]), (amp, { cls := .type "tuple", data := .seq #[.int 0 aq1, .int 1 aq2] }), (acf, { cls := .type "tuple", data := .seq #[.int x ar1, .int y ar2] }), (amt, { cls := .type "tuple", data := .seq #[.int 1 at1, .int 0 at2] ak })]
  have hs6 : ∀ q ∈ R6, q ∈ news := (List.forall_mem_cons.mpr ⟨ha1, (List.forall_mem_cons.mpr ⟨ha2, (List.forall_mem_cons.mpr ⟨ha3, (List.forall_mem_cons.mpr ⟨ha4, (List.forall_mem_cons.mpr ⟨ha5, (List.forall_mem_cons.mpr ⟨ha6, (fun _ h => nomatch h)⟩)⟩)⟩)⟩)⟩)⟩)
  have N1 : News h₀ L s.heap ((51, tb) :: R6) := fun q hq => (List.mem_cons.mp hq).elim (fun e => e ▸ N _ (.head _)) (fun hq => Nr q (hs6 q hq))
  have hg6 : ∀ q ∈ R6, s.heap.get? q.1 = some q.2 := fun q hq => (Nr q (hs6 q hq)).1
  have h516 : ∀ q ∈ R6, q.1 ≠ 51 := fun q hq => n51 q (hs6 q hq)
  have ne0 := Ne51.intro (neN (n51 _ ha1))
  have ne1 := Ne51.intro (neN (n51 _ ha2))
  have ne2 := Ne51.intro (neN (n51 _ ha3))
  have ne3 := Ne51.intro (neN (n51 _ ha4))
  have ne4 := Ne51.intro (neN (n51 _ ha5))
  have ne5 := Ne51.intro (neN (n51 _ ha6))
  dsimp only at ne0 ne1 ne2 ne3 ne4 ne5
  refine wpAny_call ?_
  clear N
  k_dflt (walk_at "mine_enterC")
  clear N1
  k_unmd
  k_fold
  refine let_entry ?_
  intro M9 A9 e9 E9 Qk
  k_extra "mine_fold"
  w_strict (repeat' (k_extra "mine_step"))
  all_goals k_extra "mine_end"
end
end I2_part
end Mine
end A_lines
section B_lines
open PySem PySem.W PyProof.Rows PySem.Calls
namespace Mine
local macro_rules | `(tactic| walk_at $s:str) => `(tactic| k_extra $s)
local macro_rules | `(tactic| k_lt $h) => `(tactic| first | (k_extra "mine_lo"; replace $h:ident := LoA.of $h; (try dsimp only [adr_cons, adr_nil, adr_consA, adr_nilA] at $h:ident)) | (replace $h:ident := allLt_of $h; simp only [AllLt, and_true] at $h:ident))
local macro_rules | `(tactic| k_ne) => `(tactic| k_extra "mine_ne")
local macro_rules | `(tactic| k_all) => `(tactic| first | with_reducible assumption | exact List.forall_mem_nil _ | (refine LoA.allNe ?_; (try dsimp only [adr_cons, adr_nil, adr_consA, adr_nilA]); with_reducible assumption) | (refine OffA.allNe ?_; (try dsimp only [adr_cons, adr_nil, adr_consA, adr_nilA]); with_reducible assumption) | (refine' List.forall_mem_cons.mpr ⟨?a, ?b⟩; (case a => k_ne); (case b => k_all)))
local macro_rules | `(tactic| k_mem) => `(tactic| first | ktr_member | exact List.Mem.head _ | (refine' List.mem_cons_of_mem _ ?_; k_mem))
/-! T4 -/
section T4_part
open PySem
theorem bitAnd_one (e : Nat) : Builtin.bitAnd (e : Int) 1 = ((e % 2 : Nat) : Int) := by
  show ((e &&& 1 : Nat) : Int) = _
  rw [Nat.and_one_is_mod]
theorem fdiv_two (e : Nat) : (e : Int).fdiv (2 ^ Int.toNat 1) = ((e / 2 : Nat) : Int) := by
  have : ((2 : Int) ^ Int.toNat 1) = ((2 : Nat) : Int) := rfl
  rw [this, Int.fdiv_eq_ediv_of_nonneg _ (by omega)]
  rfl
theorem pw_odd {n : Int} {f e : Nat} {o t res : G} (h : pw n f e o t = res) (l : e < 2 ^ f) (h0 : 0 < (e : Int)) (hb : ¬ Builtin.bitAnd (e : Int) 1 = 0) :
    ∃ f', e / 2 < 2 ^ f' ∧ pw n f' (e / 2) (red n (gm o t)) (red n (gm t t)) = res := by
  rw [bitAnd_one] at hb
  cases f with
  | zero => simp at l; omega
  | succ f =>
    refine ⟨f, by rw [Nat.pow_succ] at l; omega, ?_⟩
    simp only [pw, if_neg (show ¬ e = 0 by omega), if_pos (show e % 2 = 1 by omega)] at h
    exact h
theorem pw_even {n : Int} {f e : Nat} {o t res : G} (h : pw n f e o t = res) (l : e < 2 ^ f) (h0 : 0 < (e : Int)) (hb : Builtin.bitAnd (e : Int) 1 = 0) :
    ∃ f', e / 2 < 2 ^ f' ∧ pw n f' (e / 2) o (red n (gm t t)) = res := by
  rw [bitAnd_one] at hb
  cases f with
  | zero => simp at l; omega
  | succ f =>
    refine ⟨f, by rw [Nat.pow_succ] at l; omega, ?_⟩
    simp only [pw, if_neg (show ¬ e = 0 by omega), if_neg (show ¬ e % 2 = 1 by omega)] at h
    exact h
theorem pw_none {n : Int} {f e : Nat} {o t res : G} (h : pw n f e o t = res) (h0 : ¬ 0 < (e : Int)) : o = res := by
  have : e = 0 := by omega
  subst this
  cases f with
  | zero => exact h
  | succ f => simpa [pw] using h
end T4_part
/-! C11 -/
section C11_part
open PySem PySem.W PyProof.Rows PySem.Calls
theorem FqAt.mk6 {P : Params} {news : List (Addr × Obj)} {sx d ml mp cf mt : Addr} {n x y : Int} {e1 e2 e3 e4 e5 e6 e7 q1 q2 r1 r2 t1 t2 : Tok} {k : Nat} (f1 : (sx, instObj 192 d) ∈ news) (f2 : (d, fqDict P e1 e2 e3 e4 e5 e6 e7 ml cf mt n) ∈ news) (f3 : (ml, LCg.lst [.ref mp]) ∈ news) (f4 : (mp, ({ cls := .type "tuple", data := .seq #[.int 0 q1, .int 1 q2] } : Obj)) ∈ news)
    (f5 : (cf, ({ cls := .type "tuple", data := .seq #[.int x r1, .int y r2] } : Obj)) ∈ news) (f6 : (mt, ({ cls := .type "tuple", data := .seq #[.int 1 t1, .int 0 t2] k } : Obj)) ∈ news) : FqAt P news sx d ml mp cf mt n x y := ⟨f1, ⟨e1, e2, e3, e4, e5, e6, e7, f2⟩, f3, ⟨q1, q2, f4⟩, ⟨r1, r2, f5⟩, t1, t2, k, f6⟩
theorem FqAt.sub {P : Params} {news rows : List (Addr × Obj)} {sx d ml mp cf mt : Addr} {n x y : Int} (h : FqAt P news sx d ml mp cf mt n x y) (k : ∀ p ∈ news, p ∈ rows) : FqAt P rows sx d ml mp cf mt n x y := by
  obtain ⟨a, ⟨e1, e2, e3, e4, e5, e6, e7, b⟩, c, ⟨q1, q2, d⟩, ⟨r1, r2, e⟩, t1, t2, k', f⟩ := h
  exact ⟨k _ a, ⟨e1, e2, e3, e4, e5, e6, e7, k _ b⟩, k _ c, ⟨q1, q2, k _ d⟩, ⟨r1, r2, k _ e⟩, t1, t2, k', k _ f⟩
theorem FqAt.tail {P : Params} {q : Addr × Obj} {news : List (Addr × Obj)} {sx d ml mp cf mt : Addr} {n x y : Int} (h : FqAt P news sx d ml mp cf mt n x y) : FqAt P (q :: news) sx d ml mp cf mt n x y := h.sub fun _ hp => .tail _ hp

set_option genInjectivity false in
set_option genSizeOf false in
structure PowSt where
  tb : Obj
  rows : List (Addr × Obj)
  o : Addr
  od : Addr
  oml : Addr
  omp : Addr
  ocf : Addr
  ox : Int
  oy : Int
  t : Addr
  td : Addr
  tml : Addr
  tmp : Addr
  tcf : Addr
  tx : Int
  ty : Int
  f : Nat
  e : Nat
  te : Tok
/-- a result that stands in a grown ledger -/
def RetO (w : World) (h₀ : Heap) (L : Addr) (m : Str → Option Value) (news : List (Addr × Obj)) (s : Shared) (Q : Value → Shared → Prop) (mt : Addr) (n x y : Int) : Prop :=
  ∀ x' d ml mp cf tb' rows h' g' tk', AllBare g' → TabOk tb' → Fr h₀ L h' m → News h₀ L h' ((51, tb') :: rows) → (∀ p ∈ news, p ∈ rows) → (∀ p ∈ rows, p.1 ≠ 51) → FqAt w.params rows x' d ml mp cf mt n x y → Q (.ref x') { s with heap := h', gens := g', toks := tk' }
def PowInv (w : World) (news : List (Addr × Obj)) (amt : Addr) (n : Int) (res : G) (c : PowSt) : Prop :=
  TabOk c.tb ∧ (∀ p ∈ c.rows, p.1 ≠ 51) ∧ (∀ p ∈ news, p ∈ c.rows) ∧ FqAt w.params c.rows c.o c.od c.oml c.omp c.ocf amt n c.ox c.oy ∧ FqAt w.params c.rows c.t c.td c.tml c.tmp c.tcf amt n c.tx c.ty ∧
    (0 ≤ c.ox ∧ c.ox < n) ∧ (0 ≤ c.oy ∧ c.oy < n) ∧ (0 ≤ c.tx ∧ c.tx < n) ∧ (0 ≤ c.ty ∧ c.ty < n) ∧ c.e < 2 ^ c.f ∧ pw n c.f c.e (c.ox, c.oy) (c.tx, c.ty) = res
theorem powEnd {w : World} {h₀ : Heap} {L : Addr} {s0 : Shared} {news rows : List (Addr × Obj)} {amt : Addr} {n : Int} {res : G} {Q : Flow → Shared → Prop} {c : PowSt} {h' : Heap} {g' : Array GenState} {tk : Nat} {m' : Str → Option Value} {tb : Obj} {o od oml omp ocf t td tml tmp tcf : Addr} {ox oy tx ty : Int} {f e : Nat} {te : Tok}
    (F : Fr h₀ L h' m') (N : News h₀ L h' ((51, tb) :: rows)) (hg : AllBare g') (ho : m' (Str.ofString "o") = some (.ref o)) (ht : m' (Str.ofString "t") = some (.ref t)) (he : m' (Str.ofString "other") = some (.int (e : Int) te))
    (hm : e < c.e) (TB : TabOk tb) (n51 : ∀ p ∈ rows, p.1 ≠ 51) (sub : ∀ p ∈ news, p ∈ rows) (fO : FqAt w.params rows o od oml omp ocf amt n ox oy) (fT : FqAt w.params rows t td tml tmp tcf amt n tx ty)
    (r1 : 0 ≤ ox ∧ ox < n) (r2 : 0 ≤ oy ∧ oy < n) (r3 : 0 ≤ tx ∧ tx < n) (r4 : 0 ≤ ty ∧ ty < n) (lf : e < 2 ^ f) (pf : pw n f e (ox, oy) (tx, ty) = res) :
    WhPost h₀ L s0 AllBare (fun c => (51, c.tb) :: c.rows) (fun c => [(Str.ofString "o", .ref c.o), (Str.ofString "t", .ref c.t), (Str.ofString "other", .int (c.e : Int) c.te)]) (PowInv w news amt n res) (fun c => c.e) Q c .next { s0 with heap := h', gens := g', toks := tk } :=
  WhEnd.intro F N hg ⟨tb, rows, o, od, oml, omp, ocf, ox, oy, t, td, tml, tmp, tcf, tx, ty, f, e, te⟩ (fun _ hp => hp) (fun p hp => by
    rcases List.mem_cons.mp hp with rfl | hp
    · exact ho
    rcases List.mem_cons.mp hp with rfl | hp
    · exact ht
    · rw [List.mem_singleton.mp hp]; exact he) ⟨TB, n51, sub, fO, fT, r1, r2, r3, r4, lf, pf⟩ hm
section
variable {w : World} {p : Program} {loose : List Str} {mean : ExcName → Option Value} {mg mb : Str → Option Value} {dp un : Nat} {gd : Option (List Code)} {cn : Str} {cs : Scope} {a : Addr} {ccd : Value} {cl : List (Str × Addr)} {outer : List Env} {A₀ : Around} {base h₀ : Heap} {L : Addr} {m : Str → Option Value} {tb : Obj} {news : List (Addr × Obj)} {s : Shared} {Q E : Value → Shared → Prop}
set_option maxRecDepth 100000 in
set_option maxHeartbeats 4000000 in
theorem pow {ax ad aml amp acf amt : Addr} {n x y : Int} {k F0 : Nat} {te : Tok} {res : G} (S : Sit w p loose mean mg mb 8 dp un cs outer A₀ base h₀ L m tb news s)
    (ha : FqAt w.params news ax ad aml amp acf amt n x y) (h2 : 1 < n) (h3 : n < 1000) (hx : 0 ≤ x ∧ x < n) (hy : 0 ≤ y ∧ y < n) (hk2 : k < 2 ^ F0) (hres : pw n F0 k (1, 0) (x, y) = res)
    (hret : RetO w h₀ L m news s Q amt n res.1 res.2) :
    wpAny (model PySem.Challenge.rw_kh0013_01.row.prog w) (ktrTop dp un gd cn cs L a ccd cl outer) (call (.ref 102) [.ref ax, .int (k : Int) te]) Q E s := by
  k_with_none
  k_with "mine_fold" => first | (have F8 := F7; have N8 := N7; clear F8 N8) | (rename Fr _ _ _ _ => F7; rename News _ _ _ _ => N7; revert F7 N7; refine let_FN ?_; intro m7 n7 F7 N7)
  k_with "mine_step" => (first | (with_reducible show Qk _ _; dsimp only [Qk]; clear Qk) | (k_unfold; (try dsimp only)) | (k_end; kc_close) | walk1 | (dsimp only; walk1) | (leave1; walk_say "STEP leave1"; (try dsimp only)))
  k_with "mine_lo" => skip
  k_with "CompRest" => (with_unfolding_all first | (refine LCg.CompRest.succ ?_; intro v9' I9' oI9' C9' oC9' D9' m9' h9' tk9' E9' hv9' hC9' hx9' F9' N9' off9' ne9'; clear ne9'; (first | lcg_open hv9' | (obtain ⟨t99', hv99'⟩ := hv9'; subst hv99'))) | refine LCg.CompRest.zero ?_)
  k_with "CompEnd" => (k_here; (refine' LCg.CompEnd.intro ?F_1 ?N_1 _ (fun p hp => hp) ?off_1 ?S_1 ?_); (case F_1 => k_asm); (case N_1 => k_asm); (case off_1 => assumption); (case S_1 => (refine' srcAt_led ?m9_1; (case m9_1 => k_mem))))
  k_with "FinE" => ((unfold LCg.FinE); intro D9' h9' tk9' F9' N9' o19'; k_dflt (replace o19' := OffA.of o19'; (try dsimp only [adr_cons, adr_nil, adr_consA, adr_nilA] at o19')); (try simp only [List.nil_append, List.cons_append] at N9'); (try dsimp only))
  k_with "eval ListComp" => (k_here; k_dflt (refine LCg.ListComp_U (F₀ := by k_asm) (by with_unfolding_all rfl) (by decide) (by rfl) (by decide) (by rfl) ?_); k_dflt lcg_toSrc)
  k_with "CompSrc" => (k_here; k_dflt (refine LCg.CompSrc.ledger (by rfl) (by k_asm) (by k_asm) (by k_mem) (by first | size_fits | exact Nat.le_of_ble_eq_true rfl) ?_; intro g9'; lcg_lit))
  k_with "exec For Name Call cons nil" => (k_here; (rename Fr _ _ _ _ => lF9'); (with_unfolding_all refine' For_turns lF9' ?_; k_whole))
  k_with "pyIter ref" => (k_here; (with_reducible show wpAny _ _ (pyIter (Value.ref _)) (fun it s₂ => TurnsAt _ _ _ _ _ _ _ _ _ it s₂) _ _); (with_reducible rename IsRange _ _ _ _ _ _ _ _ => rX9'); with_unfolding_all (first | (refine' range_turns (xs := [Itm.tok (fun t => Value.int (0 : Int) t)]) ?hh_6 ?F_6 ?N_6 rX9' ?sm_6 ?hn_6 ?hx_6 ?_; (case hn_6 => decide +kernel); (case sm_6 => decide +kernel); (case hx_6 => rfl)) | (refine' range_turns (xs := [Itm.tok (fun t => Value.int (1 : Int) t), Itm.tok (fun t => Value.int (0 : Int) t)]) ?hh_6 ?F_6 ?N_6 rX9' ?sm_6 ?hn_6 ?hx_6 ?_; (case hn_6 => decide +kernel); (case sm_6 => decide +kernel); (case hx_6 => rfl)) | (refine' range_turns (xs := [Itm.tok (fun t => Value.int (0 : Int) t), Itm.tok (fun t => Value.int (1 : Int) t)]) ?hh_6 ?F_6 ?N_6 rX9' ?sm_6 ?hn_6 ?hx_6 ?_; (case hn_6 => decide +kernel); (case sm_6 => decide +kernel); (case hx_6 => rfl)) | (refine' range_turns (xs := [Itm.tok (fun t => Value.int (0 : Int) t), Itm.tok (fun t => Value.int (1 : Int) t), Itm.tok (fun t => Value.int (2 : Int) t)]) ?hh_6 ?F_6 ?N_6 rX9' ?sm_6 ?hn_6 ?hx_6 ?_; (case hn_6 => decide +kernel); (case sm_6 => decide +kernel); (case hx_6 => rfl)) | (refine' range_turns (xs := [Itm.tok (fun t => Value.int (2 : Int) t), Itm.tok (fun t => Value.int (1 : Int) t), Itm.tok (fun t => Value.int (0 : Int) t)]) ?hh_6 ?F_6 ?N_6 rX9' ?sm_6 ?hn_6 ?hx_6 ?_; (case hn_6 => decide +kernel); (case sm_6 => decide +kernel); (case hx_6 => rfl)) | (refine' range_turns (xs := []) ?hh_6 ?F_6 ?N_6 rX9' ?sm_6 ?hn_6 ?hx_6 ?_; (case hn_6 => decide +kernel); (case sm_6 => decide +kernel); (case hx_6 => rfl))); (case hh_6 => rfl); (case F_6 => k_asm); (case N_6 => k_asm); clear rX9'; intro i9' l19; (try k_lt l19))
  k_with "call type:enumerate" => (k_here; k_dflt (refine' enum_make ?F_7 ?N_7 ?m_7 ?_); (case F_7 => k_asm); (case N_7 => k_asm); (case m_7 => k_mem); intro e9' h9' F9' N9' eX9'; (try k_sweep); (try dsimp only))
  k_with "call type:enumerate" => (k_here; (with_reducible show wpAny _ _ (call (Value.type _) [Value.ref _]) (fun xv s₁ => wpAny _ _ (pyIter xv) (fun it s₂ => TurnsAt _ _ _ _ _ _ _ _ _ it s₂) _ s₁) _ _); with_unfolding_all (refine' enum_turns (vs := [_, _]) (xs := [Itm.pair (fun t => Value.int (0 : Int) t) _, Itm.pair (fun t => Value.int (1 : Int) t) _]) ?hh_8 ?F_8 ?N_8 ?hm_8 ?hc_8 ?hd_8 ?hx_8 ?_; (case hh_8 => rfl); (case F_8 => k_asm); (case N_8 => k_asm); (case hm_8 => k_mem); (case hc_8 => rfl); (case hd_8 => rfl); (case hx_8 => rfl)); intro i9' l19; (try k_lt l19); (try dsimp only))
  k_with "call type:list" => (k_here; (rename EnumF _ _ _ _ _ _ _ => eX9'); k_dflt (refine' enum_list ?hh_9 ?F_9 ?N_9 eX9' ?_); (case hh_9 => rfl); (case F_9 => k_asm); (case N_9 => k_asm); intro S9' T19' T29' k19' k29' c9' h9' tk9' F9' N9' l19 l29 l39; clear eX9'; (try k_lt l19); (k_lt2 l29); (have l29 := LoA.tr l19 l29); (k_lt2 l39); (have l39 := LoA.tr l29 l39); (try k_sweep); (try dsimp only))
  k_with "exec For Tuple Call cons nil" => (k_here; (rename Fr _ _ _ _ => lF9'); (with_unfolding_all refine' For_turns lF9' ?_; k_whole))
  k_with "exec For Tuple Attribute cons nil" => (k_here; (rename Fr _ _ _ _ => lF9'); (with_unfolding_all refine' For_turns lF9' ?_; k_whole))
  k_with "mine_enterC" => (refine' enter_defC ?k1_12 ?k2_12 ?k3_12 ?k4_12 ?k5_12 ?kA_12 ?kF_12 ?kK_12 ?k6_12 ?k7_12 ?k8_12 ?k9_12 ?kB_12 ?kD_12 ?_ ?c2_12 ?c3_12 ?c4_12; (case kA_12 => exact rfl); (case kF_12 => exact rfl); (case kK_12 => first | exact rfl | assumption); (case k1_12 => k_asm); (case k2_12 => k_asm); (case k3_12 => k_asm); (case k4_12 => k_asm); (case k5_12 => k_asm); (case k6_12 => k_is); (case k7_12 => k_is); (case k8_12 => ktr_room); (case k9_12 => exact BindsTo.of_eq rfl); (case kB_12 => exact rfl); (case kD_12 => decide +kernel); (case c2_12 => exact rfl); (case c3_12 => exact rfl); (case c4_12 => exact rfl); k_whole; intro g9' L9' h9' tk9' cells9' FG9' F9' N9' Y9' B9' X9' T9' l19 hBs; (try k_lt l19); k_cells Y9'; (try simp only [List.cons_append, List.nil_append] at N9'); (try dsimp only); (try k_lift B9'); (try k_fold))
  k_with "eval ListComp" => (k_here; (with_reducible show wpAny _ _ (eval (PySem.Expr.ListComp (PySem.Expr.Tuple _ _ _) _ _ _) _) _ _ _); k_dflt (refine mc_comp (by with_unfolding_all rfl) (by with_unfolding_all rfl) (by decide) (by rfl) (by decide) (by rfl) (by rfl) (by decide) (by decide) (by decide) ?_))
  k_with "call type:enumerate" => (k_here; (with_reducible show wpAny _ _ (call (Value.type _) [Value.ref _]) (McSrc _) _ _); k_dflt (refine' mc_call ?F_14 ?N_14 ?m_14 ?_; (case F_14 => k_asm); (case N_14 => k_asm); (case m_14 => k_mem)); intro D9' T9' ti9' h9' tk9' F9' N9' l19 l29; (try k_lt l19); (k_lt2 l29); (have l29 := LoA.tr l19 l29); (try k_sweep); (try dsimp only))
  k_with "mine_split" => (repeat' (first | exact Split.here | apply Split.skip))
  k_with "eval GeneratorExp" => (k_here; k_dflt (refine' gen_make ?F_16 (Split.toNews ?N_16 ?sp_16) ?h51_16 ?tb_16 ?G_16 ?X_16 ?T_16 ?hh_16 ?hcode_16 ?hgl_16 ?room_16 ?hek_16 ?hey_16 ?hdy_16 ?hvy_16 ?hml_16 ?hmc_16 ?hoc_16 ?hms_16 ?hmd_16 ?hfm_16 ?hq_16 ?hco_16 ?hclos_16 ?hcell_16 ?h0_16 ?hx_16 ?hsn_16 ?hkind_16 ?hdx_16 ?hds_16 ?hdc_16 ?_); (case F_16 => k_asm); (case N_16 => k_asm); (case sp_16 => walk_at "mine_split"); (case h51_16 => k_all); (case tb_16 => assumption); (case G_16 => assumption); (case X_16 => k_asm); (case T_16 => k_asm); (case hh_16 => rfl); (case hcode_16 => rfl); (case hgl_16 => rfl); (case room_16 => ktr_room); (case hek_16 => rfl); (case hey_16 => with_unfolding_all rfl); (case hdy_16 => decide); (case hvy_16 => with_unfolding_all rfl); (case hml_16 => k_mem); (case hclos_16 => with_unfolding_all rfl); (case hmc_16 => k_mem); (case hoc_16 => assumption); (case hms_16 => k_mem); (case hmd_16 => k_mem); (case hfm_16 => k_get); (case hq_16 => omega); (case hco_16 => rfl); (case hcell_16 => decide); (case h0_16 => rfl); (case hx_16 => rfl); (case hsn_16 => rfl); (case hkind_16 => rfl); (case hdx_16 => decide); (case hds_16 => decide); (case hdc_16 => decide); intro a9' tb9' h9' g9' tk9' G9' TB9' F9' N9' X9'; (try k_sweep))
  k_with "call type:tuple" => (k_here; k_dflt (refine' call_tuple_tup ?T_17 ?_); (case T_17 => exact News.isTup (by k_asm) (by k_mem)); (try dsimp only))
  k_with "call type:tuple" => (k_here; (rename GenR _ _ _ _ _ _ _ _ _ _ => gX9'); k_dflt (refine' gen_tuple ?F_18 ?N_18 ?G_18 gX9' ?_); (case F_18 => k_asm); (case N_18 => k_asm); (case G_18 => assumption); intro D9' t19' t29' h9' g9' tk9' G9' F9' N9' l19; clear gX9'; (try k_lt l19); (try k_sweep))
  k_with "mine_reg" => (w_on; (have _h : (PySem.Challenge.rw_kh0013_01 = PySem.Challenge.rw_kh0013_01) ∧ (Mine.hd.heap_1 = Mine.hd.heap_1) := by (k_fill; exact ⟨rfl, rfl⟩)); clear _h)
  k_with "mine_enter" => (refine' enter_def ?k1_20 ?k2_20 ?k3_20 ?k4_20 ?k5_20 ?kA_20 ?kF_20 ?kK_20 ?k6_20 ?k7_20 ?k8_20 ?k9_20 ?kB_20 ?_ ?c2_20 ?c3_20 ?c4_20 ?c5_20; (case kA_20 => exact rfl); (case kF_20 => exact rfl); (case kK_20 => first | exact rfl | assumption); (case k1_20 => k_asm); (case k2_20 => k_asm); (case k3_20 => k_asm); (case k4_20 => k_asm); (case k5_20 => k_asm); (case k6_20 => k_is); (case k7_20 => k_is); (case k8_20 => ktr_room); (case k9_20 => exact BindsTo.of_eq rfl); (case c5_20 => decide); (case kB_20 => exact locs rfl); (case c2_20 => exact rfl); (case c3_20 => exact rfl); (case c4_20 => exact rfl); k_whole; intro g9' L9' h9' FG9' F9' N9' B9' X9' T9' hBs; (try dsimp only); (try k_lift B9'); (try k_fold))
  k_with "mine_sit" => (refine' Sit.mk ?B_21 ?F_21 ?X_21 (Split.toNews ?N_21 ?sp_21) ?T_21 ?hk_21 ?G_21 ?TB_21 ?n51_21 ?hdp_21 ?hun_21; (case B_21 => k_asm); (case F_21 => k_asm); (case X_21 => k_asm); (case N_21 => k_asm); (case sp_21 => walk_at "mine_split"); (case T_21 => k_asm); (case hk_21 => first | exact rfl | assumption); (case G_21 => assumption); (case TB_21 => assumption); (case n51_21 => first | assumption | k_all); (case hdp_21 => ktr_room); (case hun_21 => ktr_units))
  k_with "mine_ret" => (intro x9' d9' ml9' mp9' cf9' tb9' h9' g9' tk9' e19' e29' e39' e49' e59' e69' e79' q19' q29' r19' r29' G9' TB9' F9' N9' l19 l29 l39 l49 l59; (try k_lt l19); (k_lt2 l29); (have l29 := LoA.tr l19 l29); (k_lt2 l39); (have l39 := LoA.tr l29 l39); (k_lt2 l49); (have l49 := LoA.tr l39 l49); (k_lt2 l59); (have l59 := LoA.tr l49 l59); (try k_sweep); (try dsimp only))
  k_with "call ref" => (k_here; (with_reducible show wpAny _ _ (call (Value.ref 192) _) _ _ _); k_dflt (refine' mkS ?S_23 ?hlc_23 ?hmt_23 ?h2_23 ?h3_23 ?_); (case S_23 => walk_at "mine_sit"); (case hlc_23 => k_mem); (case hmt_23 => k_mem); (case h2_23 => first | assumption | omega); (case h3_23 => first | assumption | omega); walk_at "mine_ret"; (try dsimp only))
  k_with "mine_fq" => (refine' And.intro ?f1_24 (And.intro (Exists.intro _ (Exists.intro _ (Exists.intro _ (Exists.intro _ (Exists.intro _ (Exists.intro _ (Exists.intro _ ?f2_24))))))) (And.intro ?f3_24 (And.intro (Exists.intro _ (Exists.intro _ ?f4_24)) (And.intro (Exists.intro _ (Exists.intro _ ?f5_24)) (Exists.intro _ (Exists.intro _ (Exists.intro _ ?f6_24))))))); (case f1_24 => k_mem); (case f2_24 => k_mem); (case f3_24 => k_mem); (case f4_24 => k_mem); (case f5_24 => k_mem); (case f6_24 => k_mem))
  k_with "call ref" => (k_here; (with_reducible show wpAny _ _ (call (Value.ref 181) _) _ _ _); k_dflt (refine' made ?S_25 ?hS_25 ?hlc_25 ?h2_25 ?h3_25 ?_); (case S_25 => walk_at "mine_sit"); (case hS_25 => walk_at "mine_fq"); (case hlc_25 => k_mem); (case h2_25 => first | assumption | omega); (case h3_25 => first | assumption | omega); walk_at "mine_ret"; (try dsimp only))
  k_with "mine_lt" => first | (refine LoA.allLt ?_; (try dsimp only [adr_cons, adr_nil, adr_consA, adr_nilA]); with_reducible assumption) | exact allLt_nil | (refine allLt_cons ?mltZ ?_; (case mltZ => first | with_reducible assumption | (refine' LoA.lt ?hZq ?mZq; (case hZq => with_reducible assumption); (case mZq => (k_dflt ((repeat (first | exact List.Mem.head _ | refine List.Mem.tail _ ?_)); done)))) | (refine' LoA.ltS ?hZq ?mZq; (case hZq => with_reducible assumption); (case mZq => (k_dflt ((repeat (first | exact List.Mem.head _ | refine List.Mem.tail _ ?_)); done))))); walk_at "mine_lt")
  k_with "UnrEndW" => k_dflt (first | (refine' unr_end2 ?F_27 ?N_27 ?l_27 ?k_27 ?_; (case F_27 => k_asm); (case N_27 => k_asm); (case l_27 => walk_at "mine_lt"); (case k_27 => k_subL)) | (refine' unr_end1 ?F_27 ?N_27 ?l_27 ?k_27 ?_; (case F_27 => k_asm); (case N_27 => k_asm); (case l_27 => walk_at "mine_lt"); (case k_27 => k_subL)))
  k_with "getItem ref int" => (k_here; (with_reducible show wpAny _ _ (getItem (Value.ref _) (Value.int _ _)) _ _ _); k_dflt (refine' get_here ?N_28 ?m_28 ?a_28 ?b_28 ?x_28 ?_; (case N_28 => k_asm); (case m_28 => k_mem); (case a_28 => decide); (case b_28 => decide); (case x_28 => rfl); k_whole))
  k_with "subscriptTail" => (k_here; (with_reducible show wpAny _ _ (subscriptTail _ _ (Value.ref _) (Value.int _ _)) _ _ _); with_unfolding_all (first | (refine' item_tupleT ?t_29 ?a_29 ?b_29 ?c_29 ?d_29 ?_ ?e_29; (case t_29 => exact News.isTup (by k_asm) (by k_mem)); (case a_29 => decide); (case b_29 => decide); (case c_29 => rfl); (case d_29 => rfl); (case e_29 => with_unfolding_all rfl); k_whole) | (refine' sub_here ?N_29 ?m_29 ?k2_29 ?k3_29 ?k4_29 ?_ ?k6_29; (case N_29 => k_asm); (case m_29 => k_mem); (case k2_29 => decide); (case k3_29 => decide); (case k4_29 => rfl); (case k6_29 => with_unfolding_all rfl); k_whole)))
  k_with "setItem ref int" => (k_here; k_dflt (refine' ki_set ?F_30 ?N_30 ?a_30 ?b_30 ?e_30 ?U_30 ?_; (case F_30 => k_asm); (case N_30 => k_asm); (case U_30 => k_upd); (case a_30 => decide); (case b_30 => decide); (case e_30 => rfl)); ki_rest; (try dsimp only))
  k_with "binaryOp Mult ref int" => (k_here; (with_reducible show wpAny _ _ (binaryOp Operator.Mult (Value.ref _) (Value.int _ _)) _ _ _); k_dflt (refine' KMa.mul ?F_31 ?N_31 ?l_31 ?lo_31 ?hi_31 ?z_31 ?e_31 ?_; (case F_31 => k_asm); (case N_31 => k_asm); (case l_31 => is_list); (case lo_31 => first | omega | decide); (case hi_31 => first | omega | decide); (case z_31 => (simp only [List.length_cons, List.length_nil]; decide)); (case e_31 => (simp only [Int.reduceMul, Int.reduceSub, Int.reduceAdd, Int.reduceToNat, List.replicate_succ, List.replicate_zero, List.flatten_cons, List.flatten_nil, List.cons_append, List.nil_append, List.append_nil]; first | done | exact rfl)); k_whole); intro D9' h9' F9' N9' l19; (try k_lt l19); (try k_sweep); (try dsimp only))
  k_with "subscriptTail Name Name ref int" => (k_here; k_dflt (refine' sub_here ?N_32 ?m_32 ?k2_32 ?k3_32 ?k4_32 ?_ ?k6_32; (case N_32 => k_asm); (case m_32 => k_mem); (case k2_32 => decide); (case k3_32 => decide); (case k4_32 => rfl); (case k6_32 => with_unfolding_all rfl); k_whole); (try dsimp only))
  k_with "subscriptTail Name BinOp ref int" => (k_here; k_dflt (refine' sub_here ?N_33 ?m_33 ?k2_33 ?k3_33 ?k4_33 ?_ ?k6_33; (case N_33 => k_asm); (case m_33 => k_mem); (case k2_33 => decide); (case k3_33 => decide); (case k4_33 => rfl); (case k6_33 => with_unfolding_all rfl); k_whole); (try dsimp only))
  k_with "subscriptTail Name Constant ref int" => (k_here; k_dflt (refine' sub_here ?N_34 ?m_34 ?k2_34 ?k3_34 ?k4_34 ?_ ?k6_34; (case N_34 => k_asm); (case m_34 => k_mem); (case k2_34 => decide); (case k3_34 => decide); (case k4_34 => rfl); (case k6_34 => with_unfolding_all rfl); k_whole); (try dsimp only))
  k_with "mine_fq" => (first | exact (by with_reducible assumption) | exact (FqAt.tail (by with_reducible assumption)) | exact (FqAt.tail (FqAt.tail (by with_reducible assumption))) | exact (FqAt.tail (FqAt.tail (FqAt.tail (by with_reducible assumption)))) | exact (FqAt.tail (FqAt.tail (FqAt.tail (FqAt.tail (by with_reducible assumption))))) | exact (FqAt.tail (FqAt.tail (FqAt.tail (FqAt.tail (FqAt.tail (by with_reducible assumption)))))) | exact (FqAt.tail (FqAt.tail (FqAt.tail (FqAt.tail (FqAt.tail (FqAt.tail (by with_reducible assumption))))))) | exact (FqAt.tail (FqAt.tail (FqAt.tail (FqAt.tail (FqAt.tail (FqAt.tail (FqAt.tail (by with_reducible assumption)))))))) | exact (FqAt.tail (FqAt.tail (FqAt.tail (FqAt.tail (FqAt.tail (FqAt.tail (FqAt.tail (FqAt.tail (by with_reducible assumption))))))))) | exact (FqAt.tail (FqAt.tail (FqAt.tail (FqAt.tail (FqAt.tail (FqAt.tail (FqAt.tail (FqAt.tail (FqAt.tail (by with_reducible assumption)))))))))) | exact (FqAt.tail (FqAt.tail (FqAt.tail (FqAt.tail (FqAt.tail (FqAt.tail (FqAt.tail (FqAt.tail (FqAt.tail (FqAt.tail (by with_reducible assumption))))))))))) | exact (FqAt.tail (FqAt.tail (FqAt.tail (FqAt.tail (FqAt.tail (FqAt.tail (FqAt.tail (FqAt.tail (FqAt.tail (FqAt.tail (FqAt.tail (by with_reducible assumption)))))))))))) | exact (FqAt.tail (FqAt.tail (FqAt.tail (FqAt.tail (FqAt.tail (FqAt.tail (FqAt.tail (FqAt.tail (FqAt.tail (FqAt.tail (FqAt.tail (FqAt.tail (by with_reducible assumption))))))))))))) | exact (FqAt.tail (FqAt.tail (FqAt.tail (FqAt.tail (FqAt.tail (FqAt.tail (FqAt.tail (FqAt.tail (FqAt.tail (FqAt.tail (FqAt.tail (FqAt.tail (FqAt.tail (by with_reducible assumption)))))))))))))) | exact (FqAt.tail (FqAt.tail (FqAt.tail (FqAt.tail (FqAt.tail (FqAt.tail (FqAt.tail (FqAt.tail (FqAt.tail (FqAt.tail (FqAt.tail (FqAt.tail (FqAt.tail (FqAt.tail (by with_reducible assumption))))))))))))))) | exact (FqAt.tail (FqAt.tail (FqAt.tail (FqAt.tail (FqAt.tail (FqAt.tail (FqAt.tail (FqAt.tail (FqAt.tail (FqAt.tail (FqAt.tail (FqAt.tail (FqAt.tail (FqAt.tail (FqAt.tail (by with_reducible assumption)))))))))))))))))
  k_with "call ref" => (k_here; (with_reducible show wpAny _ _ (call (Value.ref 83) _) _ _ _); k_dflt (refine' mul ?S_36 ?ha_36 ?hb_36 ?h2_36 ?h3_36 ?hx_36 ?hy_36 ?hx1_36 ?hy1_36 ?_); (case S_36 => walk_at "mine_sit"); (case ha_36 => walk_at "mine_fq"); (case hb_36 => walk_at "mine_fq"); (case h2_36 => assumption); (case h3_36 => assumption); (case hx_36 => first | assumption | exact em_rg (by assumption) | exact fm_rg (by assumption)); (case hy_36 => first | assumption | exact em_rg (by assumption) | exact fm_rg (by assumption)); (case hx1_36 => first | assumption | exact em_rg (by assumption) | exact fm_rg (by assumption)); (case hy1_36 => first | assumption | exact em_rg (by assumption) | exact fm_rg (by assumption)); walk_at "mine_ret"; (try dsimp only [PySem.W.CmpBack]); (try dsimp only))
  k_with "execs cons" => ((try dsimp only); first | (refine let_one ?_; intro s7 Qk) | (refine let_cons ?_; intro s7 Qk Qk))
  k_with "eval Constant int" => (refine wpAny_Constant_int ?_; (try dsimp only))
  k_with "newList" => (k_here; k_dflt (refine' newList_K ?k1 ?k2 ?_; (case k1 => k_asm); (case k2 => k_asm); k_whole); intro l9' h9' F9' N9' l19; (try k_lt l19); (try k_sweep); (try dsimp only))
  k_with "mine_ne" => k_dflt (refine neN ?_; (try dsimp only); first | (with_reducible assumption) | (refine' LoA.ne ?hZq ?mZq; (case hZq => with_reducible assumption); (case mZq => (k_dflt ((repeat (first | exact List.Mem.head _ | refine List.Mem.tail _ ?_)); done)))) | (refine' LoA.ne' ?hZq ?mZq; (case hZq => with_reducible assumption); (case mZq => (k_dflt ((repeat (first | exact List.Mem.head _ | refine List.Mem.tail _ ?_)); done)))) | (refine' OffA.ne ?hZq ?mZq; (case hZq => with_reducible assumption); (case mZq => (k_dflt ((repeat (first | exact List.Mem.head _ | refine List.Mem.tail _ ?_)); done)))) | (refine' OffA.ne' ?hZq ?mZq; (case hZq => with_reducible assumption); (case mZq => (k_dflt ((repeat (first | exact List.Mem.head _ | refine List.Mem.tail _ ?_)); done)))) | (refine' LoA.neS ?hZq ?mZq; (case hZq => with_reducible assumption); (case mZq => (k_dflt ((repeat (first | exact List.Mem.head _ | refine List.Mem.tail _ ?_)); done)))) | (refine' LoA.neS' ?hZq ?mZq; (case hZq => with_reducible assumption); (case mZq => (k_dflt ((repeat (first | exact List.Mem.head _ | refine List.Mem.tail _ ?_)); done)))) | (refine' LoA.neT ?hZq ?mZq; (case hZq => with_reducible assumption); (case mZq => (k_dflt ((repeat (first | exact List.Mem.head _ | refine List.Mem.tail _ ?_)); done)))) | (refine' LoA.neT' ?hZq ?mZq; (case hZq => with_reducible assumption); (case mZq => (k_dflt ((repeat (first | exact List.Mem.head _ | refine List.Mem.tail _ ?_)); done)))) | exact neS_self | exact neS_self' | ((refine Ne51.ne ?_); with_reducible assumption) | ((refine Ne51.ne' ?_); with_reducible assumption) | (refine' off1_ne ?o1 ?m1; (case o1 => with_reducible assumption); (case m1 => ((repeat (first | exact List.Mem.head _ | refine List.Mem.tail _ ?_)); done))) | (refine' Ne.symm (off1_ne ?o1 ?m1); (case o1 => with_reducible assumption); (case m1 => ((repeat (first | exact List.Mem.head _ | refine List.Mem.tail _ ?_)); done))) | k_extra "mine_om")
  k_with "mine_om" => ((try simp only [LoA.cons_iff, LoA.nil_iff, and_true] at *); omega)
  walk_at "mine_reg"
  (k_with "exec While Compare cons nil" => (
    (rename Fr _ _ _ _ => lF'); (rename News _ _ _ _ => lN');
    (with_unfolding_all refine' while_st (σ := PowSt) AllBare (fun c => (51, c.tb) :: c.rows) (fun c => [(Str.ofString "o", .ref c.o), (Str.ofString "t", .ref c.t), (Str.ofString "other", .int (c.e : Int) c.te)]) (PowInv w news amt n res) (fun c => c.e) ⟨_, _, _, _, _, _, _, _, _, ax, ad, aml, amp, acf, x, y, F0, k, te⟩ lF' lN' ?kG ?k2 ?k3 ?k4);
    (case k2 => kst_all);
    (case kG => assumption);
    (case k3 => (dsimp only [PowInv]; refine' ⟨?q1, ?q2, ?q3, ?q4, ?q5, fm_rg h2, fm_rg h2, hx, hy, hk2, ?q6⟩; (case q1 => assumption); (case q2 => k_all); (case q3 => (intro p hp; (repeat (first | exact hp | refine List.mem_cons_of_mem _ ?_)))); (case q4 => k_dflt (refine' FqAt.mk6 ?f1 ?f2 ?f3 ?f4 ?f5 ?f6; (case f1 => k_mem); (case f2 => k_mem); (case f3 => k_mem); (case f4 => k_mem); (case f5 => k_mem); (case f6 => k_mem))); (case q5 => walk_at "mine_fq"); (case q6 => (rw [fm1 h2, fm0]; exact hres))));
    clear lF' lN';
    intro c u' h' g' tk' hG' hI' F' N';
    obtain ⟨tb1, rows1, o1, od1, oml1, omp1, ocf1, ox1, oy1, t1, td1, tml1, tmp1, tcf1, tx1, ty1, f1, e1, te1⟩ := c;
    dsimp only [PowInv] at hI';
    obtain ⟨TB1, n511, sub1, fO1, fT1, rO1, rO2, rT1, rT2, lt1, pw1⟩ := hI';
    (have fO2 := fO1);
    (have fT2 := fT1);
    unfold FqAt at fO2 fT2;
    obtain ⟨hO1, ⟨oe1, oe2, oe3, oe4, oe5, oe6, oe7, hO2⟩, hO3, ⟨oq1, oq2, hO4⟩, ⟨or1, or2, hO5⟩, ot1, ot2, ok1, hO6⟩ := fO2;
    obtain ⟨hT1, ⟨ue1, ue2, ue3, ue4, ue5, ue6, ue7, hT2⟩, hT3, ⟨uq1, uq2, hT4⟩, ⟨ur1, ur2, hT5⟩, ut1, ut2, uk1, hT6⟩ := fT2;
    (try dsimp only); (try k_fold)))
  obtain ⟨B, F, X, N, T, hk, G, TB, n51, hdp, hun⟩ := S
  have haW := ha
  obtain ⟨ha1, ⟨ae1, ae2, ae3, ae4, ae5, ae6, ae7, ha2⟩, ha3, ⟨aq1, aq2, ha4⟩, ⟨ar1, ar2, ha5⟩, at1, at2, ak, ha6⟩ := ha
  refine wpAny_call ?_
  k_dflt (walk_at "mine_enter")
  clear N
  refine let_entry ?_
  intro M9 A9 e9 E9 Qk
  w_strict (repeat' (k_extra "mine_step"))
  · rename Fr _ _ _ _ => kF
    rename News _ _ _ _ => kN
    simp only [fdiv_two] at kF
    have hpos : 0 < (e1 : Int) := by assumption
    obtain ⟨f', lf, pf⟩ := pw_odd pw1 lt1 hpos (by assumption)
    exact powEnd kF kN (by assumption) (by with_unfolding_all rfl) (by with_unfolding_all rfl) (by with_unfolding_all rfl) (by show e1 / 2 < e1; (first | omega | k_extra "mine_om")) (by assumption) (by k_all) (by
      intro p hp
      have hp2 := sub1 p hp
      repeat (first | exact hp2 | refine List.mem_cons_of_mem _ ?_)) (FqAt.mk6 (by k_dflt k_mem) (by k_dflt k_mem) (by k_dflt k_mem) (by k_dflt k_mem) (by k_dflt k_mem) (by k_dflt k_mem)) (FqAt.mk6 (by k_dflt k_mem) (by k_dflt k_mem) (by k_dflt k_mem) (by k_dflt k_mem) (by k_dflt k_mem) (by k_dflt k_mem)) (em_rg h2) (em_rg h2) (em_rg h2) (em_rg h2) lf pf
  · rename Fr _ _ _ _ => kF
    rename News _ _ _ _ => kN
    simp only [fdiv_two] at kF
    have hpos : 0 < (e1 : Int) := by assumption
    obtain ⟨f', lf, pf⟩ := pw_even pw1 lt1 hpos (by assumption)
    exact powEnd kF kN (by assumption) (by with_unfolding_all rfl) (by with_unfolding_all rfl) (by with_unfolding_all rfl) (by show e1 / 2 < e1; (first | omega | k_extra "mine_om")) (by assumption) (by k_all) (by
      intro p hp
      have hp2 := sub1 p hp
      repeat (first | exact hp2 | refine List.mem_cons_of_mem _ ?_)) (by walk_at "mine_fq") (FqAt.mk6 (by k_dflt k_mem) (by k_dflt k_mem) (by k_dflt k_mem) (by k_dflt k_mem) (by k_dflt k_mem) (by k_dflt k_mem)) rO1 rO2 (em_rg h2) (em_rg h2) lf pf
  · rename Fr h₀ _ _ m => kF
    rename News h₀ L _ _ => kN
    have er := pw_none pw1 (by assumption)
    subst er
    exact hret _ _ _ _ _ _ _ _ _ _ (by assumption) TB1 kF kN sub1 n511 fO1
end
end C11_part
/-! C12 -/
section C12_part
open PySem PySem.W PyProof.Rows PySem.Calls
def InvR (u v x y n : Int) : Prop := (u * x - v * y) % n = 1 ∧ (u * y + v * x) % n = 0
theorem InvR.intro {u v x y n : Int} (h : (u * x - v * y) % n = 1 ∧ (u * y + v * x) % n = 0) : InvR u v x y n := h
section
variable {w : World} {p : Program} {loose : List Str} {mean : ExcName → Option Value} {mg mb : Str → Option Value} {dp un : Nat} {gd : Option (List Code)} {cn : Str} {cs : Scope} {a : Addr} {ccd : Value} {cl : List (Str × Addr)} {outer : List Env} {A₀ : Around} {base h₀ : Heap} {L : Addr} {m : Str → Option Value} {tb : Obj} {news : List (Addr × Obj)} {s : Shared} {Q E : Value → Shared → Prop}
set_option maxRecDepth 100000 in
set_option maxHeartbeats 4000000 in
theorem divF {ax ad aml amp acf amt : Addr} {bx bd bml bmp bcf bmt : Addr} {n x y x' y' : Int} (S : Sit w p loose mean mg mb 10 dp un cs outer A₀ base h₀ L m tb news s)
    (ha : FqAt w.params news ax ad aml amp acf amt n x y) (hb : FqAt w.params news bx bd bml bmp bcf bmt n x' y') (h2 : 1 < n) (h3 : n < 1000) (hP : ∀ a, 1 ≤ a → a < n → Int.gcd a n = 1) (hx : 0 ≤ x ∧ x < n) (hy : 0 ≤ y ∧ y < n) (hx' : 0 ≤ x' ∧ x' < n) (hy' : 0 ≤ y' ∧ y' < n) (hn : (x' * x' + y' * y') % n ≠ 0)
    (hret : ∀ u v, InvR u v x' y' n → RetO w h₀ L m news s Q amt n ((x * u - y * v) % n) ((x * v + y * u) % n)) :
    wpAny (model PySem.Challenge.rw_kh0013_01.row.prog w) (ktrTop dp un gd cn cs L a ccd cl outer) (call (.ref 95) [.ref ax, .ref bx]) Q E s := by
  k_with_none
  k_with "mine_fold" => first | (have F8 := F7; have N8 := N7; clear F8 N8) | (rename Fr _ _ _ _ => F7; rename News _ _ _ _ => N7; revert F7 N7; refine let_FN ?_; intro m7 n7 F7 N7)
  k_with "mine_step" => (first | (with_reducible show Qk _ _; dsimp only [Qk]; clear Qk) | (k_unfold; (try dsimp only)) | (k_end; kc_close) | walk1 | (dsimp only; walk1) | (leave1; walk_say "STEP leave1"; (try dsimp only)))
  k_with "mine_lo" => skip
  k_with "CompRest" => (with_unfolding_all first | (refine LCg.CompRest.succ ?_; intro v9' I9' oI9' C9' oC9' D9' m9' h9' tk9' E9' hv9' hC9' hx9' F9' N9' off9' ne9'; clear ne9'; (first | lcg_open hv9' | (obtain ⟨t99', hv99'⟩ := hv9'; subst hv99'))) | refine LCg.CompRest.zero ?_)
  k_with "CompEnd" => (k_here; (refine' LCg.CompEnd.intro ?F_1 ?N_1 _ (fun p hp => hp) ?off_1 ?S_1 ?_); (case F_1 => k_asm); (case N_1 => k_asm); (case off_1 => assumption); (case S_1 => (refine' srcAt_led ?m9_1; (case m9_1 => k_mem))))
  k_with "FinE" => ((unfold LCg.FinE); intro D9' h9' tk9' F9' N9' o19'; k_dflt (replace o19' := OffA.of o19'; (try dsimp only [adr_cons, adr_nil, adr_consA, adr_nilA] at o19')); (try simp only [List.nil_append, List.cons_append] at N9'); (try dsimp only))
  k_with "eval ListComp" => (k_here; k_dflt (refine LCg.ListComp_U (F₀ := by k_asm) (by with_unfolding_all rfl) (by decide) (by rfl) (by decide) (by rfl) ?_); k_dflt lcg_toSrc)
  k_with "CompSrc" => (k_here; k_dflt (refine LCg.CompSrc.ledger (by rfl) (by k_asm) (by k_asm) (by k_mem) (by first | size_fits | exact Nat.le_of_ble_eq_true rfl) ?_; intro g9'; lcg_lit))
  k_with "exec For Name Call cons nil" => (k_here; (rename Fr _ _ _ _ => lF9'); (with_unfolding_all refine' For_turns lF9' ?_; k_whole))
  k_with "pyIter ref" => (k_here; (with_reducible show wpAny _ _ (pyIter (Value.ref _)) (fun it s₂ => TurnsAt _ _ _ _ _ _ _ _ _ it s₂) _ _); (with_reducible rename IsRange _ _ _ _ _ _ _ _ => rX9'); with_unfolding_all (first | (refine' range_turns (xs := [Itm.tok (fun t => Value.int (0 : Int) t)]) ?hh_6 ?F_6 ?N_6 rX9' ?sm_6 ?hn_6 ?hx_6 ?_; (case hn_6 => decide +kernel); (case sm_6 => decide +kernel); (case hx_6 => rfl)) | (refine' range_turns (xs := [Itm.tok (fun t => Value.int (1 : Int) t), Itm.tok (fun t => Value.int (0 : Int) t)]) ?hh_6 ?F_6 ?N_6 rX9' ?sm_6 ?hn_6 ?hx_6 ?_; (case hn_6 => decide +kernel); (case sm_6 => decide +kernel); (case hx_6 => rfl)) | (refine' range_turns (xs := [Itm.tok (fun t => Value.int (0 : Int) t), Itm.tok (fun t => Value.int (1 : Int) t)]) ?hh_6 ?F_6 ?N_6 rX9' ?sm_6 ?hn_6 ?hx_6 ?_; (case hn_6 => decide +kernel); (case sm_6 => decide +kernel); (case hx_6 => rfl)) | (refine' range_turns (xs := [Itm.tok (fun t => Value.int (0 : Int) t), Itm.tok (fun t => Value.int (1 : Int) t), Itm.tok (fun t => Value.int (2 : Int) t)]) ?hh_6 ?F_6 ?N_6 rX9' ?sm_6 ?hn_6 ?hx_6 ?_; (case hn_6 => decide +kernel); (case sm_6 => decide +kernel); (case hx_6 => rfl)) | (refine' range_turns (xs := [Itm.tok (fun t => Value.int (2 : Int) t), Itm.tok (fun t => Value.int (1 : Int) t), Itm.tok (fun t => Value.int (0 : Int) t)]) ?hh_6 ?F_6 ?N_6 rX9' ?sm_6 ?hn_6 ?hx_6 ?_; (case hn_6 => decide +kernel); (case sm_6 => decide +kernel); (case hx_6 => rfl)) | (refine' range_turns (xs := []) ?hh_6 ?F_6 ?N_6 rX9' ?sm_6 ?hn_6 ?hx_6 ?_; (case hn_6 => decide +kernel); (case sm_6 => decide +kernel); (case hx_6 => rfl))); (case hh_6 => rfl); (case F_6 => k_asm); (case N_6 => k_asm); clear rX9'; intro i9' l19; (try k_lt l19))
  k_with "call type:enumerate" => (k_here; k_dflt (refine' enum_make ?F_7 ?N_7 ?m_7 ?_); (case F_7 => k_asm); (case N_7 => k_asm); (case m_7 => k_mem); intro e9' h9' F9' N9' eX9'; (try k_sweep); (try dsimp only))
  k_with "call type:enumerate" => (k_here; (with_reducible show wpAny _ _ (call (Value.type _) [Value.ref _]) (fun xv s₁ => wpAny _ _ (pyIter xv) (fun it s₂ => TurnsAt _ _ _ _ _ _ _ _ _ it s₂) _ s₁) _ _); with_unfolding_all (refine' enum_turns (vs := [_, _]) (xs := [Itm.pair (fun t => Value.int (0 : Int) t) _, Itm.pair (fun t => Value.int (1 : Int) t) _]) ?hh_8 ?F_8 ?N_8 ?hm_8 ?hc_8 ?hd_8 ?hx_8 ?_; (case hh_8 => rfl); (case F_8 => k_asm); (case N_8 => k_asm); (case hm_8 => k_mem); (case hc_8 => rfl); (case hd_8 => rfl); (case hx_8 => rfl)); intro i9' l19; (try k_lt l19); (try dsimp only))
  k_with "call type:list" => (k_here; (rename EnumF _ _ _ _ _ _ _ => eX9'); k_dflt (refine' enum_list ?hh_9 ?F_9 ?N_9 eX9' ?_); (case hh_9 => rfl); (case F_9 => k_asm); (case N_9 => k_asm); intro S9' T19' T29' k19' k29' c9' h9' tk9' F9' N9' l19 l29 l39; clear eX9'; (try k_lt l19); (k_lt2 l29); (have l29 := LoA.tr l19 l29); (k_lt2 l39); (have l39 := LoA.tr l29 l39); (try k_sweep); (try dsimp only))
  k_with "exec For Tuple Call cons nil" => (k_here; (rename Fr _ _ _ _ => lF9'); (with_unfolding_all refine' For_turns lF9' ?_; k_whole))
  k_with "exec For Tuple Attribute cons nil" => (k_here; (rename Fr _ _ _ _ => lF9'); (with_unfolding_all refine' For_turns lF9' ?_; k_whole))
  k_with "mine_enterC" => (refine' enter_defC ?k1_12 ?k2_12 ?k3_12 ?k4_12 ?k5_12 ?kA_12 ?kF_12 ?kK_12 ?k6_12 ?k7_12 ?k8_12 ?k9_12 ?kB_12 ?kD_12 ?_ ?c2_12 ?c3_12 ?c4_12; (case kA_12 => exact rfl); (case kF_12 => exact rfl); (case kK_12 => first | exact rfl | assumption); (case k1_12 => k_asm); (case k2_12 => k_asm); (case k3_12 => k_asm); (case k4_12 => k_asm); (case k5_12 => k_asm); (case k6_12 => k_is); (case k7_12 => k_is); (case k8_12 => ktr_room); (case k9_12 => exact BindsTo.of_eq rfl); (case kB_12 => exact rfl); (case kD_12 => decide +kernel); (case c2_12 => exact rfl); (case c3_12 => exact rfl); (case c4_12 => exact rfl); k_whole; intro g9' L9' h9' tk9' cells9' FG9' F9' N9' Y9' B9' X9' T9' l19 hBs; (try k_lt l19); k_cells Y9'; (try simp only [List.cons_append, List.nil_append] at N9'); (try dsimp only); (try k_lift B9'); (try k_fold))
  k_with "eval ListComp" => (k_here; (with_reducible show wpAny _ _ (eval (PySem.Expr.ListComp (PySem.Expr.Tuple _ _ _) _ _ _) _) _ _ _); k_dflt (refine mc_comp (by with_unfolding_all rfl) (by with_unfolding_all rfl) (by decide) (by rfl) (by decide) (by rfl) (by rfl) (by decide) (by decide) (by decide) ?_))
  k_with "call type:enumerate" => (k_here; (with_reducible show wpAny _ _ (call (Value.type _) [Value.ref _]) (McSrc _) _ _); k_dflt (refine' mc_call ?F_14 ?N_14 ?m_14 ?_; (case F_14 => k_asm); (case N_14 => k_asm); (case m_14 => k_mem)); intro D9' T9' ti9' h9' tk9' F9' N9' l19 l29; (try k_lt l19); (k_lt2 l29); (have l29 := LoA.tr l19 l29); (try k_sweep); (try dsimp only))
  k_with "mine_split" => (repeat' (first | exact Split.here | apply Split.skip))
  k_with "eval GeneratorExp" => (k_here; k_dflt (refine' gen_make ?F_16 (Split.toNews ?N_16 ?sp_16) ?h51_16 ?tb_16 ?G_16 ?X_16 ?T_16 ?hh_16 ?hcode_16 ?hgl_16 ?room_16 ?hek_16 ?hey_16 ?hdy_16 ?hvy_16 ?hml_16 ?hmc_16 ?hoc_16 ?hms_16 ?hmd_16 ?hfm_16 ?hq_16 ?hco_16 ?hclos_16 ?hcell_16 ?h0_16 ?hx_16 ?hsn_16 ?hkind_16 ?hdx_16 ?hds_16 ?hdc_16 ?_); (case F_16 => k_asm); (case N_16 => k_asm); (case sp_16 => walk_at "mine_split"); (case h51_16 => k_all); (case tb_16 => assumption); (case G_16 => assumption); (case X_16 => k_asm); (case T_16 => k_asm); (case hh_16 => rfl); (case hcode_16 => rfl); (case hgl_16 => rfl); (case room_16 => ktr_room); (case hek_16 => rfl); (case hey_16 => with_unfolding_all rfl); (case hdy_16 => decide); (case hvy_16 => with_unfolding_all rfl); (case hml_16 => k_mem); (case hclos_16 => with_unfolding_all rfl); (case hmc_16 => k_mem); (case hoc_16 => assumption); (case hms_16 => k_mem); (case hmd_16 => k_mem); (case hfm_16 => k_get); (case hq_16 => omega); (case hco_16 => rfl); (case hcell_16 => decide); (case h0_16 => rfl); (case hx_16 => rfl); (case hsn_16 => rfl); (case hkind_16 => rfl); (case hdx_16 => decide); (case hds_16 => decide); (case hdc_16 => decide); intro a9' tb9' h9' g9' tk9' G9' TB9' F9' N9' X9'; (try k_sweep))
  k_with "call type:tuple" => (k_here; k_dflt (refine' call_tuple_tup ?T_17 ?_); (case T_17 => exact News.isTup (by k_asm) (by k_mem)); (try dsimp only))
  k_with "call type:tuple" => (k_here; (rename GenR _ _ _ _ _ _ _ _ _ _ => gX9'); k_dflt (refine' gen_tuple ?F_18 ?N_18 ?G_18 gX9' ?_); (case F_18 => k_asm); (case N_18 => k_asm); (case G_18 => assumption); intro D9' t19' t29' h9' g9' tk9' G9' F9' N9' l19; clear gX9'; (try k_lt l19); (try k_sweep))
  k_with "mine_reg" => (w_on; (have _h : (PySem.Challenge.rw_kh0013_01 = PySem.Challenge.rw_kh0013_01) ∧ (Mine.hd.heap_1 = Mine.hd.heap_1) := by (k_fill; exact ⟨rfl, rfl⟩)); clear _h)
  k_with "mine_enter" => (refine' enter_def ?k1_20 ?k2_20 ?k3_20 ?k4_20 ?k5_20 ?kA_20 ?kF_20 ?kK_20 ?k6_20 ?k7_20 ?k8_20 ?k9_20 ?kB_20 ?_ ?c2_20 ?c3_20 ?c4_20 ?c5_20; (case kA_20 => exact rfl); (case kF_20 => exact rfl); (case kK_20 => first | exact rfl | assumption); (case k1_20 => k_asm); (case k2_20 => k_asm); (case k3_20 => k_asm); (case k4_20 => k_asm); (case k5_20 => k_asm); (case k6_20 => k_is); (case k7_20 => k_is); (case k8_20 => ktr_room); (case k9_20 => exact BindsTo.of_eq rfl); (case c5_20 => decide); (case kB_20 => exact locs rfl); (case c2_20 => exact rfl); (case c3_20 => exact rfl); (case c4_20 => exact rfl); k_whole; intro g9' L9' h9' FG9' F9' N9' B9' X9' T9' hBs; (try dsimp only); (try k_lift B9'); (try k_fold))
  k_with "mine_sit" => (refine' Sit.mk ?B_21 ?F_21 ?X_21 (Split.toNews ?N_21 ?sp_21) ?T_21 ?hk_21 ?G_21 ?TB_21 ?n51_21 ?hdp_21 ?hun_21; (case B_21 => k_asm); (case F_21 => k_asm); (case X_21 => k_asm); (case N_21 => k_asm); (case sp_21 => walk_at "mine_split"); (case T_21 => k_asm); (case hk_21 => first | exact rfl | assumption); (case G_21 => assumption); (case TB_21 => assumption); (case n51_21 => first | assumption | k_all); (case hdp_21 => ktr_room); (case hun_21 => ktr_units))
  k_with "mine_ret" => (intro x9' d9' ml9' mp9' cf9' tb9' h9' g9' tk9' e19' e29' e39' e49' e59' e69' e79' q19' q29' r19' r29' G9' TB9' F9' N9' l19 l29 l39 l49 l59; (try k_lt l19); (k_lt2 l29); (have l29 := LoA.tr l19 l29); (k_lt2 l39); (have l39 := LoA.tr l29 l39); (k_lt2 l49); (have l49 := LoA.tr l39 l49); (k_lt2 l59); (have l59 := LoA.tr l49 l59); (try k_sweep); (try dsimp only))
  k_with "call ref" => (k_here; (with_reducible show wpAny _ _ (call (Value.ref 192) _) _ _ _); k_dflt (refine' mkS ?S_23 ?hlc_23 ?hmt_23 ?h2_23 ?h3_23 ?_); (case S_23 => walk_at "mine_sit"); (case hlc_23 => k_mem); (case hmt_23 => k_mem); (case h2_23 => first | assumption | omega); (case h3_23 => first | assumption | omega); walk_at "mine_ret"; (try dsimp only))
  k_with "mine_fq" => (refine' And.intro ?f1_24 (And.intro (Exists.intro _ (Exists.intro _ (Exists.intro _ (Exists.intro _ (Exists.intro _ (Exists.intro _ (Exists.intro _ ?f2_24))))))) (And.intro ?f3_24 (And.intro (Exists.intro _ (Exists.intro _ ?f4_24)) (And.intro (Exists.intro _ (Exists.intro _ ?f5_24)) (Exists.intro _ (Exists.intro _ (Exists.intro _ ?f6_24))))))); (case f1_24 => k_mem); (case f2_24 => k_mem); (case f3_24 => k_mem); (case f4_24 => k_mem); (case f5_24 => k_mem); (case f6_24 => k_mem))
  k_with "call ref" => (k_here; (with_reducible show wpAny _ _ (call (Value.ref 181) _) _ _ _); k_dflt (refine' made ?S_25 ?hS_25 ?hlc_25 ?h2_25 ?h3_25 ?_); (case S_25 => walk_at "mine_sit"); (case hS_25 => walk_at "mine_fq"); (case hlc_25 => k_mem); (case h2_25 => first | assumption | omega); (case h3_25 => first | assumption | omega); walk_at "mine_ret"; (try dsimp only))
  k_with "mine_lt" => first | (refine LoA.allLt ?_; (try dsimp only [adr_cons, adr_nil, adr_consA, adr_nilA]); with_reducible assumption) | exact allLt_nil | (refine allLt_cons ?mltZ ?_; (case mltZ => first | with_reducible assumption | (refine' LoA.lt ?hZq ?mZq; (case hZq => with_reducible assumption); (case mZq => (k_dflt ((repeat (first | exact List.Mem.head _ | refine List.Mem.tail _ ?_)); done)))) | (refine' LoA.ltS ?hZq ?mZq; (case hZq => with_reducible assumption); (case mZq => (k_dflt ((repeat (first | exact List.Mem.head _ | refine List.Mem.tail _ ?_)); done))))); walk_at "mine_lt")
  k_with "UnrEndW" => k_dflt (first | (refine' unr_end2 ?F_27 ?N_27 ?l_27 ?k_27 ?_; (case F_27 => k_asm); (case N_27 => k_asm); (case l_27 => walk_at "mine_lt"); (case k_27 => k_subL)) | (refine' unr_end1 ?F_27 ?N_27 ?l_27 ?k_27 ?_; (case F_27 => k_asm); (case N_27 => k_asm); (case l_27 => walk_at "mine_lt"); (case k_27 => k_subL)))
  k_with "getItem ref int" => (k_here; (with_reducible show wpAny _ _ (getItem (Value.ref _) (Value.int _ _)) _ _ _); k_dflt (refine' get_here ?N_28 ?m_28 ?a_28 ?b_28 ?x_28 ?_; (case N_28 => k_asm); (case m_28 => k_mem); (case a_28 => decide); (case b_28 => decide); (case x_28 => rfl); k_whole))
  k_with "subscriptTail" => (k_here; (with_reducible show wpAny _ _ (subscriptTail _ _ (Value.ref _) (Value.int _ _)) _ _ _); with_unfolding_all (first | (refine' item_tupleT ?t_29 ?a_29 ?b_29 ?c_29 ?d_29 ?_ ?e_29; (case t_29 => exact News.isTup (by k_asm) (by k_mem)); (case a_29 => decide); (case b_29 => decide); (case c_29 => rfl); (case d_29 => rfl); (case e_29 => with_unfolding_all rfl); k_whole) | (refine' sub_here ?N_29 ?m_29 ?k2_29 ?k3_29 ?k4_29 ?_ ?k6_29; (case N_29 => k_asm); (case m_29 => k_mem); (case k2_29 => decide); (case k3_29 => decide); (case k4_29 => rfl); (case k6_29 => with_unfolding_all rfl); k_whole)))
  k_with "setItem ref int" => (k_here; k_dflt (refine' ki_set ?F_30 ?N_30 ?a_30 ?b_30 ?e_30 ?U_30 ?_; (case F_30 => k_asm); (case N_30 => k_asm); (case U_30 => k_upd); (case a_30 => decide); (case b_30 => decide); (case e_30 => rfl)); ki_rest; (try dsimp only))
  k_with "binaryOp Mult ref int" => (k_here; (with_reducible show wpAny _ _ (binaryOp Operator.Mult (Value.ref _) (Value.int _ _)) _ _ _); k_dflt (refine' KMa.mul ?F_31 ?N_31 ?l_31 ?lo_31 ?hi_31 ?z_31 ?e_31 ?_; (case F_31 => k_asm); (case N_31 => k_asm); (case l_31 => is_list); (case lo_31 => first | omega | decide); (case hi_31 => first | omega | decide); (case z_31 => (simp only [List.length_cons, List.length_nil]; decide)); (case e_31 => (simp only [Int.reduceMul, Int.reduceSub, Int.reduceAdd, Int.reduceToNat, List.replicate_succ, List.replicate_zero, List.flatten_cons, List.flatten_nil, List.cons_append, List.nil_append, List.append_nil]; first | done | exact rfl)); k_whole); intro D9' h9' F9' N9' l19; (try k_lt l19); (try k_sweep); (try dsimp only))
  k_with "subscriptTail Name Name ref int" => (k_here; k_dflt (refine' sub_here ?N_32 ?m_32 ?k2_32 ?k3_32 ?k4_32 ?_ ?k6_32; (case N_32 => k_asm); (case m_32 => k_mem); (case k2_32 => decide); (case k3_32 => decide); (case k4_32 => rfl); (case k6_32 => with_unfolding_all rfl); k_whole); (try dsimp only))
  k_with "subscriptTail Name BinOp ref int" => (k_here; k_dflt (refine' sub_here ?N_33 ?m_33 ?k2_33 ?k3_33 ?k4_33 ?_ ?k6_33; (case N_33 => k_asm); (case m_33 => k_mem); (case k2_33 => decide); (case k3_33 => decide); (case k4_33 => rfl); (case k6_33 => with_unfolding_all rfl); k_whole); (try dsimp only))
  k_with "subscriptTail Name Constant ref int" => (k_here; k_dflt (refine' sub_here ?N_34 ?m_34 ?k2_34 ?k3_34 ?k4_34 ?_ ?k6_34; (case N_34 => k_asm); (case m_34 => k_mem); (case k2_34 => decide); (case k3_34 => decide); (case k4_34 => rfl); (case k6_34 => with_unfolding_all rfl); k_whole); (try dsimp only))
  k_with "mine_fq" => (first | exact (by with_reducible assumption) | exact (FqAt.tail (by with_reducible assumption)) | exact (FqAt.tail (FqAt.tail (by with_reducible assumption))) | exact (FqAt.tail (FqAt.tail (FqAt.tail (by with_reducible assumption)))) | exact (FqAt.tail (FqAt.tail (FqAt.tail (FqAt.tail (by with_reducible assumption))))) | exact (FqAt.tail (FqAt.tail (FqAt.tail (FqAt.tail (FqAt.tail (by with_reducible assumption)))))) | exact (FqAt.tail (FqAt.tail (FqAt.tail (FqAt.tail (FqAt.tail (FqAt.tail (by with_reducible assumption))))))) | exact (FqAt.tail (FqAt.tail (FqAt.tail (FqAt.tail (FqAt.tail (FqAt.tail (FqAt.tail (by with_reducible assumption)))))))) | exact (FqAt.tail (FqAt.tail (FqAt.tail (FqAt.tail (FqAt.tail (FqAt.tail (FqAt.tail (FqAt.tail (by with_reducible assumption))))))))) | exact (FqAt.tail (FqAt.tail (FqAt.tail (FqAt.tail (FqAt.tail (FqAt.tail (FqAt.tail (FqAt.tail (FqAt.tail (by with_reducible assumption)))))))))) | exact (FqAt.tail (FqAt.tail (FqAt.tail (FqAt.tail (FqAt.tail (FqAt.tail (FqAt.tail (FqAt.tail (FqAt.tail (FqAt.tail (by with_reducible assumption))))))))))) | exact (FqAt.tail (FqAt.tail (FqAt.tail (FqAt.tail (FqAt.tail (FqAt.tail (FqAt.tail (FqAt.tail (FqAt.tail (FqAt.tail (FqAt.tail (by with_reducible assumption)))))))))))) | exact (FqAt.tail (FqAt.tail (FqAt.tail (FqAt.tail (FqAt.tail (FqAt.tail (FqAt.tail (FqAt.tail (FqAt.tail (FqAt.tail (FqAt.tail (FqAt.tail (by with_reducible assumption))))))))))))) | exact (FqAt.tail (FqAt.tail (FqAt.tail (FqAt.tail (FqAt.tail (FqAt.tail (FqAt.tail (FqAt.tail (FqAt.tail (FqAt.tail (FqAt.tail (FqAt.tail (FqAt.tail (by with_reducible assumption)))))))))))))) | exact (FqAt.tail (FqAt.tail (FqAt.tail (FqAt.tail (FqAt.tail (FqAt.tail (FqAt.tail (FqAt.tail (FqAt.tail (FqAt.tail (FqAt.tail (FqAt.tail (FqAt.tail (FqAt.tail (by with_reducible assumption))))))))))))))) | exact (FqAt.tail (FqAt.tail (FqAt.tail (FqAt.tail (FqAt.tail (FqAt.tail (FqAt.tail (FqAt.tail (FqAt.tail (FqAt.tail (FqAt.tail (FqAt.tail (FqAt.tail (FqAt.tail (FqAt.tail (by with_reducible assumption)))))))))))))))) | exact FqAt.mk6 (by k_dflt k_mem) (by k_dflt k_mem) (by k_dflt k_mem) (by k_dflt k_mem) (by k_dflt k_mem) (by k_dflt k_mem))
  k_with "call ref" => (k_here; (with_reducible show wpAny _ _ (call (Value.ref 83) _) _ _ _); k_dflt (refine' mul ?S_36 ?ha_36 ?hb_36 ?h2_36 ?h3_36 ?hx_36 ?hy_36 ?hx1_36 ?hy1_36 ?_); (case S_36 => walk_at "mine_sit"); (case ha_36 => walk_at "mine_fq"); (case hb_36 => walk_at "mine_fq"); (case h2_36 => assumption); (case h3_36 => assumption); (case hx_36 => first | assumption | exact em_rg (by assumption) | exact fm_rg (by assumption)); (case hy_36 => first | assumption | exact em_rg (by assumption) | exact fm_rg (by assumption)); (case hx1_36 => first | assumption | exact em_rg (by assumption) | exact fm_rg (by assumption)); (case hy1_36 => first | assumption | exact em_rg (by assumption) | exact fm_rg (by assumption)); walk_at "mine_ret"; (try dsimp only [PySem.W.CmpBack]); (try dsimp only))
  k_with "call ref" => (k_here; (with_reducible show wpAny _ _ (call (Value.ref 112) _) _ _ _); k_dflt (refine' invAll ?S_37 ?ha_37 ?h2_37 ?h3_37 ?hP_37 ?hx_37 ?hy_37 ?hn_37 ?_); (case S_37 => walk_at "mine_sit"); (case ha_37 => walk_at "mine_fq"); (case h2_37 => assumption); (case h3_37 => assumption); (case hP_37 => assumption); (case hx_37 => assumption); (case hy_37 => assumption); (case hn_37 => assumption); intro u9' v9' ru9' rv9' eu9' ev9'; (have eW9' := InvR.intro (And.intro eu9' ev9')); clear eu9' ev9'; walk_at "mine_ret"; (try dsimp only [PySem.W.CmpBack]); (try dsimp only))
  k_with "execs cons" => ((try dsimp only); first | (refine let_one ?_; intro s7 Qk) | (refine let_cons ?_; intro s7 Qk Qk))
  k_with "eval Constant int" => (refine wpAny_Constant_int ?_; (try dsimp only))
  k_with "newList" => (k_here; k_dflt (refine' newList_K ?k1 ?k2 ?_; (case k1 => k_asm); (case k2 => k_asm); k_whole); intro l9' h9' F9' N9' l19; (try k_lt l19); (try k_sweep); (try dsimp only))
  k_with "mine_ne" => k_dflt (refine neN ?_; (try dsimp only); first | (with_reducible assumption) | (refine' LoA.ne ?hZq ?mZq; (case hZq => with_reducible assumption); (case mZq => (k_dflt ((repeat (first | exact List.Mem.head _ | refine List.Mem.tail _ ?_)); done)))) | (refine' LoA.ne' ?hZq ?mZq; (case hZq => with_reducible assumption); (case mZq => (k_dflt ((repeat (first | exact List.Mem.head _ | refine List.Mem.tail _ ?_)); done)))) | (refine' OffA.ne ?hZq ?mZq; (case hZq => with_reducible assumption); (case mZq => (k_dflt ((repeat (first | exact List.Mem.head _ | refine List.Mem.tail _ ?_)); done)))) | (refine' OffA.ne' ?hZq ?mZq; (case hZq => with_reducible assumption); (case mZq => (k_dflt ((repeat (first | exact List.Mem.head _ | refine List.Mem.tail _ ?_)); done)))) | (refine' LoA.neS ?hZq ?mZq; (case hZq => with_reducible assumption); (case mZq => (k_dflt ((repeat (first | exact List.Mem.head _ | refine List.Mem.tail _ ?_)); done)))) | (refine' LoA.neS' ?hZq ?mZq; (case hZq => with_reducible assumption); (case mZq => (k_dflt ((repeat (first | exact List.Mem.head _ | refine List.Mem.tail _ ?_)); done)))) | (refine' LoA.neT ?hZq ?mZq; (case hZq => with_reducible assumption); (case mZq => (k_dflt ((repeat (first | exact List.Mem.head _ | refine List.Mem.tail _ ?_)); done)))) | (refine' LoA.neT' ?hZq ?mZq; (case hZq => with_reducible assumption); (case mZq => (k_dflt ((repeat (first | exact List.Mem.head _ | refine List.Mem.tail _ ?_)); done)))) | exact neS_self | exact neS_self' | ((refine Ne51.ne ?_); with_reducible assumption) | ((refine Ne51.ne' ?_); with_reducible assumption) | (refine' off1_ne ?o1 ?m1; (case o1 => with_reducible assumption); (case m1 => ((repeat (first | exact List.Mem.head _ | refine List.Mem.tail _ ?_)); done))) | (refine' Ne.symm (off1_ne ?o1 ?m1); (case o1 => with_reducible assumption); (case m1 => ((repeat (first | exact List.Mem.head _ | refine List.Mem.tail _ ?_)); done))) | k_extra "mine_om")
  k_with "mine_om" => ((try simp only [LoA.cons_iff, LoA.nil_iff, and_true] at *); omega)
  walk_at "mine_reg"
  obtain ⟨B, F, X, N, T, hk, G, TB, n51, hdp, hun⟩ := S
  have haW := ha
  have hbW := hb
  obtain ⟨ha1, ⟨ae1, ae2, ae3, ae4, ae5, ae6, ae7, ha2⟩, ha3, ⟨aq1, aq2, ha4⟩, ⟨ar1, ar2, ha5⟩, at1, at2, ak, ha6⟩ := ha
  obtain ⟨hb1, ⟨be1, be2, be3, be4, be5, be6, be7, hb2⟩, hb3, ⟨bq1, bq2, hb4⟩, ⟨br1, br2, hb5⟩, bt1, bt2, bk, hb6⟩ := hb
  refine wpAny_call ?_
  k_dflt (walk_at "mine_enterC")
  clear N
  refine let_entry ?_
  intro M9 A9 e9 E9 Qk
  w_strict (repeat' (k_extra "mine_step"))
  rename InvR _ _ _ _ _ => eW
  rename Fr h₀ _ _ m => kF
  rename News h₀ L _ _ => kN
  exact hret _ _ eW _ _ _ _ _ _ _ _ _ _ (by assumption) (by assumption) kF kN (by
    intro p hp
    repeat (first | exact hp | refine List.mem_cons_of_mem _ ?_)) (by k_all) (FqAt.mk6 (by k_dflt k_mem) (by k_dflt k_mem) (by k_dflt k_mem) (by k_dflt k_mem) (by k_dflt k_mem) (by k_dflt k_mem))
end
end C12_part
/-! C13 -/
section C13_part
open PySem PySem.W PyProof.Rows PySem.Calls
section
variable {w : World} {p : Program} {loose : List Str} {mean : ExcName → Option Value} {mg mb : Str → Option Value} {dp un : Nat} {gd : Option (List Code)} {cn : Str} {cs : Scope} {a : Addr} {ccd : Value} {cl : List (Str × Addr)} {outer : List Env} {A₀ : Around} {base h₀ : Heap} {L : Addr} {m : Str → Option Value} {tb : Obj} {news : List (Addr × Obj)} {s : Shared} {Q E : Value → Shared → Prop}
set_option maxRecDepth 100000 in
set_option maxHeartbeats 4000000 in
theorem neg {ax ad aml amp acf amt : Addr} {n x y : Int} (S : Sit w p loose mean mg mb 6 dp un cs outer A₀ base h₀ L m tb news s)
    (ha : FqAt w.params news ax ad aml amp acf amt n x y) (h2 : 1 < n) (h3 : n < 1000) (hx : 0 ≤ x ∧ x < n) (hy : 0 ≤ y ∧ y < n)
    (hret : RetO w h₀ L m news s Q amt n ((-x).fmod n) ((-y).fmod n)) :
    wpAny (model PySem.Challenge.rw_kh0013_01.row.prog w) (ktrTop dp un gd cn cs L a ccd cl outer) (call (.ref 138) [.ref ax]) Q E s := by
  k_with_none
  k_with "mine_fold" => first | (have F8 := F7; have N8 := N7; clear F8 N8) | (rename Fr _ _ _ _ => F7; rename News _ _ _ _ => N7; revert F7 N7; refine let_FN ?_; intro m7 n7 F7 N7)
  k_with "execs cons" => ((try dsimp only); first | (refine let_one ?_; intro s7 Qk) | (refine let_cons ?_; intro s7 Qk Qk))
  k_with "mine_step" => (first | (with_reducible show Qk _ _; dsimp only [Qk]; clear Qk) | (k_unfold; (try dsimp only)) | (k_end; kc_close) | walk1 | (dsimp only; walk1) | (leave1; walk_say "STEP leave1"; (try dsimp only)))
  k_with "CompRest" => (with_unfolding_all first | (refine LCg.CompRest.succ ?_; intro v9' I9' oI9' C9' oC9' D9' m9' h9' tk9' E9' hv9' hC9' hx9' F9' N9' off9' ne9'; clear ne9'; (first | lcg_open hv9' | (obtain ⟨t99', hv99'⟩ := hv9'; subst hv99'))) | refine LCg.CompRest.zero ?_)
  k_with "CompEnd" => (k_here; (refine' LCg.CompEnd.intro ?F_1 ?N_1 _ (fun p hp => hp) ?off_1 ?S_1 ?_); (case F_1 => k_asm); (case N_1 => k_asm); (case off_1 => assumption); (case S_1 => (refine' srcAt_led ?m9_1; (case m9_1 => k_mem))))
  k_with "FinE" => ((unfold LCg.FinE); intro D9' h9' tk9' F9' N9' o19'; (have o519' := Ne51.intro (off1_ne (a := 51) o19' (by k_dflt k_mem))); (try simp only [List.nil_append, List.cons_append] at N9'); (try dsimp only))
  k_with "eval ListComp" => (k_here; k_dflt (refine LCg.ListComp_U (F₀ := by k_asm) (by with_unfolding_all rfl) (by decide) (by rfl) (by decide) (by rfl) ?_); k_dflt lcg_toSrc)
  k_with "CompSrc" => (k_here; k_dflt (refine LCg.CompSrc.ledger (by rfl) (by k_asm) (by k_asm) (by k_mem) (by first | size_fits | exact Nat.le_of_ble_eq_true rfl) ?_; intro g9'; lcg_lit))
  k_with "exec For Name Call cons nil" => (k_here; (rename Fr _ _ _ _ => lF9'); (with_unfolding_all refine' For_turns lF9' ?_; k_whole))
  k_with "pyIter ref" => (k_here; (with_reducible show wpAny _ _ (pyIter (Value.ref _)) (fun it s₂ => TurnsAt _ _ _ _ _ _ _ _ _ it s₂) _ _); (with_reducible rename IsRange _ _ _ _ _ _ _ _ => rX9'); with_unfolding_all (first | (refine' range_turns (xs := [Itm.tok (fun t => Value.int (0 : Int) t)]) ?hh_6 ?F_6 ?N_6 rX9' ?sm_6 ?hn_6 ?hx_6 ?_; (case hn_6 => decide +kernel); (case sm_6 => decide +kernel); (case hx_6 => rfl)) | (refine' range_turns (xs := [Itm.tok (fun t => Value.int (1 : Int) t), Itm.tok (fun t => Value.int (0 : Int) t)]) ?hh_6 ?F_6 ?N_6 rX9' ?sm_6 ?hn_6 ?hx_6 ?_; (case hn_6 => decide +kernel); (case sm_6 => decide +kernel); (case hx_6 => rfl)) | (refine' range_turns (xs := [Itm.tok (fun t => Value.int (0 : Int) t), Itm.tok (fun t => Value.int (1 : Int) t)]) ?hh_6 ?F_6 ?N_6 rX9' ?sm_6 ?hn_6 ?hx_6 ?_; (case hn_6 => decide +kernel); (case sm_6 => decide +kernel); (case hx_6 => rfl)) | (refine' range_turns (xs := [Itm.tok (fun t => Value.int (0 : Int) t), Itm.tok (fun t => Value.int (1 : Int) t), Itm.tok (fun t => Value.int (2 : Int) t)]) ?hh_6 ?F_6 ?N_6 rX9' ?sm_6 ?hn_6 ?hx_6 ?_; (case hn_6 => decide +kernel); (case sm_6 => decide +kernel); (case hx_6 => rfl)) | (refine' range_turns (xs := [Itm.tok (fun t => Value.int (2 : Int) t), Itm.tok (fun t => Value.int (1 : Int) t), Itm.tok (fun t => Value.int (0 : Int) t)]) ?hh_6 ?F_6 ?N_6 rX9' ?sm_6 ?hn_6 ?hx_6 ?_; (case hn_6 => decide +kernel); (case sm_6 => decide +kernel); (case hx_6 => rfl)) | (refine' range_turns (xs := []) ?hh_6 ?F_6 ?N_6 rX9' ?sm_6 ?hn_6 ?hx_6 ?_; (case hn_6 => decide +kernel); (case sm_6 => decide +kernel); (case hx_6 => rfl))); (case hh_6 => rfl); (case F_6 => k_asm); (case N_6 => k_asm); clear rX9'; intro i9' l19; (have o1x9' := off1_lt l19); (have l1y9' := LtAll.intro l19); (try k_lt l19))
  k_with "call type:enumerate" => (k_here; k_dflt (refine' enum_make ?F_7 ?N_7 ?m_7 ?_); (case F_7 => k_asm); (case N_7 => k_asm); (case m_7 => k_mem); intro e9' h9' F9' N9' eX9'; (try k_sweep))
  k_with "call type:enumerate" => (k_here; (with_reducible show wpAny _ _ (call (Value.type _) [Value.ref _]) (fun xv s₁ => wpAny _ _ (pyIter xv) (fun it s₂ => TurnsAt _ _ _ _ _ _ _ _ _ it s₂) _ s₁) _ _); with_unfolding_all (refine' enum_turns (vs := [_, _]) (xs := [Itm.pair (fun t => Value.int (0 : Int) t) _, Itm.pair (fun t => Value.int (1 : Int) t) _]) ?hh_8 ?F_8 ?N_8 ?hm_8 ?hc_8 ?hd_8 ?hx_8 ?_; (case hh_8 => rfl); (case F_8 => k_asm); (case N_8 => k_asm); (case hm_8 => k_mem); (case hc_8 => rfl); (case hd_8 => rfl); (case hx_8 => rfl)); intro i9' l19; (try k_lt l19))
  k_with "call type:list" => (k_here; (rename EnumF _ _ _ _ _ _ _ => eX9'); k_dflt (refine' enum_list ?hh_9 ?F_9 ?N_9 eX9' ?_); (case hh_9 => rfl); (case F_9 => k_asm); (case N_9 => k_asm); intro S9' T19' T29' k19' k29' c9' h9' tk9' F9' N9' l19 l29 l39; clear eX9'; (try k_lt l19); (try k_lt2 l29); (try k_lt2 l39); (try k_sweep))
  k_with "exec For Tuple Call cons nil" => (k_here; (rename Fr _ _ _ _ => lF9'); (with_unfolding_all refine' For_turns lF9' ?_; k_whole))
  k_with "exec For Tuple Attribute cons nil" => (k_here; (rename Fr _ _ _ _ => lF9'); (with_unfolding_all refine' For_turns lF9' ?_; k_whole))
  k_with "mine_enterC" => (refine' enter_defC ?k1_12 ?k2_12 ?k3_12 ?k4_12 ?k5_12 ?kA_12 ?kF_12 ?kK_12 ?k6_12 ?k7_12 ?k8_12 ?k9_12 ?kB_12 ?kD_12 ?_ ?c2_12 ?c3_12 ?c4_12; (case kA_12 => exact rfl); (case kF_12 => exact rfl); (case kK_12 => first | exact rfl | assumption); (case k1_12 => k_asm); (case k2_12 => k_asm); (case k3_12 => k_asm); (case k4_12 => k_asm); (case k5_12 => k_asm); (case k6_12 => k_is); (case k7_12 => k_is); (case k8_12 => ktr_room); (case k9_12 => exact BindsTo.of_eq rfl); (case kB_12 => exact rfl); (case kD_12 => decide +kernel); (case c2_12 => exact rfl); (case c3_12 => exact rfl); (case c4_12 => exact rfl); k_whole; intro g9' L9' h9' tk9' cells9' FG9' F9' N9' Y9' B9' X9' T9' l19 hBs; (have o2x9' := off1_lt (all_lt_succ l19)); (try k_lt l19); k_cells Y9'; (try simp only [List.cons_append, List.nil_append] at N9'); (try dsimp only); (try k_lift B9'); (try k_fold))
  k_with "eval ListComp" => (k_here; (with_reducible show wpAny _ _ (eval (PySem.Expr.ListComp (PySem.Expr.Tuple _ _ _) _ _ _) _) _ _ _); k_dflt (refine mc_comp (by with_unfolding_all rfl) (by with_unfolding_all rfl) (by decide) (by rfl) (by decide) (by rfl) (by rfl) (by decide) (by decide) (by decide) ?_))
  k_with "call type:enumerate" => (k_here; (with_reducible show wpAny _ _ (call (Value.type _) [Value.ref _]) (McSrc _) _ _); k_dflt (refine' mc_call ?F_14 ?N_14 ?m_14 ?_; (case F_14 => k_asm); (case N_14 => k_asm); (case m_14 => k_mem)); intro D9' T9' ti9' h9' tk9' F9' N9' l19 l29; (try k_lt l19); (try k_lt2 l29); (try k_sweep))
  k_with "mine_split" => (repeat' (first | exact Split.here | apply Split.skip))
  k_with "eval GeneratorExp" => (k_here; k_dflt (refine' gen_make ?F_16 (Split.toNews ?N_16 ?sp_16) ?h51_16 ?tb_16 ?G_16 ?X_16 ?T_16 ?hh_16 ?hcode_16 ?hgl_16 ?room_16 ?hek_16 ?hey_16 ?hdy_16 ?hvy_16 ?hml_16 ?hmc_16 ?hoc_16 ?hms_16 ?hmd_16 ?hfm_16 ?hq_16 ?hco_16 ?hclos_16 ?hcell_16 ?h0_16 ?hx_16 ?hsn_16 ?hkind_16 ?hdx_16 ?hds_16 ?hdc_16 ?_); (case F_16 => k_asm); (case N_16 => k_asm); (case sp_16 => walk_at "mine_split"); (case h51_16 => k_all); (case tb_16 => assumption); (case G_16 => assumption); (case X_16 => k_asm); (case T_16 => k_asm); (case hh_16 => rfl); (case hcode_16 => rfl); (case hgl_16 => rfl); (case room_16 => ktr_room); (case hek_16 => rfl); (case hey_16 => with_unfolding_all rfl); (case hdy_16 => decide); (case hvy_16 => with_unfolding_all rfl); (case hml_16 => k_mem); (case hclos_16 => with_unfolding_all rfl); (case hmc_16 => k_mem); (case hoc_16 => assumption); (case hms_16 => k_mem); (case hmd_16 => k_mem); (case hfm_16 => k_get); (case hq_16 => omega); (case hco_16 => rfl); (case hcell_16 => decide); (case h0_16 => rfl); (case hx_16 => rfl); (case hsn_16 => rfl); (case hkind_16 => rfl); (case hdx_16 => decide); (case hds_16 => decide); (case hdc_16 => decide); intro a9' tb9' h9' g9' tk9' G9' TB9' F9' N9' X9'; (try k_sweep))
  k_with "call type:tuple" => (k_here; k_dflt (refine' call_tuple_tup ?T_17 ?_); (case T_17 => exact News.isTup (by k_asm) (by k_mem)); (try dsimp only))
  k_with "call type:tuple" => (k_here; (rename GenR _ _ _ _ _ _ _ _ _ _ => gX9'); k_dflt (refine' gen_tuple ?F_18 ?N_18 ?G_18 gX9' ?_); (case F_18 => k_asm); (case N_18 => k_asm); (case G_18 => assumption); intro D9' t19' t29' h9' g9' tk9' G9' F9' N9' l19; clear gX9'; (try k_lt l19); (try k_sweep))
  k_with "mine_reg" => (w_on; (have _h : (PySem.Challenge.rw_kh0013_01 = PySem.Challenge.rw_kh0013_01) ∧ (Mine.hd.heap_1 = Mine.hd.heap_1) := by (k_fill; exact ⟨rfl, rfl⟩)); clear _h)
  k_with "mine_enter" => (refine' enter_def ?k1_20 ?k2_20 ?k3_20 ?k4_20 ?k5_20 ?kA_20 ?kF_20 ?kK_20 ?k6_20 ?k7_20 ?k8_20 ?k9_20 ?kB_20 ?_ ?c2_20 ?c3_20 ?c4_20 ?c5_20; (case kA_20 => exact rfl); (case kF_20 => exact rfl); (case kK_20 => first | exact rfl | assumption); (case k1_20 => k_asm); (case k2_20 => k_asm); (case k3_20 => k_asm); (case k4_20 => k_asm); (case k5_20 => k_asm); (case k6_20 => k_is); (case k7_20 => k_is); (case k8_20 => ktr_room); (case k9_20 => exact BindsTo.of_eq rfl); (case c5_20 => decide); (case kB_20 => exact locs rfl); (case c2_20 => exact rfl); (case c3_20 => exact rfl); (case c4_20 => exact rfl); k_whole; intro g9' L9' h9' FG9' F9' N9' B9' X9' T9' hBs; (try dsimp only); (try k_lift B9'); (try k_fold))
  k_with "mine_sit" => (refine' Sit.mk ?B_21 ?F_21 ?X_21 (Split.toNews ?N_21 ?sp_21) ?T_21 ?hk_21 ?G_21 ?TB_21 ?n51_21 ?hdp_21 ?hun_21; (case B_21 => k_asm); (case F_21 => k_asm); (case X_21 => k_asm); (case N_21 => k_asm); (case sp_21 => walk_at "mine_split"); (case T_21 => k_asm); (case hk_21 => first | exact rfl | assumption); (case G_21 => assumption); (case TB_21 => assumption); (case n51_21 => first | assumption | k_all); (case hdp_21 => ktr_room); (case hun_21 => ktr_units))
  k_with "mine_ret" => (intro x9' d9' ml9' mp9' cf9' tb9' h9' g9' tk9' e19' e29' e39' e49' e59' e69' e79' q19' q29' r19' r29' G9' TB9' F9' N9' l19 l29 l39 l49 l59; (have l1o9' := l19); (have o1x9' := off1_lt l19); (have l1y9' := LtAll.intro l19); (have o2x9' := off1_lt (all_lt_trans l19 l29)); (have o3x9' := off1_lt (all_lt_trans (all_lt_trans l19 l29) l39)); (have o4x9' := off1_lt (all_lt_trans (all_lt_trans (all_lt_trans l19 l29) l39) l49)); (have o5x9' := off1_lt (all_lt_trans (all_lt_trans (all_lt_trans (all_lt_trans l19 l29) l39) l49) l59)); (try k_lt l19); k_lt2 l29; k_lt2 l39; k_lt2 l49; k_lt2 l59; (try k_sweep); (try dsimp only))
  k_with "call ref" => (k_here; (with_reducible show wpAny _ _ (call (Value.ref 192) _) _ _ _); k_dflt (refine' mkS ?S_23 ?hlc_23 ?hmt_23 ?h2_23 ?h3_23 ?_); (case S_23 => walk_at "mine_sit"); (case hlc_23 => k_mem); (case hmt_23 => k_mem); (case h2_23 => first | assumption | omega); (case h3_23 => first | assumption | omega); walk_at "mine_ret")
  k_with "mine_fq" => (refine' And.intro ?f1_24 (And.intro (Exists.intro _ (Exists.intro _ (Exists.intro _ (Exists.intro _ (Exists.intro _ (Exists.intro _ (Exists.intro _ ?f2_24))))))) (And.intro ?f3_24 (And.intro (Exists.intro _ (Exists.intro _ ?f4_24)) (And.intro (Exists.intro _ (Exists.intro _ ?f5_24)) (Exists.intro _ (Exists.intro _ (Exists.intro _ ?f6_24))))))); (case f1_24 => k_mem); (case f2_24 => k_mem); (case f3_24 => k_mem); (case f4_24 => k_mem); (case f5_24 => k_mem); (case f6_24 => k_mem))
  k_with "call ref" => (k_here; (with_reducible show wpAny _ _ (call (Value.ref 181) _) _ _ _); k_dflt (refine' made ?S_25 ?hS_25 ?hlc_25 ?h2_25 ?h3_25 ?_); (case S_25 => walk_at "mine_sit"); (case hS_25 => walk_at "mine_fq"); (case hlc_25 => k_mem); (case h2_25 => first | assumption | omega); (case h3_25 => first | assumption | omega); walk_at "mine_ret")
  k_with "mine_lt" => ((repeat (first | exact allLt_nil | refine allLt_cons (by first | (refine' lt_mem ?lm_26 ?mm_26; (case lm_26 => with_reducible assumption); (case mm_26 => ((repeat (first | exact List.Mem.head _ | refine List.Mem.tail _ ?_)); done))) | omega) ?_)); done)
  k_with "UnrEndW" => k_dflt (first | (refine' unr_end2 ?F_27 ?N_27 ?l_27 ?k_27 ?_; (case F_27 => k_asm); (case N_27 => k_asm); (case l_27 => walk_at "mine_lt"); (case k_27 => k_subL)) | (refine' unr_end1 ?F_27 ?N_27 ?l_27 ?k_27 ?_; (case F_27 => k_asm); (case N_27 => k_asm); (case l_27 => walk_at "mine_lt"); (case k_27 => k_subL)))
  k_with "getItem ref int" => (k_here; (with_reducible show wpAny _ _ (getItem (Value.ref _) (Value.int _ _)) _ _ _); k_dflt (refine' get_here ?N_28 ?m_28 ?a_28 ?b_28 ?x_28 ?_; (case N_28 => k_asm); (case m_28 => k_mem); (case a_28 => decide); (case b_28 => decide); (case x_28 => rfl); k_whole))
  k_with "subscriptTail" => (k_here; (with_reducible show wpAny _ _ (subscriptTail _ _ (Value.ref _) (Value.int _ _)) _ _ _); with_unfolding_all (first | (refine' item_tupleT ?t_29 ?a_29 ?b_29 ?c_29 ?d_29 ?_ ?e_29; (case t_29 => exact News.isTup (by k_asm) (by k_mem)); (case a_29 => decide); (case b_29 => decide); (case c_29 => rfl); (case d_29 => rfl); (case e_29 => with_unfolding_all rfl); k_whole) | (refine' sub_here ?N_29 ?m_29 ?k2_29 ?k3_29 ?k4_29 ?_ ?k6_29; (case N_29 => k_asm); (case m_29 => k_mem); (case k2_29 => decide); (case k3_29 => decide); (case k4_29 => rfl); (case k6_29 => with_unfolding_all rfl); k_whole)))
  k_with "setItem ref int" => (k_here; k_dflt (refine' ki_set ?F_30 ?N_30 ?a_30 ?b_30 ?e_30 ?U_30 ?_; (case F_30 => k_asm); (case N_30 => k_asm); (case U_30 => k_upd); (case a_30 => decide); (case b_30 => decide); (case e_30 => rfl)); ki_rest)
  k_with "binaryOp Mult ref int" => (k_here; (with_reducible show wpAny _ _ (binaryOp Operator.Mult (Value.ref _) (Value.int _ _)) _ _ _); k_dflt (refine' KMa.mul ?F_31 ?N_31 ?l_31 ?lo_31 ?hi_31 ?z_31 ?e_31 ?_; (case F_31 => k_asm); (case N_31 => k_asm); (case l_31 => is_list); (case lo_31 => first | omega | decide); (case hi_31 => first | omega | decide); (case z_31 => (simp only [List.length_cons, List.length_nil]; decide)); (case e_31 => (simp only [Int.reduceMul, Int.reduceSub, Int.reduceAdd, Int.reduceToNat, List.replicate_succ, List.replicate_zero, List.flatten_cons, List.flatten_nil, List.cons_append, List.nil_append, List.append_nil]; first | done | exact rfl)); k_whole); intro D9' h9' F9' N9' l19; (have o1x9' := off1_lt l19); (have l1y9' := LtAll.intro l19); (try k_lt l19); (try k_sweep))
  k_with "subscriptTail Name Name ref int" => (k_here; k_dflt (refine' sub_here ?N_32 ?m_32 ?k2_32 ?k3_32 ?k4_32 ?_ ?k6_32; (case N_32 => k_asm); (case m_32 => k_mem); (case k2_32 => decide); (case k3_32 => decide); (case k4_32 => rfl); (case k6_32 => with_unfolding_all rfl); k_whole); (try dsimp only))
  k_with "subscriptTail Name BinOp ref int" => (k_here; k_dflt (refine' sub_here ?N_33 ?m_33 ?k2_33 ?k3_33 ?k4_33 ?_ ?k6_33; (case N_33 => k_asm); (case m_33 => k_mem); (case k2_33 => decide); (case k3_33 => decide); (case k4_33 => rfl); (case k6_33 => with_unfolding_all rfl); k_whole); (try dsimp only))
  k_with "subscriptTail Name Constant ref int" => (k_here; k_dflt (refine' sub_here ?N_34 ?m_34 ?k2_34 ?k3_34 ?k4_34 ?_ ?k6_34; (case N_34 => k_asm); (case m_34 => k_mem); (case k2_34 => decide); (case k3_34 => decide); (case k4_34 => rfl); (case k6_34 => with_unfolding_all rfl); k_whole); (try dsimp only))
  k_with "mine_fq" => (first | exact (by with_reducible assumption) | exact (FqAt.tail (by with_reducible assumption)) | exact (FqAt.tail (FqAt.tail (by with_reducible assumption))) | exact (FqAt.tail (FqAt.tail (FqAt.tail (by with_reducible assumption)))) | exact (FqAt.tail (FqAt.tail (FqAt.tail (FqAt.tail (by with_reducible assumption))))) | exact (FqAt.tail (FqAt.tail (FqAt.tail (FqAt.tail (FqAt.tail (by with_reducible assumption)))))) | exact (FqAt.tail (FqAt.tail (FqAt.tail (FqAt.tail (FqAt.tail (FqAt.tail (by with_reducible assumption))))))) | exact (FqAt.tail (FqAt.tail (FqAt.tail (FqAt.tail (FqAt.tail (FqAt.tail (FqAt.tail (by with_reducible assumption)))))))) | exact (FqAt.tail (FqAt.tail (FqAt.tail (FqAt.tail (FqAt.tail (FqAt.tail (FqAt.tail (FqAt.tail (by with_reducible assumption))))))))) | exact (FqAt.tail (FqAt.tail (FqAt.tail (FqAt.tail (FqAt.tail (FqAt.tail (FqAt.tail (FqAt.tail (FqAt.tail (by with_reducible assumption)))))))))) | exact (FqAt.tail (FqAt.tail (FqAt.tail (FqAt.tail (FqAt.tail (FqAt.tail (FqAt.tail (FqAt.tail (FqAt.tail (FqAt.tail (by with_reducible assumption))))))))))) | exact (FqAt.tail (FqAt.tail (FqAt.tail (FqAt.tail (FqAt.tail (FqAt.tail (FqAt.tail (FqAt.tail (FqAt.tail (FqAt.tail (FqAt.tail (by with_reducible assumption)))))))))))) | exact (FqAt.tail (FqAt.tail (FqAt.tail (FqAt.tail (FqAt.tail (FqAt.tail (FqAt.tail (FqAt.tail (FqAt.tail (FqAt.tail (FqAt.tail (FqAt.tail (by with_reducible assumption))))))))))))) | exact (FqAt.tail (FqAt.tail (FqAt.tail (FqAt.tail (FqAt.tail (FqAt.tail (FqAt.tail (FqAt.tail (FqAt.tail (FqAt.tail (FqAt.tail (FqAt.tail (FqAt.tail (by with_reducible assumption)))))))))))))) | exact (FqAt.tail (FqAt.tail (FqAt.tail (FqAt.tail (FqAt.tail (FqAt.tail (FqAt.tail (FqAt.tail (FqAt.tail (FqAt.tail (FqAt.tail (FqAt.tail (FqAt.tail (FqAt.tail (by with_reducible assumption))))))))))))))) | exact (FqAt.tail (FqAt.tail (FqAt.tail (FqAt.tail (FqAt.tail (FqAt.tail (FqAt.tail (FqAt.tail (FqAt.tail (FqAt.tail (FqAt.tail (FqAt.tail (FqAt.tail (FqAt.tail (FqAt.tail (by with_reducible assumption)))))))))))))))) | exact FqAt.mk6 (by k_dflt k_mem) (by k_dflt k_mem) (by k_dflt k_mem) (by k_dflt k_mem) (by k_dflt k_mem) (by k_dflt k_mem))
  k_with "eval ListComp" => (k_here; k_dflt (refine ListComp_T (F₀ := by k_asm) (by with_unfolding_all rfl) (by decide) (by rfl) (by decide) (by rfl) ?_))
  k_with "TupSrc" => (k_here; k_dflt (refine TupSrc.mk (by rfl) (by k_asm) (by k_asm) (by k_mem) (by exact Nat.le_of_ble_eq_true rfl) ?_; intro g9'; lcg_lit))
  k_with "CompEnd" => (k_here; (refine' LCg.CompEnd.intro ?F_38 ?N_38 _ (fun p hp => hp) ?off_38 ?S_38 ?_); (case F_38 => k_asm); (case N_38 => k_asm); (case off_38 => assumption); (case S_38 => (refine' tupAt_led ?m9_38; (case m9_38 => k_mem))))
  k_with "mine_ne" => (refine neN ?_; (try dsimp only); first | (with_reducible assumption) | ((refine Ne51.ne ?_); with_reducible assumption) | ((refine Ne51.ne' ?_); with_reducible assumption) | (refine' off1_ne ?o1 ?m1; (case o1 => with_reducible assumption); (case m1 => ((repeat (first | exact List.Mem.head _ | refine List.Mem.tail _ ?_)); done))) | (refine' Ne.symm (off1_ne ?o1 ?m1); (case o1 => with_reducible assumption); (case m1 => ((repeat (first | exact List.Mem.head _ | refine List.Mem.tail _ ?_)); done))) | omega)
  walk_at "mine_reg"
  obtain ⟨B, F, X, N, T, hk, G, TB, n51, hdp, hun⟩ := S
  have haW := ha
  obtain ⟨ha1, ⟨ae1, ae2, ae3, ae4, ae5, ae6, ae7, ha2⟩, ha3, ⟨aq1, aq2, ha4⟩, ⟨ar1, ar2, ha5⟩, at1, at2, ak, ha6⟩ := ha
  refine wpAny_call ?_
  k_dflt (walk_at "mine_enter")
  clear N
  refine let_entry ?_
  intro M9 A9 e9 E9 Qk
  w_strict (repeat' (k_extra "mine_step"))
  rename Fr h₀ _ _ m => kF
  rename News h₀ L _ _ => kN
  exact hret _ _ _ _ _ _ _ _ _ _ (by assumption) (by assumption) kF kN (by
    intro p hp
    repeat (first | exact hp | refine List.mem_cons_of_mem _ ?_)) (by k_all) (FqAt.mk6 (by k_dflt k_mem) (by k_dflt k_mem) (by k_dflt k_mem) (by k_dflt k_mem) (by k_dflt k_mem) (by k_dflt k_mem))
end
end C13_part
/-! C14 -/
section C14_part
open PySem PySem.W PyProof.Rows PySem.Calls
section
variable {w : World} {p : Program} {loose : List Str} {mean : ExcName → Option Value} {mg mb : Str → Option Value} {dp un : Nat} {gd : Option (List Code)} {cn : Str} {cs : Scope} {a : Addr} {ccd : Value} {cl : List (Str × Addr)} {outer : List Env} {A₀ : Around} {base h₀ : Heap} {L : Addr} {m : Str → Option Value} {tb : Obj} {news : List (Addr × Obj)} {s : Shared} {Q E : Value → Shared → Prop}
set_option maxRecDepth 100000 in
set_option maxHeartbeats 4000000 in
theorem eqF {ax ad aml amp acf amt : Addr} {bx bd bml bmp bcf bmt : Addr} {n n' x y x' y' : Int} (S : Sit w p loose mean mg mb 6 dp un cs outer A₀ base h₀ L m tb news s)
    (ha : FqAt w.params news ax ad aml amp acf amt n x y) (hb : FqAt w.params news bx bd bml bmp bcf bmt n' x' y')
    (hret : ∀ (b : Bool) h' tk', Fr h₀ L h' m → News h₀ L h' ((51, tb) :: news) → (b = true ↔ x = x' ∧ y = y') → Q (.bool b) { s with heap := h', toks := tk' }) :
    wpAny (model PySem.Challenge.rw_kh0013_01.row.prog w) (ktrTop dp un gd cn cs L a ccd cl outer) (call (.ref 126) [.ref ax, .ref bx]) Q E s := by
  k_with_none
  k_with "mine_fold" => first | (have F8 := F7; have N8 := N7; clear F8 N8) | (rename Fr _ _ _ _ => F7; rename News _ _ _ _ => N7; revert F7 N7; refine let_FN ?_; intro m7 n7 F7 N7)
  k_with "mine_step" => (first | (with_reducible show Qk _ _; dsimp only [Qk]; clear Qk) | (k_unfold; (try dsimp only)) | (k_end; kc_close) | walk1 | (dsimp only; walk1) | (leave1; walk_say "STEP leave1"; (try dsimp only)))
  k_with "mine_lo" => skip
  k_with "CompRest" => (with_unfolding_all first | (refine LCg.CompRest.succ ?_; intro v9' I9' oI9' C9' oC9' D9' m9' h9' tk9' E9' hv9' hC9' hx9' F9' N9' off9' ne9'; clear ne9'; (first | lcg_open hv9' | (obtain ⟨t99', hv99'⟩ := hv9'; subst hv99'))) | refine LCg.CompRest.zero ?_)
  k_with "CompEnd" => (k_here; (refine' LCg.CompEnd.intro ?F_1 ?N_1 _ (fun p hp => hp) ?off_1 ?S_1 ?_); (case F_1 => k_asm); (case N_1 => k_asm); (case off_1 => assumption); (case S_1 => (refine' srcAt_led ?m9_1; (case m9_1 => k_mem))))
  k_with "FinE" => ((unfold LCg.FinE); intro D9' h9' tk9' F9' N9' o19'; k_dflt (replace o19' := OffA.of o19'; (try dsimp only [adr_cons, adr_nil, adr_consA, adr_nilA] at o19')); (try simp only [List.nil_append, List.cons_append] at N9'); (try dsimp only))
  k_with "eval ListComp" => (k_here; k_dflt (refine LCg.ListComp_U (F₀ := by k_asm) (by with_unfolding_all rfl) (by decide) (by rfl) (by decide) (by rfl) ?_); k_dflt lcg_toSrc)
  k_with "CompSrc" => (k_here; k_dflt (refine LCg.CompSrc.ledger (by rfl) (by k_asm) (by k_asm) (by k_mem) (by first | size_fits | exact Nat.le_of_ble_eq_true rfl) ?_; intro g9'; lcg_lit))
  k_with "exec For Name Call cons nil" => (k_here; (rename Fr _ _ _ _ => lF9'); (with_unfolding_all refine' For_turns lF9' ?_; k_whole))
  k_with "pyIter ref" => (k_here; (with_reducible show wpAny _ _ (pyIter (Value.ref _)) (fun it s₂ => TurnsAt _ _ _ _ _ _ _ _ _ it s₂) _ _); (with_reducible rename IsRange _ _ _ _ _ _ _ _ => rX9'); with_unfolding_all (first | (refine' range_turns (xs := [Itm.tok (fun t => Value.int (0 : Int) t)]) ?hh_6 ?F_6 ?N_6 rX9' ?sm_6 ?hn_6 ?hx_6 ?_; (case hn_6 => decide +kernel); (case sm_6 => decide +kernel); (case hx_6 => rfl)) | (refine' range_turns (xs := [Itm.tok (fun t => Value.int (1 : Int) t), Itm.tok (fun t => Value.int (0 : Int) t)]) ?hh_6 ?F_6 ?N_6 rX9' ?sm_6 ?hn_6 ?hx_6 ?_; (case hn_6 => decide +kernel); (case sm_6 => decide +kernel); (case hx_6 => rfl)) | (refine' range_turns (xs := [Itm.tok (fun t => Value.int (0 : Int) t), Itm.tok (fun t => Value.int (1 : Int) t)]) ?hh_6 ?F_6 ?N_6 rX9' ?sm_6 ?hn_6 ?hx_6 ?_; (case hn_6 => decide +kernel); (case sm_6 => decide +kernel); (case hx_6 => rfl)) | (refine' range_turns (xs := [Itm.tok (fun t => Value.int (0 : Int) t), Itm.tok (fun t => Value.int (1 : Int) t), Itm.tok (fun t => Value.int (2 : Int) t)]) ?hh_6 ?F_6 ?N_6 rX9' ?sm_6 ?hn_6 ?hx_6 ?_; (case hn_6 => decide +kernel); (case sm_6 => decide +kernel); (case hx_6 => rfl)) | (refine' range_turns (xs := [Itm.tok (fun t => Value.int (2 : Int) t), Itm.tok (fun t => Value.int (1 : Int) t), Itm.tok (fun t => Value.int (0 : Int) t)]) ?hh_6 ?F_6 ?N_6 rX9' ?sm_6 ?hn_6 ?hx_6 ?_; (case hn_6 => decide +kernel); (case sm_6 => decide +kernel); (case hx_6 => rfl)) | (refine' range_turns (xs := []) ?hh_6 ?F_6 ?N_6 rX9' ?sm_6 ?hn_6 ?hx_6 ?_; (case hn_6 => decide +kernel); (case sm_6 => decide +kernel); (case hx_6 => rfl))); (case hh_6 => rfl); (case F_6 => k_asm); (case N_6 => k_asm); clear rX9'; intro i9' l19; (have o1x9' := off1_lt l19); (have l1y9' := LtAll.intro l19); (try k_lt l19))
  k_with "call type:enumerate" => (k_here; k_dflt (refine' enum_make ?F_7 ?N_7 ?m_7 ?_); (case F_7 => k_asm); (case N_7 => k_asm); (case m_7 => k_mem); intro e9' h9' F9' N9' eX9'; (try k_sweep); (try dsimp only))
  k_with "call type:enumerate" => (k_here; (with_reducible show wpAny _ _ (call (Value.type _) [Value.ref _]) (fun xv s₁ => wpAny _ _ (pyIter xv) (fun it s₂ => TurnsAt _ _ _ _ _ _ _ _ _ it s₂) _ s₁) _ _); with_unfolding_all (refine' enum_turns (vs := [_, _]) (xs := [Itm.pair (fun t => Value.int (0 : Int) t) _, Itm.pair (fun t => Value.int (1 : Int) t) _]) ?hh_8 ?F_8 ?N_8 ?hm_8 ?hc_8 ?hd_8 ?hx_8 ?_; (case hh_8 => rfl); (case F_8 => k_asm); (case N_8 => k_asm); (case hm_8 => k_mem); (case hc_8 => rfl); (case hd_8 => rfl); (case hx_8 => rfl)); intro i9' l19; (try k_lt l19); (try dsimp only))
  k_with "call type:list" => (k_here; (rename EnumF _ _ _ _ _ _ _ => eX9'); k_dflt (refine' enum_list ?hh_9 ?F_9 ?N_9 eX9' ?_); (case hh_9 => rfl); (case F_9 => k_asm); (case N_9 => k_asm); intro S9' T19' T29' k19' k29' c9' h9' tk9' F9' N9' l19 l29 l39; clear eX9'; (try k_lt l19); (k_lt2 l29); (have l29 := LoA.tr l19 l29); (k_lt2 l39); (have l39 := LoA.tr l29 l39); (try k_sweep); (try dsimp only))
  k_with "exec For Tuple Call cons nil" => (k_here; (rename Fr _ _ _ _ => lF9'); (with_unfolding_all refine' For_turns lF9' ?_; k_whole))
  k_with "exec For Tuple Attribute cons nil" => (k_here; (rename Fr _ _ _ _ => lF9'); (with_unfolding_all refine' For_turns lF9' ?_; k_whole))
  k_with "mine_enterC" => (refine' enter_defC ?k1_12 ?k2_12 ?k3_12 ?k4_12 ?k5_12 ?kA_12 ?kF_12 ?kK_12 ?k6_12 ?k7_12 ?k8_12 ?k9_12 ?kB_12 ?kD_12 ?_ ?c2_12 ?c3_12 ?c4_12; (case kA_12 => exact rfl); (case kF_12 => exact rfl); (case kK_12 => first | exact rfl | assumption); (case k1_12 => k_asm); (case k2_12 => k_asm); (case k3_12 => k_asm); (case k4_12 => k_asm); (case k5_12 => k_asm); (case k6_12 => k_is); (case k7_12 => k_is); (case k8_12 => ktr_room); (case k9_12 => exact BindsTo.of_eq rfl); (case kB_12 => exact rfl); (case kD_12 => decide +kernel); (case c2_12 => exact rfl); (case c3_12 => exact rfl); (case c4_12 => exact rfl); k_whole; intro g9' L9' h9' tk9' cells9' FG9' F9' N9' Y9' B9' X9' T9' l19 hBs; (have o2x9' := off1_lt (all_lt_succ l19)); (try k_lt l19); k_cells Y9'; (try simp only [List.cons_append, List.nil_append] at N9'); (try dsimp only); (try k_lift B9'); (try k_fold))
  k_with "eval ListComp" => (k_here; (with_reducible show wpAny _ _ (eval (PySem.Expr.ListComp (PySem.Expr.Tuple _ _ _) _ _ _) _) _ _ _); k_dflt (refine mc_comp (by with_unfolding_all rfl) (by with_unfolding_all rfl) (by decide) (by rfl) (by decide) (by rfl) (by rfl) (by decide) (by decide) (by decide) ?_))
  k_with "call type:enumerate" => (k_here; (with_reducible show wpAny _ _ (call (Value.type _) [Value.ref _]) (McSrc _) _ _); k_dflt (refine' mc_call ?F_14 ?N_14 ?m_14 ?_; (case F_14 => k_asm); (case N_14 => k_asm); (case m_14 => k_mem)); intro D9' T9' ti9' h9' tk9' F9' N9' l19 l29; (try k_lt l19); (k_lt2 l29); (have l29 := LoA.tr l19 l29); (try k_sweep); (try dsimp only))
  k_with "mine_split" => (repeat' (first | exact Split.here | apply Split.skip))
  k_with "eval GeneratorExp" => (k_here; k_dflt (refine' gen_make ?F_16 (Split.toNews ?N_16 ?sp_16) ?h51_16 ?tb_16 ?G_16 ?X_16 ?T_16 ?hh_16 ?hcode_16 ?hgl_16 ?room_16 ?hek_16 ?hey_16 ?hdy_16 ?hvy_16 ?hml_16 ?hmc_16 ?hoc_16 ?hms_16 ?hmd_16 ?hfm_16 ?hq_16 ?hco_16 ?hclos_16 ?hcell_16 ?h0_16 ?hx_16 ?hsn_16 ?hkind_16 ?hdx_16 ?hds_16 ?hdc_16 ?_); (case F_16 => k_asm); (case N_16 => k_asm); (case sp_16 => walk_at "mine_split"); (case h51_16 => k_all); (case tb_16 => assumption); (case G_16 => assumption); (case X_16 => k_asm); (case T_16 => k_asm); (case hh_16 => rfl); (case hcode_16 => rfl); (case hgl_16 => rfl); (case room_16 => ktr_room); (case hek_16 => rfl); (case hey_16 => with_unfolding_all rfl); (case hdy_16 => decide); (case hvy_16 => with_unfolding_all rfl); (case hml_16 => k_mem); (case hclos_16 => with_unfolding_all rfl); (case hmc_16 => k_mem); (case hoc_16 => assumption); (case hms_16 => k_mem); (case hmd_16 => k_mem); (case hfm_16 => k_get); (case hq_16 => omega); (case hco_16 => rfl); (case hcell_16 => decide); (case h0_16 => rfl); (case hx_16 => rfl); (case hsn_16 => rfl); (case hkind_16 => rfl); (case hdx_16 => decide); (case hds_16 => decide); (case hdc_16 => decide); intro a9' tb9' h9' g9' tk9' G9' TB9' F9' N9' X9'; (try k_sweep))
  k_with "call type:tuple" => (k_here; k_dflt (refine' call_tuple_tup ?T_17 ?_); (case T_17 => exact News.isTup (by k_asm) (by k_mem)); (try dsimp only))
  k_with "call type:tuple" => (k_here; (rename GenR _ _ _ _ _ _ _ _ _ _ => gX9'); k_dflt (refine' gen_tuple ?F_18 ?N_18 ?G_18 gX9' ?_); (case F_18 => k_asm); (case N_18 => k_asm); (case G_18 => assumption); intro D9' t19' t29' h9' g9' tk9' G9' F9' N9' l19; clear gX9'; (try k_lt l19); (try k_sweep))
  k_with "mine_reg" => (w_on; (have _h : (PySem.Challenge.rw_kh0013_01 = PySem.Challenge.rw_kh0013_01) ∧ (Mine.hd.heap_1 = Mine.hd.heap_1) := by (k_fill; exact ⟨rfl, rfl⟩)); clear _h)
  k_with "mine_enter" => (refine' enter_def ?k1_20 ?k2_20 ?k3_20 ?k4_20 ?k5_20 ?kA_20 ?kF_20 ?kK_20 ?k6_20 ?k7_20 ?k8_20 ?k9_20 ?kB_20 ?_ ?c2_20 ?c3_20 ?c4_20 ?c5_20; (case kA_20 => exact rfl); (case kF_20 => exact rfl); (case kK_20 => first | exact rfl | assumption); (case k1_20 => k_asm); (case k2_20 => k_asm); (case k3_20 => k_asm); (case k4_20 => k_asm); (case k5_20 => k_asm); (case k6_20 => k_is); (case k7_20 => k_is); (case k8_20 => ktr_room); (case k9_20 => exact BindsTo.of_eq rfl); (case c5_20 => decide); (case kB_20 => exact locs rfl); (case c2_20 => exact rfl); (case c3_20 => exact rfl); (case c4_20 => exact rfl); k_whole; intro g9' L9' h9' FG9' F9' N9' B9' X9' T9' hBs; (try dsimp only); (try k_lift B9'); (try k_fold))
  k_with "mine_sit" => (refine' Sit.mk ?B_21 ?F_21 ?X_21 (Split.toNews ?N_21 ?sp_21) ?T_21 ?hk_21 ?G_21 ?TB_21 ?n51_21 ?hdp_21 ?hun_21; (case B_21 => k_asm); (case F_21 => k_asm); (case X_21 => k_asm); (case N_21 => k_asm); (case sp_21 => walk_at "mine_split"); (case T_21 => k_asm); (case hk_21 => first | exact rfl | assumption); (case G_21 => assumption); (case TB_21 => assumption); (case n51_21 => first | assumption | k_all); (case hdp_21 => ktr_room); (case hun_21 => ktr_units))
  k_with "mine_ret" => (intro x9' d9' ml9' mp9' cf9' tb9' h9' g9' tk9' e19' e29' e39' e49' e59' e69' e79' q19' q29' r19' r29' G9' TB9' F9' N9' l19 l29 l39 l49 l59; (have l1o9' := l19); (have o1x9' := off1_lt l19); (have l1y9' := LtAll.intro l19); (have o2x9' := off1_lt (all_lt_trans l19 l29)); (have o3x9' := off1_lt (all_lt_trans (all_lt_trans l19 l29) l39)); (have o4x9' := off1_lt (all_lt_trans (all_lt_trans (all_lt_trans l19 l29) l39) l49)); (have o5x9' := off1_lt (all_lt_trans (all_lt_trans (all_lt_trans (all_lt_trans l19 l29) l39) l49) l59)); (try k_lt l19); (k_lt2 l29); (have l29 := LoA.tr l19 l29); (k_lt2 l39); (have l39 := LoA.tr l29 l39); (k_lt2 l49); (have l49 := LoA.tr l39 l49); (k_lt2 l59); (have l59 := LoA.tr l49 l59); (try k_sweep); (try dsimp only))
  k_with "call ref" => (k_here; (with_reducible show wpAny _ _ (call (Value.ref 192) _) _ _ _); k_dflt (refine' mkS ?S_23 ?hlc_23 ?hmt_23 ?h2_23 ?h3_23 ?_); (case S_23 => walk_at "mine_sit"); (case hlc_23 => k_mem); (case hmt_23 => k_mem); (case h2_23 => first | assumption | omega); (case h3_23 => first | assumption | omega); walk_at "mine_ret"; (try dsimp only))
  k_with "mine_fq" => (refine' And.intro ?f1_24 (And.intro (Exists.intro _ (Exists.intro _ (Exists.intro _ (Exists.intro _ (Exists.intro _ (Exists.intro _ (Exists.intro _ ?f2_24))))))) (And.intro ?f3_24 (And.intro (Exists.intro _ (Exists.intro _ ?f4_24)) (And.intro (Exists.intro _ (Exists.intro _ ?f5_24)) (Exists.intro _ (Exists.intro _ (Exists.intro _ ?f6_24))))))); (case f1_24 => k_mem); (case f2_24 => k_mem); (case f3_24 => k_mem); (case f4_24 => k_mem); (case f5_24 => k_mem); (case f6_24 => k_mem))
  k_with "call ref" => (k_here; (with_reducible show wpAny _ _ (call (Value.ref 181) _) _ _ _); k_dflt (refine' made ?S_25 ?hS_25 ?hlc_25 ?h2_25 ?h3_25 ?_); (case S_25 => walk_at "mine_sit"); (case hS_25 => walk_at "mine_fq"); (case hlc_25 => k_mem); (case h2_25 => first | assumption | omega); (case h3_25 => first | assumption | omega); walk_at "mine_ret"; (try dsimp only))
  k_with "mine_lt" => first | (refine LoA.allLt ?_; (try dsimp only [adr_cons, adr_nil, adr_consA, adr_nilA]); with_reducible assumption) | exact allLt_nil | (refine allLt_cons ?mltZ ?_; (case mltZ => first | with_reducible assumption | (refine' LoA.lt ?hZq ?mZq; (case hZq => with_reducible assumption); (case mZq => (k_dflt ((repeat (first | exact List.Mem.head _ | refine List.Mem.tail _ ?_)); done)))) | (refine' LoA.ltS ?hZq ?mZq; (case hZq => with_reducible assumption); (case mZq => (k_dflt ((repeat (first | exact List.Mem.head _ | refine List.Mem.tail _ ?_)); done))))); walk_at "mine_lt")
  k_with "UnrEndW" => k_dflt (first | (refine' unr_end2 ?F_27 ?N_27 ?l_27 ?k_27 ?_; (case F_27 => k_asm); (case N_27 => k_asm); (case l_27 => walk_at "mine_lt"); (case k_27 => k_subL)) | (refine' unr_end1 ?F_27 ?N_27 ?l_27 ?k_27 ?_; (case F_27 => k_asm); (case N_27 => k_asm); (case l_27 => walk_at "mine_lt"); (case k_27 => k_subL)))
  k_with "getItem ref int" => (k_here; (with_reducible show wpAny _ _ (getItem (Value.ref _) (Value.int _ _)) _ _ _); k_dflt (refine' get_here ?N_28 ?m_28 ?a_28 ?b_28 ?x_28 ?_; (case N_28 => k_asm); (case m_28 => k_mem); (case a_28 => decide); (case b_28 => decide); (case x_28 => rfl); k_whole))
  k_with "subscriptTail" => (k_here; (with_reducible show wpAny _ _ (subscriptTail _ _ (Value.ref _) (Value.int _ _)) _ _ _); with_unfolding_all (first | (refine' item_tupleT ?t_29 ?a_29 ?b_29 ?c_29 ?d_29 ?_ ?e_29; (case t_29 => exact News.isTup (by k_asm) (by k_mem)); (case a_29 => decide); (case b_29 => decide); (case c_29 => rfl); (case d_29 => rfl); (case e_29 => with_unfolding_all rfl); k_whole) | (refine' sub_here ?N_29 ?m_29 ?k2_29 ?k3_29 ?k4_29 ?_ ?k6_29; (case N_29 => k_asm); (case m_29 => k_mem); (case k2_29 => decide); (case k3_29 => decide); (case k4_29 => rfl); (case k6_29 => with_unfolding_all rfl); k_whole)))
  k_with "setItem ref int" => (k_here; k_dflt (refine' ki_set ?F_30 ?N_30 ?a_30 ?b_30 ?e_30 ?U_30 ?_; (case F_30 => k_asm); (case N_30 => k_asm); (case U_30 => k_upd); (case a_30 => decide); (case b_30 => decide); (case e_30 => rfl)); ki_rest; (try dsimp only))
  k_with "binaryOp Mult ref int" => (k_here; (with_reducible show wpAny _ _ (binaryOp Operator.Mult (Value.ref _) (Value.int _ _)) _ _ _); k_dflt (refine' KMa.mul ?F_31 ?N_31 ?l_31 ?lo_31 ?hi_31 ?z_31 ?e_31 ?_; (case F_31 => k_asm); (case N_31 => k_asm); (case l_31 => is_list); (case lo_31 => first | omega | decide); (case hi_31 => first | omega | decide); (case z_31 => (simp only [List.length_cons, List.length_nil]; decide)); (case e_31 => (simp only [Int.reduceMul, Int.reduceSub, Int.reduceAdd, Int.reduceToNat, List.replicate_succ, List.replicate_zero, List.flatten_cons, List.flatten_nil, List.cons_append, List.nil_append, List.append_nil]; first | done | exact rfl)); k_whole); intro D9' h9' F9' N9' l19; (have o1x9' := off1_lt l19); (have l1y9' := LtAll.intro l19); (try k_lt l19); (try k_sweep); (try dsimp only))
  k_with "subscriptTail Name Name ref int" => (k_here; k_dflt (refine' sub_here ?N_32 ?m_32 ?k2_32 ?k3_32 ?k4_32 ?_ ?k6_32; (case N_32 => k_asm); (case m_32 => k_mem); (case k2_32 => decide); (case k3_32 => decide); (case k4_32 => rfl); (case k6_32 => with_unfolding_all rfl); k_whole); (try dsimp only))
  k_with "subscriptTail Name BinOp ref int" => (k_here; k_dflt (refine' sub_here ?N_33 ?m_33 ?k2_33 ?k3_33 ?k4_33 ?_ ?k6_33; (case N_33 => k_asm); (case m_33 => k_mem); (case k2_33 => decide); (case k3_33 => decide); (case k4_33 => rfl); (case k6_33 => with_unfolding_all rfl); k_whole); (try dsimp only))
  k_with "subscriptTail Name Constant ref int" => (k_here; k_dflt (refine' sub_here ?N_34 ?m_34 ?k2_34 ?k3_34 ?k4_34 ?_ ?k6_34; (case N_34 => k_asm); (case m_34 => k_mem); (case k2_34 => decide); (case k3_34 => decide); (case k4_34 => rfl); (case k6_34 => with_unfolding_all rfl); k_whole); (try dsimp only))
  k_with "mine_fq" => (first | exact (by with_reducible assumption) | exact (FqAt.tail (by with_reducible assumption)) | exact (FqAt.tail (FqAt.tail (by with_reducible assumption))) | exact (FqAt.tail (FqAt.tail (FqAt.tail (by with_reducible assumption)))) | exact (FqAt.tail (FqAt.tail (FqAt.tail (FqAt.tail (by with_reducible assumption))))) | exact (FqAt.tail (FqAt.tail (FqAt.tail (FqAt.tail (FqAt.tail (by with_reducible assumption)))))) | exact (FqAt.tail (FqAt.tail (FqAt.tail (FqAt.tail (FqAt.tail (FqAt.tail (by with_reducible assumption))))))) | exact (FqAt.tail (FqAt.tail (FqAt.tail (FqAt.tail (FqAt.tail (FqAt.tail (FqAt.tail (by with_reducible assumption)))))))) | exact (FqAt.tail (FqAt.tail (FqAt.tail (FqAt.tail (FqAt.tail (FqAt.tail (FqAt.tail (FqAt.tail (by with_reducible assumption))))))))) | exact (FqAt.tail (FqAt.tail (FqAt.tail (FqAt.tail (FqAt.tail (FqAt.tail (FqAt.tail (FqAt.tail (FqAt.tail (by with_reducible assumption)))))))))) | exact (FqAt.tail (FqAt.tail (FqAt.tail (FqAt.tail (FqAt.tail (FqAt.tail (FqAt.tail (FqAt.tail (FqAt.tail (FqAt.tail (by with_reducible assumption))))))))))) | exact (FqAt.tail (FqAt.tail (FqAt.tail (FqAt.tail (FqAt.tail (FqAt.tail (FqAt.tail (FqAt.tail (FqAt.tail (FqAt.tail (FqAt.tail (by with_reducible assumption)))))))))))) | exact (FqAt.tail (FqAt.tail (FqAt.tail (FqAt.tail (FqAt.tail (FqAt.tail (FqAt.tail (FqAt.tail (FqAt.tail (FqAt.tail (FqAt.tail (FqAt.tail (by with_reducible assumption))))))))))))) | exact (FqAt.tail (FqAt.tail (FqAt.tail (FqAt.tail (FqAt.tail (FqAt.tail (FqAt.tail (FqAt.tail (FqAt.tail (FqAt.tail (FqAt.tail (FqAt.tail (FqAt.tail (by with_reducible assumption)))))))))))))) | exact (FqAt.tail (FqAt.tail (FqAt.tail (FqAt.tail (FqAt.tail (FqAt.tail (FqAt.tail (FqAt.tail (FqAt.tail (FqAt.tail (FqAt.tail (FqAt.tail (FqAt.tail (FqAt.tail (by with_reducible assumption))))))))))))))) | exact (FqAt.tail (FqAt.tail (FqAt.tail (FqAt.tail (FqAt.tail (FqAt.tail (FqAt.tail (FqAt.tail (FqAt.tail (FqAt.tail (FqAt.tail (FqAt.tail (FqAt.tail (FqAt.tail (FqAt.tail (by with_reducible assumption)))))))))))))))) | exact FqAt.mk6 (by k_dflt k_mem) (by k_dflt k_mem) (by k_dflt k_mem) (by k_dflt k_mem) (by k_dflt k_mem) (by k_dflt k_mem))
  k_with "call type:zip" => (k_here; (with_reducible show wpAny _ _ (call (Value.type _) [Value.ref _, Value.ref _]) (fun xv s₁ => wpAny _ _ (pyIter xv) (fun it s₂ => TurnsAt _ _ _ _ _ _ _ _ _ it s₂) _ s₁) _ _); (rename Fr _ _ _ _ => lF9'); with_unfolding_all (refine' zip_turns (xs := [_, _]) (ys := [_, _]) (by rfl) lF9' (by k_asm) (by k_mem) (by k_mem) (by rfl) ?_); clear lF9'; intro i9' l19; (have l1y9' := LtAll.intro l19); (try k_lt l19))
  k_with "UnrEndW" => k_dflt (refine' unr_end5 ?F_37 ?N_37 ?l_37 ?k_37 ?_; (case F_37 => k_asm); (case N_37 => k_asm); (case l_37 => assumption); (case k_37 => k_subL))
  k_with "execs cons" => ((try dsimp only); first | (refine let_one ?_; intro s7 Qk) | (refine let_cons ?_; intro s7 Qk Qk))
  k_with "eval Constant int" => (refine wpAny_Constant_int ?_; (try dsimp only))
  k_with "newList" => (k_here; k_dflt (refine' newList_K ?k1 ?k2 ?_; (case k1 => k_asm); (case k2 => k_asm); k_whole); intro l9' h9' F9' N9' l19; (try k_lt l19); (try k_sweep); (try dsimp only))
  k_with "mine_ne" => k_dflt (refine neN ?_; (try dsimp only); first | (with_reducible assumption) | (refine' LoA.ne ?hZq ?mZq; (case hZq => with_reducible assumption); (case mZq => (k_dflt ((repeat (first | exact List.Mem.head _ | refine List.Mem.tail _ ?_)); done)))) | (refine' LoA.ne' ?hZq ?mZq; (case hZq => with_reducible assumption); (case mZq => (k_dflt ((repeat (first | exact List.Mem.head _ | refine List.Mem.tail _ ?_)); done)))) | (refine' OffA.ne ?hZq ?mZq; (case hZq => with_reducible assumption); (case mZq => (k_dflt ((repeat (first | exact List.Mem.head _ | refine List.Mem.tail _ ?_)); done)))) | (refine' OffA.ne' ?hZq ?mZq; (case hZq => with_reducible assumption); (case mZq => (k_dflt ((repeat (first | exact List.Mem.head _ | refine List.Mem.tail _ ?_)); done)))) | (refine' LoA.neS ?hZq ?mZq; (case hZq => with_reducible assumption); (case mZq => (k_dflt ((repeat (first | exact List.Mem.head _ | refine List.Mem.tail _ ?_)); done)))) | (refine' LoA.neS' ?hZq ?mZq; (case hZq => with_reducible assumption); (case mZq => (k_dflt ((repeat (first | exact List.Mem.head _ | refine List.Mem.tail _ ?_)); done)))) | (refine' LoA.neT ?hZq ?mZq; (case hZq => with_reducible assumption); (case mZq => (k_dflt ((repeat (first | exact List.Mem.head _ | refine List.Mem.tail _ ?_)); done)))) | (refine' LoA.neT' ?hZq ?mZq; (case hZq => with_reducible assumption); (case mZq => (k_dflt ((repeat (first | exact List.Mem.head _ | refine List.Mem.tail _ ?_)); done)))) | exact neS_self | exact neS_self' | ((refine Ne51.ne ?_); with_reducible assumption) | ((refine Ne51.ne' ?_); with_reducible assumption) | (refine' off1_ne ?o1 ?m1; (case o1 => with_reducible assumption); (case m1 => ((repeat (first | exact List.Mem.head _ | refine List.Mem.tail _ ?_)); done))) | (refine' Ne.symm (off1_ne ?o1 ?m1); (case o1 => with_reducible assumption); (case m1 => ((repeat (first | exact List.Mem.head _ | refine List.Mem.tail _ ?_)); done))) | k_extra "mine_om")
  k_with "mine_om" => ((try simp only [LoA.cons_iff, LoA.nil_iff, and_true] at *); omega)
  walk_at "mine_reg"
  obtain ⟨B, F, X, N, T, hk, G, TB, n51, hdp, hun⟩ := S
  obtain ⟨ha1, ⟨ae1, ae2, ae3, ae4, ae5, ae6, ae7, ha2⟩, ha3, ⟨aq1, aq2, ha4⟩, ⟨ar1, ar2, ha5⟩, at1, at2, ak, ha6⟩ := ha
  obtain ⟨hb1, ⟨be1, be2, be3, be4, be5, be6, be7, hb2⟩, hb3, ⟨bq1, bq2, hb4⟩, ⟨br1, br2, hb5⟩, bt1, bt2, bk, hb6⟩ := hb
  refine wpAny_call ?_
  k_dflt (walk_at "mine_enter")
  clear N
  refine let_entry ?_
  intro M9 A9 e9 E9 Qk
  w_strict (repeat' (k_extra "mine_step"))
  all_goals
    rename Fr h₀ _ _ m => kF
    rename News h₀ L _ _ => kN
    refine hret _ _ _ kF (fun p hp => kN p (by repeat (first | exact hp | refine List.mem_cons_of_mem _ ?_))) ?_
    first
      | exact ⟨fun _ => ⟨by assumption, by assumption⟩, fun _ => rfl⟩
      | exact ⟨(fun h => by cases h), fun h => absurd h.1 (by assumption)⟩
      | exact ⟨(fun h => by cases h), fun h => absurd h.2 (by assumption)⟩
end
end C14_part
/-! T8 -/
section T8_part
open PySem PySem.W PyProof.Rows PySem.Calls
set_option maxRecDepth 100000
/-- the states behind a comparison: the heap has grown, the ledger is the same -/
def EqSt (h₀ : Heap) (L : Addr) (m : Str → Option Value) (tb : Obj) (news : List (Addr × Obj)) (s : Shared) (s' : Shared) : Prop :=
  ∃ h' tk', s' = { s with heap := h', toks := tk' } ∧ Fr h₀ L h' m ∧ News h₀ L h' ((51, tb) :: news)
theorem News.same {h₀ h : Heap} {L : Addr} {news : List (Addr × Obj)} (N : News h₀ L h news) {a : Addr} {o o' : Obj} (h1 : (a, o) ∈ news) (h2 : (a, o') ∈ news) : o = o' :=
  Option.some.inj ((N _ h1).1.symm.trans (N _ h2).1)
theorem FqAt.uniq {P : Params} {h₀ h : Heap} {L : Addr} {news : List (Addr × Obj)} {sx d ml mp cf mt d' ml' mp' cf' mt' : Addr} {n x y n' x' y' : Int} (N : News h₀ L h news)
    (fa : FqAt P news sx d ml mp cf mt n x y) (fb : FqAt P news sx d' ml' mp' cf' mt' n' x' y') : x = x' ∧ y = y' := by
  obtain ⟨a1, ⟨_, _, _, _, _, _, _, a2⟩, _, _, ⟨_, _, a5⟩, _⟩ := fa
  obtain ⟨b1, ⟨_, _, _, _, _, _, _, b2⟩, _, _, ⟨_, _, b5⟩, _⟩ := fb
  have e1 := News.same N a1 b1
  have e1' : d = d' := by
    have := congrArg (fun o : Obj => o.dict) e1
    exact Option.some.inj this
  subst e1'
  have e2 := News.same N a2 b2
  have e2' : cf = cf' := by
    simp only [fqDict, dictOf] at e2
    simp only [Obj.mk.injEq, Data.dict.injEq, List.toArray] at e2
    simp at e2
    simp [e2]
  subst e2'
  have e3 := News.same N a5 b5
  simp at e3
  exact ⟨e3.1.1, e3.2.1⟩
section
variable {w : World} {p : Program} {loose : List Str} {mean : ExcName → Option Value} {mg mb : Str → Option Value} {dp un : Nat} {gd : Option (List Code)} {cn : Str} {cs : Scope} {a : Addr} {ccd : Value} {cl : List (Str × Addr)} {outer : List Env} {A₀ : Around} {base h₀ : Heap} {L : Addr} {m : Str → Option Value} {tb : Obj} {news : List (Addr × Obj)} {s : Shared} {Q E : Value → Shared → Prop}
theorem eqI {ax ad aml amp acf amt : Addr} {bx bd bml bmp bcf bmt : Addr} {n n' x y x' y' : Int} {b : Bool} (S : Sit w p loose mean mg mb 7 dp un cs outer A₀ base h₀ L m tb news s)
    (ha : FqAt w.params news ax ad aml amp acf amt n x y) (hb : FqAt w.params news bx bd bml bmp bcf bmt n' x' y') (hbt : b = true ↔ x = x' ∧ y = y') :
    EqI PySem.Challenge.rw_kh0013_01.row.prog w ((ktrTop dp un gd cn cs L a ccd cl outer).in1) (EqSt h₀ L m tb news s) (.ref ax) (.ref bx) b := by
  intro E Q s₁ hs hQ
  obtain ⟨h₁, tk₁, rfl, F₁, N₁⟩ := hs
  obtain ⟨B, F, X, N, T, hk, G, TB, n51, hdp, hun⟩ := S
  have S₁ : Sit w p loose mean mg mb 6 dp (un + 1) cs outer A₀ base h₀ L m tb news { s with heap := h₁, toks := tk₁ } := ⟨B, F₁, X, N₁, T, hk, G, TB, n51, by omega, by omega⟩
  unfold eqBool
  refine wpAny_holding ?_
  refine wpAny_ite_split (fun hab => ?_) (fun hab => ?_)
  · have e : ax = bx := by have := eq_of_beq hab; injection this
    subst e
    have hu := FqAt.uniq N₁ ha.tail hb.tail
    have hbt' := hbt.mpr hu
    exact wpAny_bind (wpAny_rule (wpAny_pure (hbt' ▸ hQ _ ⟨_, _, rfl, F₁, N₁⟩)))
  · refine wpAny_bind ?_
    have ha1 := ha
    have hb1 := hb
    obtain ⟨a1, ⟨_, _, _, _, _, _, _, a2⟩, _⟩ := ha1
    obtain ⟨b1, ⟨_, _, _, _, _, _, _, b2⟩, _⟩ := hb1
    refine cmp_K (K := Mine.hd.heap_1 w.params) (h₀ := h₀) (L := L) (m := m) (f := 126) (C := 192) (op := .Eq) ?hu F₁ X (InstAt.of_news N₁ (.tail _ a1) (.tail _ a2)) (InstAt.of_news N₁ (.tail _ b1) (.tail _ b2)).type ?k1 ?k2 ?k3 ?_
    case hu => show un + 1 < cLine; omega
    case k1 => kernel_rfl
    case k2 => kernel_rfl
    case k3 => kernel_rfl
    refine eqF S₁ ha hb fun b' h' tk' F' N' hb' => ?_
    have hbb : b' = b := by
      cases b' <;> cases b <;> simp_all
    subst hbb
    show wpAny _ _ (truthy (.bool b')) _ _ _
    exact wpAny_truthy_bool (hQ _ ⟨_, _, rfl, F', N'⟩)
/-- an element by its parts -/
def RtAt (P : Params) (news : List (Addr × Obj)) (r : Addr) (n : Int) (v : G) : Prop := ∃ d ml mp cf mt, FqAt P news r d ml mp cf mt n v.1 v.2
theorem RtAt.sub {P : Params} {news rows : List (Addr × Obj)} {r : Addr} {n : Int} {v : G} (h : RtAt P news r n v) (k : ∀ p ∈ news, p ∈ rows) : RtAt P rows r n v := by
  obtain ⟨d, ml, mp, cf, mt, f⟩ := h
  exact ⟨d, ml, mp, cf, mt, f.sub k⟩
open Classical in
/-- the value is an element with the parts g -/
noncomputable def isP (P : Params) (news : List (Addr × Obj)) (n : Int) (g : G) (v : Value) : Bool := decide (∃ r, v = .ref r ∧ RtAt P news r n g)
theorem isP_iff {h : Heap} {r : Addr} {n : Int} {g v : G} {P : Params} (N : News h₀ L h news) (f : RtAt P news r n v) : isP P news n g (.ref r) = true ↔ v = g := by
  classical
  unfold isP
  rw [decide_eq_true_iff]
  constructor
  · rintro ⟨r', e, k⟩
    obtain rfl : r = r' := by injection e
    obtain ⟨_, _, _, _, _, f⟩ := f
    obtain ⟨_, _, _, _, _, k⟩ := k
    obtain ⟨e1, e2⟩ := FqAt.uniq N f k
    exact Prod.ext e1 e2
  · rintro rfl
    exact ⟨r, rfl, f⟩
theorem eqP {r c : Addr} {n n' : Int} {v g : G} (S : Sit w p loose mean mg mb 7 dp un cs outer A₀ base h₀ L m tb news s) (ha : RtAt w.params news r n v) (hb : RtAt w.params news c n' g) :
    EqI PySem.Challenge.rw_kh0013_01.row.prog w ((ktrTop dp un gd cn cs L a ccd cl outer).in1) (EqSt h₀ L m tb news s) (.ref r) (.ref c) (isP w.params news n g (.ref r)) := by
  have hi := isP_iff (fun q hq => S.N q (.tail _ hq)) ha (g := g)
  obtain ⟨_, _, _, _, _, fa⟩ := ha
  obtain ⟨_, _, _, _, _, fb⟩ := hb
  exact eqI S fa fb (hi.trans ⟨fun e => e ▸ ⟨rfl, rfl⟩, fun e => Prod.ext e.1 e.2⟩)
end
end T8_part
/-! T9 -/
section T9_part
open PySem PySem.W PyProof.Rows PySem.Calls
set_option maxRecDepth 100000
theorem RtAt.tail {P : Params} {q : Addr × Obj} {news : List (Addr × Obj)} {r : Addr} {n : Int} {v : G} (h : RtAt P news r n v) : RtAt P (q :: news) r n v := h.sub fun _ hp => .tail _ hp
theorem FqAt.rt {P : Params} {news : List (Addr × Obj)} {sx d ml mp cf mt : Addr} {n x y : Int} (h : FqAt P news sx d ml mp cf mt n x y) : RtAt P news sx n (x, y) := ⟨_, _, _, _, _, h⟩
section
variable {w : World} {p : Program} {loose : List Str} {mean : ExcName → Option Value} {mg mb : Str → Option Value} {dp un : Nat} {gd : Option (List Code)} {cn : Str} {cs : Scope} {a : Addr} {ccd : Value} {cl : List (Str × Addr)} {outer : List Env} {A₀ : Around} {base h₀ : Heap} {L : Addr} {m : Str → Option Value} {tb : Obj} {news : List (Addr × Obj)} {s : Shared} {E : Value → Shared → Prop}
theorem step2_mine {Q : Value → Shared → Prop} {prog : Program} {A : Around} {l : Addr} {k : Nat} {rs : Nat → Addr} {value slice : PySem.Expr} {vk : Value} {ops : List Value} {nw : List (Addr × Obj)} (F : Fr h₀ L s.heap m) (N : News h₀ L s.heap nw)
    (hl : (l, ({ cls := .type "list", data := .seq #[.ref (rs 0), .ref (rs 1), .ref (rs 2), .ref (rs 3), .ref (rs 4), .ref (rs 5), .ref (rs 6), .ref (rs 7)] k } : Obj)) ∈ nw) (pk : IsPart vk (some 2))
    (h : ∀ D h', Fr h₀ L h' m → News h₀ L h' ((D, ({ cls := .type "list", data := .seq #[.ref (rs 0), .ref (rs 2), .ref (rs 4), .ref (rs 6)] } : Obj)) :: nw) → (∀ p ∈ nw, p.1 < D) → Q (.ref D) { s with heap := h' })
    (hs : subscripted slice false (.ref l) (.ref s.heap.objs.size) = operate ops (getItem (.ref l) (.ref s.heap.objs.size))) (ht : ∀ r, letTemporaryGo value (.ref l) r = pure ()) :
    wpAny (model prog w) A (subscriptTail value slice (.ref l) (.ref s.heap.objs.size)) Q E { s with heap := s.heap.push { cls := .type "slice", data := .fields #[.none, .none, vk] } } :=
  step2_lit F N ⟨_, (N _ hl).1, rfl, k, rfl⟩ pk h hs ht
theorem in_mine {Q : Value → Shared → Prop} {c l : Addr} {n n' : Int} {g : G} {k : Nat} {rs : Nat → Addr} {vs : Nat → G} (S : Sit w p loose mean mg mb 7 dp un cs outer A₀ base h₀ L m tb news s) (hr : ∀ k, k < 8 → RtAt w.params news (rs k) n (vs k)) (hc : RtAt w.params news c n' g)
    (hl : (l, ({ cls := .type "list", data := .seq #[.ref (rs 0), .ref (rs 2), .ref (rs 4), .ref (rs 6)] k } : Obj)) ∈ news)
    (ht : ∀ j h' tk', j < 4 → vs (2 * j) = g → Fr h₀ L h' m → News h₀ L h' ((51, tb) :: news) → Q (.bool true) { s with heap := h', toks := tk' })
    (hf : ∀ h' tk', (∀ j, j < 4 → vs (2 * j) ≠ g) → Fr h₀ L h' m → News h₀ L h' ((51, tb) :: news) → Q (.bool false) { s with heap := h', toks := tk' }) :
    wpAny (model PySem.Challenge.rw_kh0013_01.row.prog w) (ktrTop dp un gd cn cs L a ccd cl outer) (compareOp .In (.ref c) (.ref l)) Q E s := by
  have N0 : News h₀ L s.heap news := fun q hq => S.N q (.tail _ hq)
  have hi : ∀ k, k < 8 → (isP w.params news n g (.ref (rs k)) = true ↔ vs k = g) := fun k hk => isP_iff N0 (hr k hk)
  refine in_listI (I := EqSt h₀ L m tb news s) (items := #[Value.ref (rs 0), .ref (rs 2), .ref (rs 4), .ref (rs 6)]) (n := k) (isP w.params news n g) (fun s' hs' => ?_) (fun y hy => ?_) ⟨s.heap, s.toks, rfl, S.F, S.N⟩ fun s' hs' => ?_
  · obtain ⟨h', tk', rfl, F', N'⟩ := hs'
    exact (N' _ (.tail _ hl)).1
  · have hy' : y ∈ [Value.ref (rs 0), .ref (rs 2), .ref (rs 4), .ref (rs 6)] := Array.mem_toList_iff.mpr hy
    simp only [List.mem_cons, List.not_mem_nil, or_false] at hy'
    rcases hy' with rfl | rfl | rfl | rfl
    · exact eqP S (hr 0 (by decide)) hc
    · exact eqP S (hr 2 (by decide)) hc
    · exact eqP S (hr 4 (by decide)) hc
    · exact eqP S (hr 6 (by decide)) hc
  · obtain ⟨h', tk', rfl, F', N'⟩ := hs'
    have e : (#[Value.ref (rs 0), .ref (rs 2), .ref (rs 4), .ref (rs 6)] : Array Value).any (isP w.params news n g) = (isP w.params news n g (.ref (rs 0)) || (isP w.params news n g (.ref (rs 2)) || (isP w.params news n g (.ref (rs 4)) || isP w.params news n g (.ref (rs 6))))) := by simp
    rw [e]
    cases hb : (isP w.params news n g (.ref (rs 0)) || (isP w.params news n g (.ref (rs 2)) || (isP w.params news n g (.ref (rs 4)) || isP w.params news n g (.ref (rs 6))))) with
    | true =>
      simp only [Bool.or_eq_true] at hb
      rw [hi 0 (by decide), hi 2 (by decide), hi 4 (by decide), hi 6 (by decide)] at hb
      rcases hb with hb | hb | hb | hb
      · exact ht 0 _ _ (by decide) hb F' N'
      · exact ht 1 _ _ (by decide) hb F' N'
      · exact ht 2 _ _ (by decide) hb F' N'
      · exact ht 3 _ _ (by decide) hb F' N'
    | false =>
      refine hf _ _ (fun j hj he => ?_) F' N'
      have h2 := (hi (2 * j) (by omega)).mpr he
      have : j = 0 ∨ j = 1 ∨ j = 2 ∨ j = 3 := by omega
      rcases this with rfl | rfl | rfl | rfl <;> simp [h2] at hb
theorem index_mine {Q : Value → Shared → Prop} {c l : Addr} {n n' : Int} {g : G} {k j : Nat} {rs : Nat → Addr} {vs : Nat → G} (S : Sit w p loose mean mg mb 7 dp un cs outer A₀ base h₀ L m tb news s) (hr : ∀ k, k < 8 → RtAt w.params news (rs k) n (vs k)) (hc : RtAt w.params news c n' g)
    (hl : (l, ({ cls := .type "list", data := .seq #[.ref (rs 0), .ref (rs 1), .ref (rs 2), .ref (rs 3), .ref (rs 4), .ref (rs 5), .ref (rs 6), .ref (rs 7)] k } : Obj)) ∈ news)
    (hd : ∀ i j, i < 8 → j < 8 → vs i = vs j → i = j) (hj : j < 4) (hv : vs (2 * j) = g)
    (h : ∀ h' t' tk', Fr h₀ L h' m → News h₀ L h' ((51, tb) :: news) → Q (.int ((2 * j : Nat) : Int) t') { s with heap := h', toks := tk' }) :
    wpAny (model PySem.Challenge.rw_kh0013_01.row.prog w) (ktrTop dp un gd cn cs L a ccd cl outer) (call (.builtin "list.index") [.ref l, .ref c]) Q E s := by
  have N0 : News h₀ L s.heap news := fun q hq => S.N q (.tail _ hq)
  have hi : ∀ k, k < 8 → (isP w.params news n g (.ref (rs k)) = true ↔ vs k = g) := fun k hk => isP_iff N0 (hr k hk)
  have hit : ∀ i (hi : i < (#[Value.ref (rs 0), .ref (rs 1), .ref (rs 2), .ref (rs 3), .ref (rs 4), .ref (rs 5), .ref (rs 6), .ref (rs 7)] : Array Value).size), (#[Value.ref (rs 0), .ref (rs 1), .ref (rs 2), .ref (rs 3), .ref (rs 4), .ref (rs 5), .ref (rs 6), .ref (rs 7)] : Array Value)[i] = .ref (rs i) := by
    intro i hi
    have hi' : i < 8 := hi
    have : i = 0 ∨ i = 1 ∨ i = 2 ∨ i = 3 ∨ i = 4 ∨ i = 5 ∨ i = 6 ∨ i = 7 := by omega
    rcases this with rfl | rfl | rfl | rfl | rfl | rfl | rfl | rfl <;> rfl
  refine index_listI (I := EqSt h₀ L m tb news s) (items := #[Value.ref (rs 0), .ref (rs 1), .ref (rs 2), .ref (rs 3), .ref (rs 4), .ref (rs 5), .ref (rs 6), .ref (rs 7)]) (n := k) (isP w.params news n g) (fun s' hs' => ?_) (fun y hy => ?_) ⟨s.heap, s.toks, rfl, S.F, S.N⟩ (2 * j) (show 2 * j < 8 by omega) (by omega) ?_ (fun i hm hlt => ?_) fun s' hs' => ?_
  · obtain ⟨h', tk', rfl, F', N'⟩ := hs'
    exact (N' _ (.tail _ hl)).1
  · obtain ⟨i, hi', rfl⟩ := Array.getElem_of_mem hy
    rw [hit i hi']
    exact eqP S (hr i hi') hc
  · rw [hit _ (show 2 * j < 8 by omega)]
    exact (hi _ (by omega)).mpr hv
  · rw [hit _ hm]
    have hm' : i < 8 := hm
    cases hb : isP w.params news n g (.ref (rs i)) with
    | false => rfl
    | true =>
      have h1 := (hi _ hm').mp hb
      have h2 := hd i (2 * j) hm' (by omega) (h1.trans hv.symm)
      omega
  · obtain ⟨h', tk', rfl, F', N'⟩ := hs'
    exact h _ _ _ F' N'
theorem item_mine {Q : Value → Shared → Prop} {prog : Program} {A : Around} {l : Addr} {k j : Nat} {i : Int} {t : Tok} {rs : Nat → Addr} {value slice : PySem.Expr} {nw : List (Addr × Obj)} (N : News h₀ L s.heap nw)
    (hl : (l, ({ cls := .type "list", data := .seq #[.ref (rs 0), .ref (rs 1), .ref (rs 2), .ref (rs 3), .ref (rs 4), .ref (rs 5), .ref (rs 6), .ref (rs 7)] k } : Obj)) ∈ nw) (hj : j < 4) (he : i = (j : Int)) (h : Q (.ref (rs j)) s)
    (hs : subscripted slice false (.ref l) (.int i t) = operate [.ref l, .int i t] (getItem (.ref l) (.int i t))) (hg : ∀ r, letTemporaryGo value (.ref l) r = pure ()) :
    wpAny (model prog w) A (subscriptTail value slice (.ref l) (.int i t)) Q E s := by
  subst he
  refine item_list (x := .ref (rs j)) ⟨_, (N _ hl).1, rfl, k, rfl⟩ (by omega) (by omega) ?_ h hs hg
  have : j = 0 ∨ j = 1 ∨ j = 2 ∨ j = 3 := by omega
  rcases this with rfl | rfl | rfl | rfl <;> rfl
end
end T9_part
/-! C15 -/
section C15_part
open PySem PySem.W PyProof.Rows PySem.Calls
def Hold (P : Prop) : Prop := P
theorem Hold.out {P : Prop} (h : Hold P) : P := h
section
variable {w : World} {p : Program} {loose : List Str} {mean : ExcName → Option Value} {mg mb : Str → Option Value} {dp un : Nat} {gd : Option (List Code)} {cn : Str} {cs : Scope} {a : Addr} {ccd : Value} {cl : List (Str × Addr)} {outer : List Env} {A₀ : Around} {base h₀ : Heap} {L : Addr} {m : Str → Option Value} {tb : Obj} {news : List (Addr × Obj)} {s : Shared} {Q E : Value → Shared → Prop}
theorem expo (P : Nat) (h1 : 1 ≤ P) : ((P : Int) ^ Int.toNat 2 - 1 + 8).fdiv 16 = (((P * P + 7) / 16 : Nat) : Int) := by
  rw [Int.fdiv_eq_ediv_of_nonneg _ (by omega)]
  have e : ((P : Int) ^ Int.toNat 2 - 1 + 8) = ((P * P + 7 : Nat) : Int) := by
    have : Int.toNat 2 = 2 := rfl
    rw [this, Int.pow_succ, Int.pow_succ, Int.pow_zero, Int.one_mul]
    push_cast
    omega
  rw [e]
  rfl
/-- the candidate, the check and the found root -/
def sqC (P : Nat) (v : G) : G := pw (P : Int) 13 ((P * P + 7) / 16) (1, 0) v
def sqK (P : Nat) (c u : G) : G := red (P : Int) (gm (pw (P : Int) 2 2 (1, 0) c) u)
def sqX (P : Nat) (c u : G) : G := red (P : Int) (gm c u)
def sqN (P : Nat) (a : G) : G := ((-a.1).fmod (P : Int), (-a.2).fmod (P : Int))
def SqR (P : Nat) (a r : G) : Prop := (r = a ∧ ((sqN P a).2 < a.2 ∨ (a.2 = (sqN P a).2 ∧ (sqN P a).1 < a.1))) ∨ (r = sqN P a ∧ ¬ ((sqN P a).2 < a.2 ∨ (a.2 = (sqN P a).2 ∧ (sqN P a).1 < a.1)))
theorem pw_rg {n : Int} (h2 : 1 < n) : ∀ (f e : Nat) (o t : G), Rg n o → Rg n (pw n f e o t)
  | 0, _, _, _, h => h
  | f + 1, e, o, t, h => by
    simp only [pw]
    split
    · exact h
    · refine pw_rg h2 f _ _ _ ?_
      split
      · exact red_rg (by omega) _
      · exact h
theorem rg_one {n : Int} (h2 : 1 < n) : Rg n (1, 0) := ⟨⟨by decide, h2⟩, ⟨by decide, by show (0 : Int) < n; omega⟩⟩
theorem powI {ax ad aml amp acf amt : Addr} {n x y e : Int} {k F0 : Nat} {te : Tok} {res : G} (S : Sit w p loose mean mg mb 8 dp un cs outer A₀ base h₀ L m tb news s)
    (ha : FqAt w.params news ax ad aml amp acf amt n x y) (h2 : 1 < n) (h3 : n < 1000) (hx : 0 ≤ x ∧ x < n) (hy : 0 ≤ y ∧ y < n) (he : e = (k : Int)) (hk2 : k < 2 ^ F0) (hres : pw n F0 k (1, 0) (x, y) = res)
    (hret : RetO w h₀ L m news s Q amt n res.1 res.2) :
    wpAny (model PySem.Challenge.rw_kh0013_01.row.prog w) (ktrTop dp un gd cn cs L a ccd cl outer) (call (.ref 102) [.ref ax, .int e te]) Q E s := by
  subst he
  exact pow S ha h2 h3 hx hy hk2 hres hret
set_option maxRecDepth 100000 in
set_option maxHeartbeats 4000000 in
theorem sqrt {ax ad aml amp acf amt : Addr} {rl : Addr} {rs : Nat → Addr} {vs : Nat → G} {P : Nat} {x y : Int} {kr : Nat} (S : Sit w p loose mean mg mb 14 dp un cs outer A₀ base h₀ L m tb news s)
    (ha : FqAt w.params news ax ad aml amp acf amt (P : Int) x y) (hrl : (rl, ({ cls := .type "list", data := .seq #[.ref (rs 0), .ref (rs 1), .ref (rs 2), .ref (rs 3), .ref (rs 4), .ref (rs 5), .ref (rs 6), .ref (rs 7)] kr } : Obj)) ∈ news)
    (hr : ∀ k, k < 8 → RtAt w.params news (rs k) (P : Int) (vs k)) (hd : ∀ i j, i < 8 → j < 8 → vs i = vs j → i = j) (hrg : ∀ k, k < 4 → Rg (P : Int) (vs k)) (hrn : ∀ k, k < 4 → nm (vs k) % (P : Int) ≠ 0)
    (h2 : 1 < (P : Int)) (h3 : (P : Int) < 1000) (hx : 0 ≤ x ∧ x < (P : Int)) (hy : 0 ≤ y ∧ y < (P : Int)) 
    (h1 : 1 ≤ P) (hk13 : (P * P + 7) / 16 < 2 ^ 13)
    (hP : ∀ a, 1 ≤ a → a < (P : Int) → Int.gcd a (P : Int) = 1) (hn : (x * x + y * y) % (P : Int) ≠ 0)
    (hnone : ∀ u v, InvR u v x y P → (∀ j, j < 4 → vs (2 * j) ≠ sqK P (sqC P (x, y)) (u, v)) → ∀ tb' rows h' g' tk', AllBare g' → TabOk tb' → Fr h₀ L h' m → News h₀ L h' ((51, tb') :: rows) → (∀ p ∈ news, p ∈ rows) → (∀ p ∈ rows, p.1 ≠ 51) → Q .none { s with heap := h', gens := g', toks := tk' })
    (hsome : ∀ u v j u' v' r, InvR u v x y P → j < 4 → vs (2 * j) = sqK P (sqC P (x, y)) (u, v) → InvR u' v' (vs j).1 (vs j).2 P → SqR P (sqX P (sqC P (x, y)) (u', v')) r → RetO w h₀ L m news s Q amt P r.1 r.2) :
    wpAny (model PySem.Challenge.rw_kh0013_01.row.prog w) (ktrTop dp un gd cn cs L a ccd cl outer) (call (.ref 28) [.ref ax, .ref rl]) Q E s := by
  k_with_none
  k_with "mine_fold" => first | (have F8 := F7; have N8 := N7; clear F8 N8) | (rename Fr _ _ _ _ => F7; rename News _ _ _ _ => N7; revert F7 N7; refine let_FN ?_; intro m7 n7 F7 N7)
  k_with "execs cons" => ((try dsimp only); first | (refine let_one ?_; intro s7 Qk) | (refine let_cons ?_; intro s7 Qk Qk))
  k_with "mine_step" => (first | (with_reducible show Qk _ _; dsimp only [Qk]; clear Qk) | (k_unfold; (try dsimp only)) | (k_end; kc_close) | walk1 | (dsimp only; walk1) | (leave1; walk_say "STEP leave1"; (try dsimp only)))
  k_with "CompRest" => (with_unfolding_all first | (refine LCg.CompRest.succ ?_; intro v9' I9' oI9' C9' oC9' D9' m9' h9' tk9' E9' hv9' hC9' hx9' F9' N9' off9' ne9'; clear ne9'; (first | lcg_open hv9' | (obtain ⟨t99', hv99'⟩ := hv9'; subst hv99'))) | refine LCg.CompRest.zero ?_)
  k_with "CompEnd" => (k_here; (refine' LCg.CompEnd.intro ?F_1 ?N_1 _ (fun p hp => hp) ?off_1 ?S_1 ?_); (case F_1 => k_asm); (case N_1 => k_asm); (case off_1 => assumption); (case S_1 => (refine' srcAt_led ?m9_1; (case m9_1 => k_mem))))
  k_with "FinE" => ((unfold LCg.FinE); intro D9' h9' tk9' F9' N9' o19'; (have o519' := Ne51.intro (off1_ne (a := 51) o19' (by k_dflt k_mem))); (try simp only [List.nil_append, List.cons_append] at N9'); (try dsimp only))
  k_with "eval ListComp" => (k_here; k_dflt (refine LCg.ListComp_U (F₀ := by k_asm) (by with_unfolding_all rfl) (by decide) (by rfl) (by decide) (by rfl) ?_); k_dflt lcg_toSrc)
  k_with "CompSrc" => (k_here; k_dflt (refine LCg.CompSrc.ledger (by rfl) (by k_asm) (by k_asm) (by k_mem) (by first | size_fits | exact Nat.le_of_ble_eq_true rfl) ?_; intro g9'; lcg_lit))
  k_with "exec For Name Call cons nil" => (k_here; (rename Fr _ _ _ _ => lF9'); (with_unfolding_all refine' For_turns lF9' ?_; k_whole))
  k_with "pyIter ref" => (k_here; (with_reducible show wpAny _ _ (pyIter (Value.ref _)) (fun it s₂ => TurnsAt _ _ _ _ _ _ _ _ _ it s₂) _ _); (with_reducible rename IsRange _ _ _ _ _ _ _ _ => rX9'); with_unfolding_all (first | (refine' range_turns (xs := [Itm.tok (fun t => Value.int (0 : Int) t)]) ?hh_6 ?F_6 ?N_6 rX9' ?sm_6 ?hn_6 ?hx_6 ?_; (case hn_6 => decide +kernel); (case sm_6 => decide +kernel); (case hx_6 => rfl)) | (refine' range_turns (xs := [Itm.tok (fun t => Value.int (1 : Int) t), Itm.tok (fun t => Value.int (0 : Int) t)]) ?hh_6 ?F_6 ?N_6 rX9' ?sm_6 ?hn_6 ?hx_6 ?_; (case hn_6 => decide +kernel); (case sm_6 => decide +kernel); (case hx_6 => rfl)) | (refine' range_turns (xs := [Itm.tok (fun t => Value.int (0 : Int) t), Itm.tok (fun t => Value.int (1 : Int) t)]) ?hh_6 ?F_6 ?N_6 rX9' ?sm_6 ?hn_6 ?hx_6 ?_; (case hn_6 => decide +kernel); (case sm_6 => decide +kernel); (case hx_6 => rfl)) | (refine' range_turns (xs := [Itm.tok (fun t => Value.int (0 : Int) t), Itm.tok (fun t => Value.int (1 : Int) t), Itm.tok (fun t => Value.int (2 : Int) t)]) ?hh_6 ?F_6 ?N_6 rX9' ?sm_6 ?hn_6 ?hx_6 ?_; (case hn_6 => decide +kernel); (case sm_6 => decide +kernel); (case hx_6 => rfl)) | (refine' range_turns (xs := [Itm.tok (fun t => Value.int (2 : Int) t), Itm.tok (fun t => Value.int (1 : Int) t), Itm.tok (fun t => Value.int (0 : Int) t)]) ?hh_6 ?F_6 ?N_6 rX9' ?sm_6 ?hn_6 ?hx_6 ?_; (case hn_6 => decide +kernel); (case sm_6 => decide +kernel); (case hx_6 => rfl)) | (refine' range_turns (xs := []) ?hh_6 ?F_6 ?N_6 rX9' ?sm_6 ?hn_6 ?hx_6 ?_; (case hn_6 => decide +kernel); (case sm_6 => decide +kernel); (case hx_6 => rfl))); (case hh_6 => rfl); (case F_6 => k_asm); (case N_6 => k_asm); clear rX9'; intro i9' l19; (have o1x9' := off1_lt l19); (have l1y9' := LtAll.intro l19); (try k_lt l19))
  k_with "call type:enumerate" => (k_here; k_dflt (refine' enum_make ?F_7 ?N_7 ?m_7 ?_); (case F_7 => k_asm); (case N_7 => k_asm); (case m_7 => k_mem); intro e9' h9' F9' N9' eX9'; (try k_sweep))
  k_with "call type:enumerate" => (k_here; (with_reducible show wpAny _ _ (call (Value.type _) [Value.ref _]) (fun xv s₁ => wpAny _ _ (pyIter xv) (fun it s₂ => TurnsAt _ _ _ _ _ _ _ _ _ it s₂) _ s₁) _ _); with_unfolding_all (refine' enum_turns (vs := [_, _]) (xs := [Itm.pair (fun t => Value.int (0 : Int) t) _, Itm.pair (fun t => Value.int (1 : Int) t) _]) ?hh_8 ?F_8 ?N_8 ?hm_8 ?hc_8 ?hd_8 ?hx_8 ?_; (case hh_8 => rfl); (case F_8 => k_asm); (case N_8 => k_asm); (case hm_8 => k_mem); (case hc_8 => rfl); (case hd_8 => rfl); (case hx_8 => rfl)); intro i9' l19; (try k_lt l19))
  k_with "call type:list" => (k_here; (rename EnumF _ _ _ _ _ _ _ => eX9'); k_dflt (refine' enum_list ?hh_9 ?F_9 ?N_9 eX9' ?_); (case hh_9 => rfl); (case F_9 => k_asm); (case N_9 => k_asm); intro S9' T19' T29' k19' k29' c9' h9' tk9' F9' N9' l19 l29 l39; clear eX9'; (try k_lt l19); (try k_lt2 l29); (try k_lt2 l39); (try k_sweep))
  k_with "exec For Tuple Call cons nil" => (k_here; (rename Fr _ _ _ _ => lF9'); (with_unfolding_all refine' For_turns lF9' ?_; k_whole))
  k_with "exec For Tuple Attribute cons nil" => (k_here; (rename Fr _ _ _ _ => lF9'); (with_unfolding_all refine' For_turns lF9' ?_; k_whole))
  k_with "mine_enterC" => (refine' enter_defC ?k1_12 ?k2_12 ?k3_12 ?k4_12 ?k5_12 ?kA_12 ?kF_12 ?kK_12 ?k6_12 ?k7_12 ?k8_12 ?k9_12 ?kB_12 ?kD_12 ?_ ?c2_12 ?c3_12 ?c4_12; (case kA_12 => exact rfl); (case kF_12 => exact rfl); (case kK_12 => first | exact rfl | assumption); (case k1_12 => k_asm); (case k2_12 => k_asm); (case k3_12 => k_asm); (case k4_12 => k_asm); (case k5_12 => k_asm); (case k6_12 => k_is); (case k7_12 => k_is); (case k8_12 => ktr_room); (case k9_12 => exact BindsTo.of_eq rfl); (case kB_12 => exact rfl); (case kD_12 => decide +kernel); (case c2_12 => exact rfl); (case c3_12 => exact rfl); (case c4_12 => exact rfl); k_whole; intro g9' L9' h9' tk9' cells9' FG9' F9' N9' Y9' B9' X9' T9' l19 hBs; (have o2x9' := off1_lt (all_lt_succ l19)); (try k_lt l19); k_cells Y9'; (try simp only [List.cons_append, List.nil_append] at N9'); (try dsimp only); (try k_lift B9'); (try k_fold))
  k_with "eval ListComp" => (k_here; (with_reducible show wpAny _ _ (eval (PySem.Expr.ListComp (PySem.Expr.Tuple _ _ _) _ _ _) _) _ _ _); k_dflt (refine mc_comp (by with_unfolding_all rfl) (by with_unfolding_all rfl) (by decide) (by rfl) (by decide) (by rfl) (by rfl) (by decide) (by decide) (by decide) ?_))
  k_with "call type:enumerate" => (k_here; (with_reducible show wpAny _ _ (call (Value.type _) [Value.ref _]) (McSrc _) _ _); k_dflt (refine' mc_call ?F_14 ?N_14 ?m_14 ?_; (case F_14 => k_asm); (case N_14 => k_asm); (case m_14 => k_mem)); intro D9' T9' ti9' h9' tk9' F9' N9' l19 l29; (try k_lt l19); (try k_lt2 l29); (try k_sweep))
  k_with "mine_split" => (repeat' (first | exact Split.here | apply Split.skip))
  k_with "eval GeneratorExp" => (k_here; k_dflt (refine' gen_make ?F_16 (Split.toNews ?N_16 ?sp_16) ?h51_16 ?tb_16 ?G_16 ?X_16 ?T_16 ?hh_16 ?hcode_16 ?hgl_16 ?room_16 ?hek_16 ?hey_16 ?hdy_16 ?hvy_16 ?hml_16 ?hmc_16 ?hoc_16 ?hms_16 ?hmd_16 ?hfm_16 ?hq_16 ?hco_16 ?hclos_16 ?hcell_16 ?h0_16 ?hx_16 ?hsn_16 ?hkind_16 ?hdx_16 ?hds_16 ?hdc_16 ?_); (case F_16 => k_asm); (case N_16 => k_asm); (case sp_16 => walk_at "mine_split"); (case h51_16 => k_all); (case tb_16 => assumption); (case G_16 => assumption); (case X_16 => k_asm); (case T_16 => k_asm); (case hh_16 => rfl); (case hcode_16 => rfl); (case hgl_16 => rfl); (case room_16 => ktr_room); (case hek_16 => rfl); (case hey_16 => with_unfolding_all rfl); (case hdy_16 => decide); (case hvy_16 => with_unfolding_all rfl); (case hml_16 => k_mem); (case hclos_16 => with_unfolding_all rfl); (case hmc_16 => k_mem); (case hoc_16 => assumption); (case hms_16 => k_mem); (case hmd_16 => k_mem); (case hfm_16 => k_get); (case hq_16 => omega); (case hco_16 => rfl); (case hcell_16 => decide); (case h0_16 => rfl); (case hx_16 => rfl); (case hsn_16 => rfl); (case hkind_16 => rfl); (case hdx_16 => decide); (case hds_16 => decide); (case hdc_16 => decide); intro a9' tb9' h9' g9' tk9' G9' TB9' F9' N9' X9'; (try k_sweep))
  k_with "call type:tuple" => (k_here; k_dflt (refine' call_tuple_tup ?T_17 ?_); (case T_17 => exact News.isTup (by k_asm) (by k_mem)); (try dsimp only))
  k_with "call type:tuple" => (k_here; (rename GenR _ _ _ _ _ _ _ _ _ _ => gX9'); k_dflt (refine' gen_tuple ?F_18 ?N_18 ?G_18 gX9' ?_); (case F_18 => k_asm); (case N_18 => k_asm); (case G_18 => assumption); intro D9' t19' t29' h9' g9' tk9' G9' F9' N9' l19; clear gX9'; (try k_lt l19); (try k_sweep))
  k_with "mine_reg" => (w_on; (have _h : (PySem.Challenge.rw_kh0013_01 = PySem.Challenge.rw_kh0013_01) ∧ (Mine.hd.heap_1 = Mine.hd.heap_1) := by (k_fill; exact ⟨rfl, rfl⟩)); clear _h)
  k_with "mine_enter" => (refine' enter_def ?k1_20 ?k2_20 ?k3_20 ?k4_20 ?k5_20 ?kA_20 ?kF_20 ?kK_20 ?k6_20 ?k7_20 ?k8_20 ?k9_20 ?kB_20 ?_ ?c2_20 ?c3_20 ?c4_20 ?c5_20; (case kA_20 => exact rfl); (case kF_20 => exact rfl); (case kK_20 => first | exact rfl | assumption); (case k1_20 => k_asm); (case k2_20 => k_asm); (case k3_20 => k_asm); (case k4_20 => k_asm); (case k5_20 => k_asm); (case k6_20 => k_is); (case k7_20 => k_is); (case k8_20 => ktr_room); (case k9_20 => exact BindsTo.of_eq rfl); (case c5_20 => decide); (case kB_20 => exact locs rfl); (case c2_20 => exact rfl); (case c3_20 => exact rfl); (case c4_20 => exact rfl); k_whole; intro g9' L9' h9' FG9' F9' N9' B9' X9' T9' hBs; (try dsimp only); (try k_lift B9'); (try k_fold))
  k_with "mine_sit" => (refine' Sit.mk ?B_21 ?F_21 ?X_21 (Split.toNews ?N_21 ?sp_21) ?T_21 ?hk_21 ?G_21 ?TB_21 ?n51_21 ?hdp_21 ?hun_21; (case B_21 => k_asm); (case F_21 => k_asm); (case X_21 => k_asm); (case N_21 => k_asm); (case sp_21 => walk_at "mine_split"); (case T_21 => k_asm); (case hk_21 => first | exact rfl | assumption); (case G_21 => assumption); (case TB_21 => assumption); (case n51_21 => first | assumption | k_all); (case hdp_21 => ktr_room); (case hun_21 => ktr_units))
  k_with "mine_ret" => (intro x9' d9' ml9' mp9' cf9' tb9' h9' g9' tk9' e19' e29' e39' e49' e59' e69' e79' q19' q29' r19' r29' G9' TB9' F9' N9' l19 l29 l39 l49 l59; (have l1o9' := l19); (have o1x9' := off1_lt l19); (have l1y9' := LtAll.intro l19); (have o2x9' := off1_lt (all_lt_trans l19 l29)); (have o3x9' := off1_lt (all_lt_trans (all_lt_trans l19 l29) l39)); (have o4x9' := off1_lt (all_lt_trans (all_lt_trans (all_lt_trans l19 l29) l39) l49)); (have o5x9' := off1_lt (all_lt_trans (all_lt_trans (all_lt_trans (all_lt_trans l19 l29) l39) l49) l59)); (try k_lt l19); k_lt2 l29; k_lt2 l39; k_lt2 l49; k_lt2 l59; (try k_sweep); (try dsimp only))
  k_with "call ref" => (k_here; (with_reducible show wpAny _ _ (call (Value.ref 192) _) _ _ _); k_dflt (refine' mkS ?S_23 ?hlc_23 ?hmt_23 ?h2_23 ?h3_23 ?_); (case S_23 => walk_at "mine_sit"); (case hlc_23 => k_mem); (case hmt_23 => k_mem); (case h2_23 => first | assumption | omega); (case h3_23 => first | assumption | omega); walk_at "mine_ret")
  k_with "mine_fq" => (refine' And.intro ?f1_24 (And.intro (Exists.intro _ (Exists.intro _ (Exists.intro _ (Exists.intro _ (Exists.intro _ (Exists.intro _ (Exists.intro _ ?f2_24))))))) (And.intro ?f3_24 (And.intro (Exists.intro _ (Exists.intro _ ?f4_24)) (And.intro (Exists.intro _ (Exists.intro _ ?f5_24)) (Exists.intro _ (Exists.intro _ (Exists.intro _ ?f6_24))))))); (case f1_24 => k_mem); (case f2_24 => k_mem); (case f3_24 => k_mem); (case f4_24 => k_mem); (case f5_24 => k_mem); (case f6_24 => k_mem))
  k_with "call ref" => (k_here; (with_reducible show wpAny _ _ (call (Value.ref 181) _) _ _ _); k_dflt (refine' made ?S_25 ?hS_25 ?hlc_25 ?h2_25 ?h3_25 ?_); (case S_25 => walk_at "mine_sit"); (case hS_25 => walk_at "mine_fq"); (case hlc_25 => k_mem); (case h2_25 => first | assumption | omega); (case h3_25 => first | assumption | omega); walk_at "mine_ret")
  k_with "mine_lt" => ((repeat (first | exact allLt_nil | refine allLt_cons (by first | (refine' lt_mem ?lm_26 ?mm_26; (case lm_26 => with_reducible assumption); (case mm_26 => ((repeat (first | exact List.Mem.head _ | refine List.Mem.tail _ ?_)); done))) | omega) ?_)); done)
  k_with "UnrEndW" => k_dflt (first | (refine' unr_end2 ?F_27 ?N_27 ?l_27 ?k_27 ?_; (case F_27 => k_asm); (case N_27 => k_asm); (case l_27 => walk_at "mine_lt"); (case k_27 => k_subL)) | (refine' unr_end1 ?F_27 ?N_27 ?l_27 ?k_27 ?_; (case F_27 => k_asm); (case N_27 => k_asm); (case l_27 => walk_at "mine_lt"); (case k_27 => k_subL)))
  k_with "getItem ref int" => (k_here; (with_reducible show wpAny _ _ (getItem (Value.ref _) (Value.int _ _)) _ _ _); k_dflt (refine' get_here ?N_28 ?m_28 ?a_28 ?b_28 ?x_28 ?_; (case N_28 => k_asm); (case m_28 => k_mem); (case a_28 => decide); (case b_28 => decide); (case x_28 => rfl); k_whole))
  k_with "subscriptTail" => (k_here; (with_reducible show wpAny _ _ (subscriptTail _ _ (Value.ref _) (Value.int _ _)) _ _ _); with_unfolding_all (first | (refine' item_tupleT ?t_29 ?a_29 ?b_29 ?c_29 ?d_29 ?_ ?e_29; (case t_29 => exact News.isTup (by k_asm) (by k_mem)); (case a_29 => decide); (case b_29 => decide); (case c_29 => rfl); (case d_29 => rfl); (case e_29 => with_unfolding_all rfl); k_whole) | (refine' sub_here ?N_29 ?m_29 ?k2_29 ?k3_29 ?k4_29 ?_ ?k6_29; (case N_29 => k_asm); (case m_29 => k_mem); (case k2_29 => decide); (case k3_29 => decide); (case k4_29 => rfl); (case k6_29 => with_unfolding_all rfl); k_whole)))
  k_with "setItem ref int" => (k_here; k_dflt (refine' ki_set ?F_30 ?N_30 ?a_30 ?b_30 ?e_30 ?U_30 ?_; (case F_30 => k_asm); (case N_30 => k_asm); (case U_30 => k_upd); (case a_30 => decide); (case b_30 => decide); (case e_30 => rfl)); ki_rest)
  k_with "binaryOp Mult ref int" => (k_here; (with_reducible show wpAny _ _ (binaryOp Operator.Mult (Value.ref _) (Value.int _ _)) _ _ _); k_dflt (refine' KMa.mul ?F_31 ?N_31 ?l_31 ?lo_31 ?hi_31 ?z_31 ?e_31 ?_; (case F_31 => k_asm); (case N_31 => k_asm); (case l_31 => is_list); (case lo_31 => first | omega | decide); (case hi_31 => first | omega | decide); (case z_31 => (simp only [List.length_cons, List.length_nil]; decide)); (case e_31 => (simp only [Int.reduceMul, Int.reduceSub, Int.reduceAdd, Int.reduceToNat, List.replicate_succ, List.replicate_zero, List.flatten_cons, List.flatten_nil, List.cons_append, List.nil_append, List.append_nil]; first | done | exact rfl)); k_whole); intro D9' h9' F9' N9' l19; (have o1x9' := off1_lt l19); (have l1y9' := LtAll.intro l19); (try k_lt l19); (try k_sweep))
  k_with "subscriptTail Name Name ref int" => (k_here; k_dflt (refine' sub_here ?N_32 ?m_32 ?k2_32 ?k3_32 ?k4_32 ?_ ?k6_32; (case N_32 => k_asm); (case m_32 => k_mem); (case k2_32 => decide); (case k3_32 => decide); (case k4_32 => rfl); (case k6_32 => with_unfolding_all rfl); k_whole); (try dsimp only))
  k_with "subscriptTail Name BinOp ref int" => (k_here; k_dflt (refine' sub_here ?N_33 ?m_33 ?k2_33 ?k3_33 ?k4_33 ?_ ?k6_33; (case N_33 => k_asm); (case m_33 => k_mem); (case k2_33 => decide); (case k3_33 => decide); (case k4_33 => rfl); (case k6_33 => with_unfolding_all rfl); k_whole); (try dsimp only))
  k_with "subscriptTail Name Constant ref int" => (k_here; k_dflt (refine' sub_here ?N_34 ?m_34 ?k2_34 ?k3_34 ?k4_34 ?_ ?k6_34; (case N_34 => k_asm); (case m_34 => k_mem); (case k2_34 => decide); (case k3_34 => decide); (case k4_34 => rfl); (case k6_34 => with_unfolding_all rfl); k_whole); (try dsimp only))
  k_with "mine_fq" => (first | exact (by with_reducible assumption) | exact (FqAt.tail (by with_reducible assumption)) | exact (FqAt.tail (FqAt.tail (by with_reducible assumption))) | exact (FqAt.tail (FqAt.tail (FqAt.tail (by with_reducible assumption)))) | exact (FqAt.tail (FqAt.tail (FqAt.tail (FqAt.tail (by with_reducible assumption))))) | exact (FqAt.tail (FqAt.tail (FqAt.tail (FqAt.tail (FqAt.tail (by with_reducible assumption)))))) | exact (FqAt.tail (FqAt.tail (FqAt.tail (FqAt.tail (FqAt.tail (FqAt.tail (by with_reducible assumption))))))) | exact (FqAt.tail (FqAt.tail (FqAt.tail (FqAt.tail (FqAt.tail (FqAt.tail (FqAt.tail (by with_reducible assumption)))))))) | exact (FqAt.tail (FqAt.tail (FqAt.tail (FqAt.tail (FqAt.tail (FqAt.tail (FqAt.tail (FqAt.tail (by with_reducible assumption))))))))) | exact (FqAt.tail (FqAt.tail (FqAt.tail (FqAt.tail (FqAt.tail (FqAt.tail (FqAt.tail (FqAt.tail (FqAt.tail (by with_reducible assumption)))))))))) | exact (FqAt.tail (FqAt.tail (FqAt.tail (FqAt.tail (FqAt.tail (FqAt.tail (FqAt.tail (FqAt.tail (FqAt.tail (FqAt.tail (by with_reducible assumption))))))))))) | exact (FqAt.tail (FqAt.tail (FqAt.tail (FqAt.tail (FqAt.tail (FqAt.tail (FqAt.tail (FqAt.tail (FqAt.tail (FqAt.tail (FqAt.tail (by with_reducible assumption)))))))))))) | exact (FqAt.tail (FqAt.tail (FqAt.tail (FqAt.tail (FqAt.tail (FqAt.tail (FqAt.tail (FqAt.tail (FqAt.tail (FqAt.tail (FqAt.tail (FqAt.tail (by with_reducible assumption))))))))))))) | exact (FqAt.tail (FqAt.tail (FqAt.tail (FqAt.tail (FqAt.tail (FqAt.tail (FqAt.tail (FqAt.tail (FqAt.tail (FqAt.tail (FqAt.tail (FqAt.tail (FqAt.tail (by with_reducible assumption)))))))))))))) | exact (FqAt.tail (FqAt.tail (FqAt.tail (FqAt.tail (FqAt.tail (FqAt.tail (FqAt.tail (FqAt.tail (FqAt.tail (FqAt.tail (FqAt.tail (FqAt.tail (FqAt.tail (FqAt.tail (by with_reducible assumption))))))))))))))) | exact (FqAt.tail (FqAt.tail (FqAt.tail (FqAt.tail (FqAt.tail (FqAt.tail (FqAt.tail (FqAt.tail (FqAt.tail (FqAt.tail (FqAt.tail (FqAt.tail (FqAt.tail (FqAt.tail (FqAt.tail (by with_reducible assumption)))))))))))))))) | exact FqAt.mk6 (by k_dflt k_mem) (by k_dflt k_mem) (by k_dflt k_mem) (by k_dflt k_mem) (by k_dflt k_mem) (by k_dflt k_mem))
  k_with "binaryOp Div ref ref" => (k_here; (with_reducible show wpAny _ _ (binaryOp _ (Value.ref _) (Value.ref _)) _ _ _); k_dflt (refine' binop_K ?k1_36 ?k2_36 ?k3_36 ?k4_36 ?k5_36 ?k6_36 ?k7_36 ?_; (case k1_36 => k_asm); (case k2_36 => k_asm); (case k3_36 => k_inst); (case k4_36 => k_typeOf); (case k5_36 => k_is); (case k6_36 => k_is); (case k7_36 => k_is); k_whole))
  k_with "subscriptTail Name Slice ref ref" => (k_here; refine Hold.out ?_)
  k_with "compareOp In ref ref" => (k_here; refine Hold.out ?_)
  k_with "call builtin:list.index" => (k_here; refine Hold.out ?_)
  k_with "mine_ne" => (refine neN ?_; (try dsimp only); first | (with_reducible assumption) | ((refine Ne51.ne ?_); with_reducible assumption) | ((refine Ne51.ne' ?_); with_reducible assumption) | (refine' off1_ne ?o1 ?m1; (case o1 => with_reducible assumption); (case m1 => ((repeat (first | exact List.Mem.head _ | refine List.Mem.tail _ ?_)); done))) | (refine' Ne.symm (off1_ne ?o1 ?m1); (case o1 => with_reducible assumption); (case m1 => ((repeat (first | exact List.Mem.head _ | refine List.Mem.tail _ ?_)); done))) | omega)
  walk_at "mine_reg"
  obtain ⟨B, F, X, N, T, hk, G, TB, n51, hdp, hun⟩ := S
  have haW := ha
  obtain ⟨ha1, ⟨ae1, ae2, ae3, ae4, ae5, ae6, ae7, ha2⟩, ha3, ⟨aq1, aq2, ha4⟩, ⟨ar1, ar2, ha5⟩, at1, at2, ak, ha6⟩ := ha
  refine wpAny_call ?_
  k_dflt (walk_at "mine_enter")
  clear N
  refine let_entry ?_
  intro M9 A9 e9 E9 Qk
  w_strict (repeat' (k_extra "mine_step"))
  have he : ((P : Int) ^ Int.toNat 2 - 1 + 8).fdiv 16 = (((P * P + 7) / 16 : Nat) : Int) := expo P h1
  k_dflt (refine' powI (F0 := 13) (k := (P * P + 7) / 16) ?S1 haW h2 h3 hx hy he hk13 rfl ?_; (case S1 => walk_at "mine_sit"))
  intro c cd cml cmp ccf tb1 rows1 g1h g1 g1t G1 TB1 F1 N1 sub1 n51a f1
  have haW1 := haW.sub sub1
  have f1c := f1
  unfold FqAt at f1c
  obtain ⟨m1a, ⟨_, _, _, _, _, _, _, m1b⟩, m1c, ⟨_, _, m1d⟩, ⟨_, _, m1e⟩, _, _, _, m1f⟩ := f1c
  (try dsimp only [PySem.W.CmpBack])
  w_strict (repeat' (k_extra "mine_step"))
  have R1 := pw_rg h2 13 ((P * P + 7) / 16) (1, 0) (x, y) (rg_one h2)
  k_dflt (refine' powI (F0 := 2) (k := 2) (e := 2) ?S2 f1 h2 h3 R1.1 R1.2 rfl (by decide) rfl ?_; (case S2 => walk_at "mine_sit"))
  intro c2 c2d c2ml c2mp c2cf tb2 rows2 g2h g2 g2t G2 TB2 F2 N2 sub2 n51b f2
  have haW2 := haW1.sub sub2
  have haW2c := haW2
  unfold FqAt at haW2c
  obtain ⟨mv2a, ⟨_, _, _, _, _, _, _, mv2b⟩, mv2c, ⟨_, _, mv2d⟩, ⟨_, _, mv2e⟩, _, _, _, mv2f⟩ := haW2c
  have f1b := f1.sub sub2
  have f2c := f2
  unfold FqAt at f2c
  obtain ⟨m2a, ⟨_, _, _, _, _, _, _, m2b⟩, m2c, ⟨_, _, m2d⟩, ⟨_, _, m2e⟩, _, _, _, m2f⟩ := f2c
  (try dsimp only [PySem.W.CmpBack])
  w_strict (repeat' (k_extra "mine_step"))
  have R2 := pw_rg h2 2 2 (1, 0) (pw (P : Int) 13 ((P * P + 7) / 16) (1, 0) (x, y)) (rg_one h2)
  k_dflt (refine' divF ?S3 f2 haW2 h2 h3 hP R2.1 R2.2 hx hy hn ?_; (case S3 => walk_at "mine_sit"))
  intro u v huv ck ckd ckml ckmp ckcf tb3 rows3 g3h g3 g3t G3 TB3 F3 N3 sub3 n51c f3
  have haW3 := haW2.sub sub3
  have haW3c := haW3
  unfold FqAt at haW3c
  obtain ⟨mv3a, ⟨_, _, _, _, _, _, _, mv3b⟩, mv3c, ⟨_, _, mv3d⟩, ⟨_, _, mv3e⟩, _, _, _, mv3f⟩ := haW3c
  have f1c := f1b.sub sub3
  have hrl3 := sub3 _ (sub2 _ (sub1 _ hrl))
  have hr3 : ∀ k, k < 8 → RtAt w.params rows3 (rs k) (P : Int) (vs k) := fun k hk => (((hr k hk).sub sub1).sub sub2).sub sub3
  have f3c := f3
  unfold FqAt at f3c
  obtain ⟨m3a, ⟨_, _, _, _, _, _, _, m3b⟩, m3c, ⟨_, _, m3d⟩, ⟨_, _, m3e⟩, _, _, _, m3f⟩ := f3c
  (try dsimp only [PySem.W.CmpBack])
  w_strict (repeat' (k_extra "mine_step"))
  unfold Hold
  refine' step2_mine (rs := rs) ?F5 ?N5 ?l5 ?k5 ?_ ?s5 ?t5
  case F5 => k_asm
  case N5 => k_asm
  case l5 => k_dflt k_mem
  case k5 => exact IsPart.int _ _
  case s5 => with_unfolding_all rfl
  case t5 => kmk_pure
  intro D h5 F5 N5 l5
  have hD : 51 < D := l5 _ (.head _)
  have n51d : ∀ p ∈ (D, ({ cls := .type "list", data := .seq #[.ref (rs 0), .ref (rs 2), .ref (rs 4), .ref (rs 6)] } : Obj)) :: rows3, p.1 ≠ 51 := by
    intro p hp
    rcases List.mem_cons.mp hp with rfl | hp
    · exact Nat.ne_of_gt hD
    · exact n51c p hp
  w_strict (repeat' (k_extra "mine_step"))
  unfold Hold
  k_dflt (refine' in_mine (rs := rs) (vs := vs) (g := sqK P (sqC P (x, y)) (u, v)) ?S6 (fun k hk => (hr3 k hk).tail) f3.rt.tail ?l6 ?t6 ?f6; (case S6 => walk_at "mine_sit"); (case l6 => k_mem))
  case f6 =>
    intro h6 tk6 hno F6 N6
    w_strict (repeat' (k_extra "mine_step"))
    rename Fr h₀ _ _ m => kF
    rename News h₀ L _ _ => kN
    exact hnone _ _ huv hno _ _ _ _ _ (by assumption) TB3 kF kN (fun p hp => .tail _ (sub3 _ (sub2 _ (sub1 _ hp)))) n51d
  intro j h6 tk6 hj hv6 F6 N6
  w_strict (repeat' (k_extra "mine_step"))
  unfold Hold
  dsimp only [List.append, List.nil_append, List.cons_append]
  k_dflt (refine' index_mine (rs := rs) (vs := vs) (j := j) (g := sqK P (sqC P (x, y)) (u, v)) ?S7 (fun k hk => (hr3 k hk).tail) f3.rt.tail ?l7 hd hj hv6 ?_; (case S7 => walk_at "mine_sit"); (case l7 => exact .tail _ hrl3))
  intro h7 t7 tk7 F7 N7
  (k_with "subscriptTail Name BinOp ref int" => (refine Hold.out ?_))
  w_strict (repeat' (k_extra "mine_step"))
  unfold Hold
  refine' item_mine (rs := rs) (j := j) N7 ?l8 hj ?e8 ?_ ?s8 ?g8
  case l8 => exact .tail _ (.tail _ hrl3)
  case e8 =>
    rw [Int.fdiv_eq_ediv_of_nonneg _ (by decide)]
    omega
  case s8 => with_unfolding_all rfl
  case g8 => kmk_pure
  obtain ⟨rd, rml, rmp, rcf, rmt, fr⟩ := hr3 j (by omega)
  have frc := fr
  unfold FqAt at frc
  obtain ⟨m4a, ⟨_, _, _, _, _, _, _, m4b⟩, m4c, ⟨_, _, m4d⟩, ⟨_, _, m4e⟩, _, _, _, m4f⟩ := frc
  clear m3a m3b m3c m3d m3e m3f
  have f1d := f1c
  unfold FqAt at f1d
  obtain ⟨m5a, ⟨_, _, _, _, _, _, _, m5b⟩, m5c, ⟨_, _, m5d⟩, ⟨_, _, m5e⟩, _, _, _, m5f⟩ := f1d
  w_strict (repeat' (k_extra "mine_step"))
  k_dflt (refine' divF ?S9 f1c.tail fr.tail h2 h3 hP R1.1 R1.2 (hrg j hj).1 (hrg j hj).2 (hrn j hj) ?_; (case S9 => walk_at "mine_sit"))
  intro u' v' huv' x1 x1d x1ml x1mp x1cf tb4 rows4 g4h g4 g4t G4 TB4 F4' N4 sub4 n51e f4
  have f4c := f4
  unfold FqAt at f4c
  obtain ⟨m6a, ⟨_, _, _, _, _, _, _, m6b⟩, m6c, ⟨_, _, m6d⟩, ⟨_, _, m6e⟩, _, _, _, m6f⟩ := f4c
  (try dsimp only [PySem.W.CmpBack])
  w_strict (repeat' (k_extra "mine_step"))
  k_dflt (refine' neg ?S10 f4 h2 h3 (em_rg h2) (em_rg h2) ?_; (case S10 => walk_at "mine_sit"))
  intro x2 x2d x2ml x2mp x2cf tb5 rows5 g5h g5 g5t G5 TB5 F5' N5' sub5 n51f f5
  have f4d := f4.sub sub5
  have f4e := f4d
  unfold FqAt at f4e
  clear m6a m6b m6c m6d m6e m6f
  obtain ⟨m6a, ⟨_, _, _, _, _, _, _, m6b⟩, m6c, ⟨_, _, m6d⟩, ⟨_, _, m6e⟩, _, _, _, m6f⟩ := f4e
  have f5c := f5
  unfold FqAt at f5c
  obtain ⟨m7a, ⟨_, _, _, _, _, _, _, m7b⟩, m7c, ⟨_, _, m7d⟩, ⟨_, _, m7e⟩, _, _, _, m7f⟩ := f5c
  (try dsimp only [PySem.W.CmpBack])
  w_strict (repeat' (k_extra "mine_step"))
  all_goals
    rename Fr h₀ _ _ m => kF
    rename News h₀ L _ _ => kN
    have sub9 : ∀ p ∈ news, p ∈ rows5 := fun p hp => sub5 _ (sub4 _ (.tail _ (sub3 _ (sub2 _ (sub1 _ hp)))))
    first
      | exact hsome u v j u' v' (sqX P (sqC P (x, y)) (u', v')) huv hj hv6 huv' (.inl ⟨rfl, .inl (by assumption)⟩) _ _ _ _ _ _ _ _ _ _ (by assumption) TB5 kF kN sub9 n51f f4d
      | exact hsome u v j u' v' (sqX P (sqC P (x, y)) (u', v')) huv hj hv6 huv' (.inl ⟨rfl, .inr ⟨by assumption, by assumption⟩⟩) _ _ _ _ _ _ _ _ _ _ (by assumption) TB5 kF kN sub9 n51f f4d
      | exact hsome u v j u' v' (sqN P (sqX P (sqC P (x, y)) (u', v'))) huv hj hv6 huv' (.inr ⟨rfl, fun h => h.elim (by assumption) fun h => absurd h.1 (by assumption)⟩) _ _ _ _ _ _ _ _ _ _ (by assumption) TB5 kF kN sub9 n51f f5
      | exact hsome u v j u' v' (sqN P (sqX P (sqC P (x, y)) (u', v'))) huv hj hv6 huv' (.inr ⟨rfl, fun h => h.elim (by assumption) fun h => absurd h.2 (by assumption)⟩) _ _ _ _ _ _ _ _ _ _ (by assumption) TB5 kF kN sub9 n51f f5
end
end C15_part
/-! C16 -/
section C16_part
open PySem PySem.W PyProof.Rows PySem.Calls
theorem allLt_out {d : Addr} {l : List (Addr × Obj)} (h : AllLt d l) : ∀ p ∈ l, @LT.lt Nat _ p.1 d := by
  induction l with
  | nil => intro p hp; cases hp
  | cons q r ih =>
    intro p hp
    rcases List.mem_cons.mp hp with rfl | hp
    · exact h.1
    · exact ih h.2 p hp
section
variable {w : World} {p : Program} {loose : List Str} {mean : ExcName → Option Value} {mg mb : Str → Option Value} {dp un : Nat} {gd : Option (List Code)} {cn : Str} {cs : Scope} {a : Addr} {ccd : Value} {cl : List (Str × Addr)} {outer : List Env} {A₀ : Around} {base h₀ : Heap} {L : Addr} {m : Str → Option Value} {tb : Obj} {news : List (Addr × Obj)} {s : Shared} {Q E : Value → Shared → Prop}
set_option maxRecDepth 100000 in
set_option maxHeartbeats 4000000 in
theorem times {ta tc : Addr} {n x y x' y' : Int} {t1 t2 t3 t4 tn : Tok} {k1 k2 : Nat} (S : Sit w p loose mean mg mb 2 dp un cs outer A₀ base h₀ L m tb news s)
    (ha : ((ta, ({ cls := .type "tuple", data := .seq #[.int x t1, .int y t2] k1 } : Obj)) ∈ news)) (hc : ((tc, ({ cls := .type "tuple", data := .seq #[.int x' t3, .int y' t4] k2 } : Obj)) ∈ news)) (h2 : 1 < n) (h3 : n < 1000) (hx : 0 ≤ x ∧ x < n) (hy : 0 ≤ y ∧ y < n) (hx' : 0 ≤ x' ∧ x' < n) (hy' : 0 ≤ y' ∧ y' < n)
    (hret : ∀ D h' q1 q2 tk', Fr h₀ L h' m → News h₀ L h' ((D, { cls := .type "tuple", data := .seq #[.int ((x * x' - y * y') % n) q1, .int ((x * y' + y * x') % n) q2] }) :: (51, tb) :: news) → (∀ p ∈ (51, tb) :: news, p.1 < D) → Q (.ref D) { s with heap := h', toks := tk' }) :
    wpAny (model PySem.Challenge.rw_kh0013_01.row.prog w) (ktrTop dp un gd cn cs L a ccd cl outer) (call (.ref 208) [.ref ta, .ref tc, .int n tn]) Q E s := by
  k_with_none
  k_with "mine_fold" => first | (have F8 := F7; have N8 := N7; clear F8 N8) | (rename Fr _ _ _ _ => F7; rename News _ _ _ _ => N7; revert F7 N7; refine let_FN ?_; intro m7 n7 F7 N7)
  k_with "execs cons" => ((try dsimp only); first | (refine let_one ?_; intro s7 Qk) | (refine let_cons ?_; intro s7 Qk Qk))
  k_with "mine_step" => (first | (with_reducible show Qk _ _; dsimp only [Qk]; clear Qk) | (k_unfold; (try dsimp only)) | (k_end; kc_close) | walk1 | (dsimp only; walk1) | (leave1; walk_say "STEP leave1"; (try dsimp only)))
  k_with "CompRest" => (with_unfolding_all first | (refine LCg.CompRest.succ ?_; intro v9' I9' oI9' C9' oC9' D9' m9' h9' tk9' E9' hv9' hC9' hx9' F9' N9' off9' ne9'; clear ne9'; (first | lcg_open hv9' | (obtain ⟨t99', hv99'⟩ := hv9'; subst hv99'))) | refine LCg.CompRest.zero ?_)
  k_with "CompEnd" => (k_here; (refine' LCg.CompEnd.intro ?F_1 ?N_1 _ (fun p hp => hp) ?off_1 ?S_1 ?_); (case F_1 => k_asm); (case N_1 => k_asm); (case off_1 => assumption); (case S_1 => (refine' srcAt_led ?m9_1; (case m9_1 => k_mem))))
  k_with "FinE" => ((unfold LCg.FinE); intro D9' h9' tk9' F9' N9' o19'; (have o519' := Ne51.intro (off1_ne (a := 51) o19' (by k_dflt k_mem))); (try simp only [List.nil_append, List.cons_append] at N9'); (try dsimp only))
  k_with "eval ListComp" => (k_here; k_dflt (refine LCg.ListComp_U (F₀ := by k_asm) (by with_unfolding_all rfl) (by decide) (by rfl) (by decide) (by rfl) ?_); k_dflt lcg_toSrc)
  k_with "CompSrc" => (k_here; k_dflt (refine LCg.CompSrc.ledger (by rfl) (by k_asm) (by k_asm) (by k_mem) (by first | size_fits | exact Nat.le_of_ble_eq_true rfl) ?_; intro g9'; lcg_lit))
  k_with "exec For Name Call cons nil" => (k_here; (rename Fr _ _ _ _ => lF9'); (with_unfolding_all refine' For_turns lF9' ?_; k_whole))
  k_with "pyIter ref" => (k_here; (with_reducible show wpAny _ _ (pyIter (Value.ref _)) (fun it s₂ => TurnsAt _ _ _ _ _ _ _ _ _ it s₂) _ _); (with_reducible rename IsRange _ _ _ _ _ _ _ _ => rX9'); with_unfolding_all (first | (refine' range_turns (xs := [Itm.tok (fun t => Value.int (0 : Int) t)]) ?hh_6 ?F_6 ?N_6 rX9' ?sm_6 ?hn_6 ?hx_6 ?_; (case hn_6 => decide +kernel); (case sm_6 => decide +kernel); (case hx_6 => rfl)) | (refine' range_turns (xs := [Itm.tok (fun t => Value.int (1 : Int) t), Itm.tok (fun t => Value.int (0 : Int) t)]) ?hh_6 ?F_6 ?N_6 rX9' ?sm_6 ?hn_6 ?hx_6 ?_; (case hn_6 => decide +kernel); (case sm_6 => decide +kernel); (case hx_6 => rfl)) | (refine' range_turns (xs := [Itm.tok (fun t => Value.int (0 : Int) t), Itm.tok (fun t => Value.int (1 : Int) t)]) ?hh_6 ?F_6 ?N_6 rX9' ?sm_6 ?hn_6 ?hx_6 ?_; (case hn_6 => decide +kernel); (case sm_6 => decide +kernel); (case hx_6 => rfl)) | (refine' range_turns (xs := [Itm.tok (fun t => Value.int (0 : Int) t), Itm.tok (fun t => Value.int (1 : Int) t), Itm.tok (fun t => Value.int (2 : Int) t)]) ?hh_6 ?F_6 ?N_6 rX9' ?sm_6 ?hn_6 ?hx_6 ?_; (case hn_6 => decide +kernel); (case sm_6 => decide +kernel); (case hx_6 => rfl)) | (refine' range_turns (xs := [Itm.tok (fun t => Value.int (2 : Int) t), Itm.tok (fun t => Value.int (1 : Int) t), Itm.tok (fun t => Value.int (0 : Int) t)]) ?hh_6 ?F_6 ?N_6 rX9' ?sm_6 ?hn_6 ?hx_6 ?_; (case hn_6 => decide +kernel); (case sm_6 => decide +kernel); (case hx_6 => rfl)) | (refine' range_turns (xs := []) ?hh_6 ?F_6 ?N_6 rX9' ?sm_6 ?hn_6 ?hx_6 ?_; (case hn_6 => decide +kernel); (case sm_6 => decide +kernel); (case hx_6 => rfl))); (case hh_6 => rfl); (case F_6 => k_asm); (case N_6 => k_asm); clear rX9'; intro i9' l19; (have o1x9' := off1_lt l19); (have l1y9' := LtAll.intro l19); (try k_lt l19))
  k_with "call type:enumerate" => (k_here; k_dflt (refine' enum_make ?F_7 ?N_7 ?m_7 ?_); (case F_7 => k_asm); (case N_7 => k_asm); (case m_7 => k_mem); intro e9' h9' F9' N9' eX9'; (try k_sweep))
  k_with "call type:enumerate" => (k_here; (with_reducible show wpAny _ _ (call (Value.type _) [Value.ref _]) (fun xv s₁ => wpAny _ _ (pyIter xv) (fun it s₂ => TurnsAt _ _ _ _ _ _ _ _ _ it s₂) _ s₁) _ _); with_unfolding_all (refine' enum_turns (vs := [_, _]) (xs := [Itm.pair (fun t => Value.int (0 : Int) t) _, Itm.pair (fun t => Value.int (1 : Int) t) _]) ?hh_8 ?F_8 ?N_8 ?hm_8 ?hc_8 ?hd_8 ?hx_8 ?_; (case hh_8 => rfl); (case F_8 => k_asm); (case N_8 => k_asm); (case hm_8 => k_mem); (case hc_8 => rfl); (case hd_8 => rfl); (case hx_8 => rfl)); intro i9' l19; (try k_lt l19))
  k_with "call type:list" => (k_here; (rename EnumF _ _ _ _ _ _ _ => eX9'); k_dflt (refine' enum_list ?hh_9 ?F_9 ?N_9 eX9' ?_); (case hh_9 => rfl); (case F_9 => k_asm); (case N_9 => k_asm); intro S9' T19' T29' k19' k29' c9' h9' tk9' F9' N9' l19 l29 l39; clear eX9'; (try k_lt l19); (try k_lt2 l29); (try k_lt2 l39); (try k_sweep))
  k_with "exec For Tuple Call cons nil" => (k_here; (rename Fr _ _ _ _ => lF9'); (with_unfolding_all refine' For_turns lF9' ?_; k_whole))
  k_with "exec For Tuple Attribute cons nil" => (k_here; (rename Fr _ _ _ _ => lF9'); (with_unfolding_all refine' For_turns lF9' ?_; k_whole))
  k_with "mine_enterC" => (refine' enter_defC ?k1_12 ?k2_12 ?k3_12 ?k4_12 ?k5_12 ?kA_12 ?kF_12 ?kK_12 ?k6_12 ?k7_12 ?k8_12 ?k9_12 ?kB_12 ?kD_12 ?_ ?c2_12 ?c3_12 ?c4_12; (case kA_12 => exact rfl); (case kF_12 => exact rfl); (case kK_12 => first | exact rfl | assumption); (case k1_12 => k_asm); (case k2_12 => k_asm); (case k3_12 => k_asm); (case k4_12 => k_asm); (case k5_12 => k_asm); (case k6_12 => k_is); (case k7_12 => k_is); (case k8_12 => ktr_room); (case k9_12 => exact BindsTo.of_eq rfl); (case kB_12 => exact rfl); (case kD_12 => decide +kernel); (case c2_12 => exact rfl); (case c3_12 => exact rfl); (case c4_12 => exact rfl); k_whole; intro g9' L9' h9' tk9' cells9' FG9' F9' N9' Y9' B9' X9' T9' l19 hBs; (have o2x9' := off1_lt (all_lt_succ l19)); (try k_lt l19); k_cells Y9'; (try simp only [List.cons_append, List.nil_append] at N9'); (try dsimp only); (try k_lift B9'); (try k_fold))
  k_with "eval ListComp" => (k_here; (with_reducible show wpAny _ _ (eval (PySem.Expr.ListComp (PySem.Expr.Tuple _ _ _) _ _ _) _) _ _ _); k_dflt (refine mc_comp (by with_unfolding_all rfl) (by with_unfolding_all rfl) (by decide) (by rfl) (by decide) (by rfl) (by rfl) (by decide) (by decide) (by decide) ?_))
  k_with "call type:enumerate" => (k_here; (with_reducible show wpAny _ _ (call (Value.type _) [Value.ref _]) (McSrc _) _ _); k_dflt (refine' mc_call ?F_14 ?N_14 ?m_14 ?_; (case F_14 => k_asm); (case N_14 => k_asm); (case m_14 => k_mem)); intro D9' T9' ti9' h9' tk9' F9' N9' l19 l29; (try k_lt l19); (try k_lt2 l29); (try k_sweep))
  k_with "mine_split" => (repeat' (first | exact Split.here | apply Split.skip))
  k_with "eval GeneratorExp" => (k_here; k_dflt (refine' gen_make ?F_16 (Split.toNews ?N_16 ?sp_16) ?h51_16 ?tb_16 ?G_16 ?X_16 ?T_16 ?hh_16 ?hcode_16 ?hgl_16 ?room_16 ?hek_16 ?hey_16 ?hdy_16 ?hvy_16 ?hml_16 ?hmc_16 ?hoc_16 ?hms_16 ?hmd_16 ?hfm_16 ?hq_16 ?hco_16 ?hclos_16 ?hcell_16 ?h0_16 ?hx_16 ?hsn_16 ?hkind_16 ?hdx_16 ?hds_16 ?hdc_16 ?_); (case F_16 => k_asm); (case N_16 => k_asm); (case sp_16 => walk_at "mine_split"); (case h51_16 => k_all); (case tb_16 => assumption); (case G_16 => assumption); (case X_16 => k_asm); (case T_16 => k_asm); (case hh_16 => rfl); (case hcode_16 => rfl); (case hgl_16 => rfl); (case room_16 => ktr_room); (case hek_16 => rfl); (case hey_16 => with_unfolding_all rfl); (case hdy_16 => decide); (case hvy_16 => with_unfolding_all rfl); (case hml_16 => k_mem); (case hclos_16 => with_unfolding_all rfl); (case hmc_16 => k_mem); (case hoc_16 => assumption); (case hms_16 => k_mem); (case hmd_16 => k_mem); (case hfm_16 => k_get); (case hq_16 => omega); (case hco_16 => rfl); (case hcell_16 => decide); (case h0_16 => rfl); (case hx_16 => rfl); (case hsn_16 => rfl); (case hkind_16 => rfl); (case hdx_16 => decide); (case hds_16 => decide); (case hdc_16 => decide); intro a9' tb9' h9' g9' tk9' G9' TB9' F9' N9' X9'; (try k_sweep))
  k_with "call type:tuple" => (k_here; k_dflt (refine' call_tuple_tup ?T_17 ?_); (case T_17 => exact News.isTup (by k_asm) (by k_mem)); (try dsimp only))
  k_with "call type:tuple" => (k_here; (rename GenR _ _ _ _ _ _ _ _ _ _ => gX9'); k_dflt (refine' gen_tuple ?F_18 ?N_18 ?G_18 gX9' ?_); (case F_18 => k_asm); (case N_18 => k_asm); (case G_18 => assumption); intro D9' t19' t29' h9' g9' tk9' G9' F9' N9' l19; clear gX9'; (try k_lt l19); (try k_sweep))
  k_with "mine_reg" => (w_on; (have _h : (PySem.Challenge.rw_kh0013_01 = PySem.Challenge.rw_kh0013_01) ∧ (Mine.hd.heap_1 = Mine.hd.heap_1) := by (k_fill; exact ⟨rfl, rfl⟩)); clear _h)
  k_with "mine_enter" => (refine' enter_def ?k1_20 ?k2_20 ?k3_20 ?k4_20 ?k5_20 ?kA_20 ?kF_20 ?kK_20 ?k6_20 ?k7_20 ?k8_20 ?k9_20 ?kB_20 ?_ ?c2_20 ?c3_20 ?c4_20 ?c5_20; (case kA_20 => exact rfl); (case kF_20 => exact rfl); (case kK_20 => first | exact rfl | assumption); (case k1_20 => k_asm); (case k2_20 => k_asm); (case k3_20 => k_asm); (case k4_20 => k_asm); (case k5_20 => k_asm); (case k6_20 => k_is); (case k7_20 => k_is); (case k8_20 => ktr_room); (case k9_20 => exact BindsTo.of_eq rfl); (case c5_20 => decide); (case kB_20 => exact locs rfl); (case c2_20 => exact rfl); (case c3_20 => exact rfl); (case c4_20 => exact rfl); k_whole; intro g9' L9' h9' FG9' F9' N9' B9' X9' T9' hBs; (try dsimp only); (try k_lift B9'); (try k_fold))
  k_with "mine_sit" => (refine' Sit.mk ?B_21 ?F_21 ?X_21 (Split.toNews ?N_21 ?sp_21) ?T_21 ?hk_21 ?G_21 ?TB_21 ?n51_21 ?hdp_21 ?hun_21; (case B_21 => k_asm); (case F_21 => k_asm); (case X_21 => k_asm); (case N_21 => k_asm); (case sp_21 => walk_at "mine_split"); (case T_21 => k_asm); (case hk_21 => first | exact rfl | assumption); (case G_21 => assumption); (case TB_21 => assumption); (case n51_21 => first | assumption | k_all); (case hdp_21 => ktr_room); (case hun_21 => ktr_units))
  k_with "mine_ret" => (intro x9' d9' ml9' mp9' cf9' tb9' h9' g9' tk9' e19' e29' e39' e49' e59' e69' e79' q19' q29' r19' r29' G9' TB9' F9' N9' l19 l29 l39 l49 l59; (have l1o9' := l19); (have o1x9' := off1_lt l19); (have l1y9' := LtAll.intro l19); (have o2x9' := off1_lt (all_lt_trans l19 l29)); (have o3x9' := off1_lt (all_lt_trans (all_lt_trans l19 l29) l39)); (have o4x9' := off1_lt (all_lt_trans (all_lt_trans (all_lt_trans l19 l29) l39) l49)); (have o5x9' := off1_lt (all_lt_trans (all_lt_trans (all_lt_trans (all_lt_trans l19 l29) l39) l49) l59)); (try k_lt l19); k_lt2 l29; k_lt2 l39; k_lt2 l49; k_lt2 l59; (try k_sweep); (try dsimp only))
  k_with "call ref" => (k_here; (with_reducible show wpAny _ _ (call (Value.ref 192) _) _ _ _); k_dflt (refine' mkS ?S_23 ?hlc_23 ?hmt_23 ?h2_23 ?h3_23 ?_); (case S_23 => walk_at "mine_sit"); (case hlc_23 => k_mem); (case hmt_23 => k_mem); (case h2_23 => first | assumption | omega); (case h3_23 => first | assumption | omega); walk_at "mine_ret")
  k_with "mine_fq" => (refine' And.intro ?f1_24 (And.intro (Exists.intro _ (Exists.intro _ (Exists.intro _ (Exists.intro _ (Exists.intro _ (Exists.intro _ (Exists.intro _ ?f2_24))))))) (And.intro ?f3_24 (And.intro (Exists.intro _ (Exists.intro _ ?f4_24)) (And.intro (Exists.intro _ (Exists.intro _ ?f5_24)) (Exists.intro _ (Exists.intro _ (Exists.intro _ ?f6_24))))))); (case f1_24 => k_mem); (case f2_24 => k_mem); (case f3_24 => k_mem); (case f4_24 => k_mem); (case f5_24 => k_mem); (case f6_24 => k_mem))
  k_with "call ref" => (k_here; (with_reducible show wpAny _ _ (call (Value.ref 181) _) _ _ _); k_dflt (refine' made ?S_25 ?hS_25 ?hlc_25 ?h2_25 ?h3_25 ?_); (case S_25 => walk_at "mine_sit"); (case hS_25 => walk_at "mine_fq"); (case hlc_25 => k_mem); (case h2_25 => first | assumption | omega); (case h3_25 => first | assumption | omega); walk_at "mine_ret")
  k_with "mine_lt" => ((repeat (first | exact allLt_nil | refine allLt_cons (by first | (refine' lt_mem ?lm_26 ?mm_26; (case lm_26 => with_reducible assumption); (case mm_26 => ((repeat (first | exact List.Mem.head _ | refine List.Mem.tail _ ?_)); done))) | omega) ?_)); done)
  k_with "UnrEndW" => k_dflt (first | (refine' unr_end2 ?F_27 ?N_27 ?l_27 ?k_27 ?_; (case F_27 => k_asm); (case N_27 => k_asm); (case l_27 => walk_at "mine_lt"); (case k_27 => k_subL)) | (refine' unr_end1 ?F_27 ?N_27 ?l_27 ?k_27 ?_; (case F_27 => k_asm); (case N_27 => k_asm); (case l_27 => walk_at "mine_lt"); (case k_27 => k_subL)))
  k_with "getItem ref int" => (k_here; (with_reducible show wpAny _ _ (getItem (Value.ref _) (Value.int _ _)) _ _ _); k_dflt (refine' get_here ?N_28 ?m_28 ?a_28 ?b_28 ?x_28 ?_; (case N_28 => k_asm); (case m_28 => k_mem); (case a_28 => decide); (case b_28 => decide); (case x_28 => rfl); k_whole))
  k_with "subscriptTail" => (k_here; (with_reducible show wpAny _ _ (subscriptTail _ _ (Value.ref _) (Value.int _ _)) _ _ _); with_unfolding_all (first | (refine' item_tupleT ?t_29 ?a_29 ?b_29 ?c_29 ?d_29 ?_ ?e_29; (case t_29 => exact News.isTup (by k_asm) (by k_mem)); (case a_29 => decide); (case b_29 => decide); (case c_29 => rfl); (case d_29 => rfl); (case e_29 => with_unfolding_all rfl); k_whole) | (refine' sub_here ?N_29 ?m_29 ?k2_29 ?k3_29 ?k4_29 ?_ ?k6_29; (case N_29 => k_asm); (case m_29 => k_mem); (case k2_29 => decide); (case k3_29 => decide); (case k4_29 => rfl); (case k6_29 => with_unfolding_all rfl); k_whole)))
  k_with "setItem ref int" => (k_here; k_dflt (refine' ki_set ?F_30 ?N_30 ?a_30 ?b_30 ?e_30 ?U_30 ?_; (case F_30 => k_asm); (case N_30 => k_asm); (case U_30 => k_upd); (case a_30 => decide); (case b_30 => decide); (case e_30 => rfl)); ki_rest)
  k_with "binaryOp Mult ref int" => (k_here; (with_reducible show wpAny _ _ (binaryOp Operator.Mult (Value.ref _) (Value.int _ _)) _ _ _); k_dflt (refine' KMa.mul ?F_31 ?N_31 ?l_31 ?lo_31 ?hi_31 ?z_31 ?e_31 ?_; (case F_31 => k_asm); (case N_31 => k_asm); (case l_31 => is_list); (case lo_31 => first | omega | decide); (case hi_31 => first | omega | decide); (case z_31 => (simp only [List.length_cons, List.length_nil]; decide)); (case e_31 => (simp only [Int.reduceMul, Int.reduceSub, Int.reduceAdd, Int.reduceToNat, List.replicate_succ, List.replicate_zero, List.flatten_cons, List.flatten_nil, List.cons_append, List.nil_append, List.append_nil]; first | done | exact rfl)); k_whole); intro D9' h9' F9' N9' l19; (have o1x9' := off1_lt l19); (have l1y9' := LtAll.intro l19); (try k_lt l19); (try k_sweep))
  k_with "subscriptTail Name Name ref int" => (k_here; k_dflt (refine' sub_here ?N_32 ?m_32 ?k2_32 ?k3_32 ?k4_32 ?_ ?k6_32; (case N_32 => k_asm); (case m_32 => k_mem); (case k2_32 => decide); (case k3_32 => decide); (case k4_32 => rfl); (case k6_32 => with_unfolding_all rfl); k_whole); (try dsimp only))
  k_with "subscriptTail Name BinOp ref int" => (k_here; k_dflt (refine' sub_here ?N_33 ?m_33 ?k2_33 ?k3_33 ?k4_33 ?_ ?k6_33; (case N_33 => k_asm); (case m_33 => k_mem); (case k2_33 => decide); (case k3_33 => decide); (case k4_33 => rfl); (case k6_33 => with_unfolding_all rfl); k_whole); (try dsimp only))
  k_with "subscriptTail Name Constant ref int" => (k_here; k_dflt (refine' sub_here ?N_34 ?m_34 ?k2_34 ?k3_34 ?k4_34 ?_ ?k6_34; (case N_34 => k_asm); (case m_34 => k_mem); (case k2_34 => decide); (case k3_34 => decide); (case k4_34 => rfl); (case k6_34 => with_unfolding_all rfl); k_whole); (try dsimp only))
  k_with "mine_fq" => (first | exact (by with_reducible assumption) | exact (FqAt.tail (by with_reducible assumption)) | exact (FqAt.tail (FqAt.tail (by with_reducible assumption))) | exact (FqAt.tail (FqAt.tail (FqAt.tail (by with_reducible assumption)))) | exact (FqAt.tail (FqAt.tail (FqAt.tail (FqAt.tail (by with_reducible assumption))))) | exact (FqAt.tail (FqAt.tail (FqAt.tail (FqAt.tail (FqAt.tail (by with_reducible assumption)))))) | exact (FqAt.tail (FqAt.tail (FqAt.tail (FqAt.tail (FqAt.tail (FqAt.tail (by with_reducible assumption))))))) | exact (FqAt.tail (FqAt.tail (FqAt.tail (FqAt.tail (FqAt.tail (FqAt.tail (FqAt.tail (by with_reducible assumption)))))))) | exact (FqAt.tail (FqAt.tail (FqAt.tail (FqAt.tail (FqAt.tail (FqAt.tail (FqAt.tail (FqAt.tail (by with_reducible assumption))))))))) | exact (FqAt.tail (FqAt.tail (FqAt.tail (FqAt.tail (FqAt.tail (FqAt.tail (FqAt.tail (FqAt.tail (FqAt.tail (by with_reducible assumption)))))))))) | exact (FqAt.tail (FqAt.tail (FqAt.tail (FqAt.tail (FqAt.tail (FqAt.tail (FqAt.tail (FqAt.tail (FqAt.tail (FqAt.tail (by with_reducible assumption))))))))))) | exact (FqAt.tail (FqAt.tail (FqAt.tail (FqAt.tail (FqAt.tail (FqAt.tail (FqAt.tail (FqAt.tail (FqAt.tail (FqAt.tail (FqAt.tail (by with_reducible assumption)))))))))))) | exact (FqAt.tail (FqAt.tail (FqAt.tail (FqAt.tail (FqAt.tail (FqAt.tail (FqAt.tail (FqAt.tail (FqAt.tail (FqAt.tail (FqAt.tail (FqAt.tail (by with_reducible assumption))))))))))))) | exact (FqAt.tail (FqAt.tail (FqAt.tail (FqAt.tail (FqAt.tail (FqAt.tail (FqAt.tail (FqAt.tail (FqAt.tail (FqAt.tail (FqAt.tail (FqAt.tail (FqAt.tail (by with_reducible assumption)))))))))))))) | exact (FqAt.tail (FqAt.tail (FqAt.tail (FqAt.tail (FqAt.tail (FqAt.tail (FqAt.tail (FqAt.tail (FqAt.tail (FqAt.tail (FqAt.tail (FqAt.tail (FqAt.tail (FqAt.tail (by with_reducible assumption))))))))))))))) | exact (FqAt.tail (FqAt.tail (FqAt.tail (FqAt.tail (FqAt.tail (FqAt.tail (FqAt.tail (FqAt.tail (FqAt.tail (FqAt.tail (FqAt.tail (FqAt.tail (FqAt.tail (FqAt.tail (FqAt.tail (by with_reducible assumption)))))))))))))))) | exact FqAt.mk6 (by k_dflt k_mem) (by k_dflt k_mem) (by k_dflt k_mem) (by k_dflt k_mem) (by k_dflt k_mem) (by k_dflt k_mem))
  k_with "mine_ne" => (refine neN ?_; (try dsimp only); first | (with_reducible assumption) | ((refine Ne51.ne ?_); with_reducible assumption) | ((refine Ne51.ne' ?_); with_reducible assumption) | (refine' off1_ne ?o1 ?m1; (case o1 => with_reducible assumption); (case m1 => ((repeat (first | exact List.Mem.head _ | refine List.Mem.tail _ ?_)); done))) | (refine' Ne.symm (off1_ne ?o1 ?m1); (case o1 => with_reducible assumption); (case m1 => ((repeat (first | exact List.Mem.head _ | refine List.Mem.tail _ ?_)); done))) | omega)
  walk_at "mine_reg"
  obtain ⟨B, F, X, N, T, hk, G, TB, n51, hdp, hun⟩ := S
  obtain ⟨hx0, hx1⟩ := hx
  obtain ⟨hy0, hy1⟩ := hy
  obtain ⟨hx0', hx1'⟩ := hx'
  obtain ⟨hy0', hy1'⟩ := hy'
  refine wpAny_call ?_
  k_dflt (walk_at "mine_enter")
  clear N
  refine let_entry ?_
  intro M9 A9 e9 E9 Qk
  w_strict (repeat' (k_extra "mine_step"))
  rename Fr h₀ _ _ m => kF
  rename News h₀ L _ _ => kN
  have ef : ∀ a : Int, a.fmod n = a % n := fun a => Int.fmod_eq_emod_of_nonneg a (Int.le_of_lt (Int.lt_trans Int.zero_lt_one h2))
  simp only [ef] at kN
  rename _ ∧ AllLt _ _ => l1
  exact hret _ _ _ _ _ kF kN fun p hp => (List.mem_cons.mp hp).elim (fun e => e ▸ l1.1) (allLt_out l1.2 p)
end
end C16_part
/-! C17 -/
section C17_part
open PySem PySem.W PyProof.Rows PySem.Calls
theorem madeEnd {P : Params} {h₀ h' : Heap} {L : Addr} {tb' : Obj} {news : List (Addr × Obj)} {x' d' ml mp cf D l : Addr} {lo : Obj} {n x y : Int} {e1 e2 e3 e4 e5 e6 e7 q1 q2 r1 r2 t1 t2 : Tok}
    (N : News h₀ L h' ((51, tb') :: (x', instObj 192 d') :: (d', fqDict P e1 e2 e3 e4 e5 e6 e7 ml cf D n) :: (ml, LCg.lst [.ref mp]) :: (mp, { cls := .type "tuple", data := .seq #[.int 0 q1, .int 1 q2] }) :: (cf, { cls := .type "tuple", data := .seq #[.int x r1, .int y r2] }) :: (D, { cls := .type "tuple", data := .seq #[.int 1 t1, .int 0 t2] }) :: (l, lo) :: news))
    (a1 : 51 < l ∧ AllLt l news) (a2 : l < D ∧ 51 < D ∧ AllLt D news) (a3 : 51 < d' ∧ D < d' ∧ l < d' ∧ AllLt d' news) (o2 : d' < x') (o3 : x' < ml) (o4 : ml < mp) (o5 : mp < cf) :
    ∃ nw, News h₀ L h' ((51, tb') :: (nw ++ news)) ∧ (∀ p ∈ nw, p.1 ≠ 51) ∧ (∀ p ∈ nw, ∀ q ∈ news, p.1 ≠ q.1) ∧ FqAt P nw x' d' ml mp cf D n x y := by
  refine ⟨[(x', instObj 192 d'), (d', fqDict P e1 e2 e3 e4 e5 e6 e7 ml cf D n), (ml, LCg.lst [.ref mp]), (mp, { cls := .type "tuple", data := .seq #[.int 0 q1, .int 1 q2] }), (cf, { cls := .type "tuple", data := .seq #[.int x r1, .int y r2] }), (D, { cls := .type "tuple", data := .seq #[.int 1 t1, .int 0 t2] }), (l, lo)], N, ?_, ?_, ?_⟩
  · have b1 := ltN a1.1
    have b2 := ltN a2.2.1
    have b3 := ltN a3.1
    have c4 := Nat.lt_trans b3 (ltN o2)
    have c5 := Nat.lt_trans c4 (ltN o3)
    have c6 := Nat.lt_trans c5 (ltN o4)
    have c7 := Nat.lt_trans c6 (ltN o5)
    exact List.forall_mem_cons.mpr ⟨Nat.ne_of_gt c4, List.forall_mem_cons.mpr ⟨Nat.ne_of_gt b3, List.forall_mem_cons.mpr ⟨Nat.ne_of_gt c5, List.forall_mem_cons.mpr ⟨Nat.ne_of_gt c6, List.forall_mem_cons.mpr ⟨Nat.ne_of_gt c7, List.forall_mem_cons.mpr ⟨Nat.ne_of_gt b2, List.forall_mem_cons.mpr ⟨Nat.ne_of_gt b1, fun _ h => nomatch h⟩⟩⟩⟩⟩⟩⟩
  · intro p hp q hq
    revert p
    have b1 := ltN (allLt_out a1.2 q hq)
    have b2 := Nat.lt_trans b1 (ltN a2.1)
    have b3 := Nat.lt_trans b2 (ltN a3.2.1)
    have c4 := Nat.lt_trans b3 (ltN o2)
    have c5 := Nat.lt_trans c4 (ltN o3)
    have c6 := Nat.lt_trans c5 (ltN o4)
    have c7 := Nat.lt_trans c6 (ltN o5)
    exact List.forall_mem_cons.mpr ⟨Nat.ne_of_gt c4, List.forall_mem_cons.mpr ⟨Nat.ne_of_gt b3, List.forall_mem_cons.mpr ⟨Nat.ne_of_gt c5, List.forall_mem_cons.mpr ⟨Nat.ne_of_gt c6, List.forall_mem_cons.mpr ⟨Nat.ne_of_gt c7, List.forall_mem_cons.mpr ⟨Nat.ne_of_gt b2, List.forall_mem_cons.mpr ⟨Nat.ne_of_gt b1, fun _ h => nomatch h⟩⟩⟩⟩⟩⟩⟩
  · exact ⟨.head _, ⟨_, _, _, _, _, _, _, .tail _ (.head _)⟩, .tail _ (.tail _ (.head _)), ⟨_, _, .tail _ (.tail _ (.tail _ (.head _)))⟩, ⟨_, _, .tail _ (.tail _ (.tail _ (.tail _ (.head _))))⟩, _, _, _, .tail _ (.tail _ (.tail _ (.tail _ (.tail _ (.head _)))))⟩
theorem lt13' : ∀ i, i < 13 → i = 0 ∨ i = 1 ∨ i = 2 ∨ i = 3 ∨ i = 4 ∨ i = 5 ∨ i = 6 ∨ i = 7 ∨ i = 8 ∨ i = 9 ∨ i = 10 ∨ i = 11 ∨ i = 12 := by decide
theorem lt13 {i : Nat} (h : i < 13) : i = 0 ∨ i = 1 ∨ i = 2 ∨ i = 3 ∨ i = 4 ∨ i = 5 ∨ i = 6 ∨ i = 7 ∨ i = 8 ∨ i = 9 ∨ i = 10 ∨ i = 11 ∨ i = 12 := lt13' i h
section
variable {w : World} {p : Program} {loose : List Str} {mean : ExcName → Option Value} {mg mb : Str → Option Value} {dp un : Nat} {gd : Option (List Code)} {cn : Str} {cs : Scope} {a : Addr} {ccd : Value} {cl : List (Str × Addr)} {outer : List Env} {A₀ : Around} {base h₀ : Heap} {L : Addr} {m : Str → Option Value} {tb : Obj} {news : List (Addr × Obj)} {s : Shared} {Q E : Value → Shared → Prop}
set_option maxRecDepth 100000 in
set_option maxHeartbeats 4000000 in
theorem lprimes (S : Sit w p loose mean mg mb 2 dp un cs outer A₀ base h₀ L m tb news s)
    (hret : ∀ D its k h' tk', Fr h₀ L h' m → News h₀ L h' ((D, { cls := .type "list", data := .seq its k }) :: (51, tb) :: news) → (∀ i, i < 13 → ∃ t, its[i]? = some (.int ((primes.getD i 0 : Nat) : Int) t)) → (∀ p ∈ (51, tb) :: news, p.1 < D) → Q (.ref D) { s with heap := h', toks := tk' }) :
    wpAny (model PySem.Challenge.rw_kh0013_01.row.prog w) (ktrTop dp un gd cn cs L a ccd cl outer) (call (.ref 201) []) Q E s := by
  k_with_none
  k_with "mine_fold" => first | (have F8 := F7; have N8 := N7; clear F8 N8) | (rename Fr _ _ _ _ => F7; rename News _ _ _ _ => N7; revert F7 N7; refine let_FN ?_; intro m7 n7 F7 N7)
  k_with "execs cons" => ((try dsimp only); first | (refine let_one ?_; intro s7 Qk) | (refine let_cons ?_; intro s7 Qk Qk))
  k_with "mine_step" => (first | (with_reducible show Qk _ _; dsimp only [Qk]; clear Qk) | (k_unfold; (try dsimp only)) | (k_end; kc_close) | walk1 | (dsimp only; walk1) | (leave1; walk_say "STEP leave1"; (try dsimp only)))
  k_with "CompRest" => (with_unfolding_all first | (refine LCg.CompRest.succ ?_; intro v9' I9' oI9' C9' oC9' D9' m9' h9' tk9' E9' hv9' hC9' hx9' F9' N9' off9' ne9'; clear ne9'; (first | lcg_open hv9' | (obtain ⟨t99', hv99'⟩ := hv9'; subst hv99'))) | refine LCg.CompRest.zero ?_)
  k_with "CompEnd" => (k_here; (refine' LCg.CompEnd.intro ?F_1 ?N_1 _ (fun p hp => hp) ?off_1 ?S_1 ?_); (case F_1 => k_asm); (case N_1 => k_asm); (case off_1 => assumption); (case S_1 => (refine' srcAt_led ?m9_1; (case m9_1 => k_mem))))
  k_with "FinE" => ((unfold LCg.FinE); intro D9' h9' tk9' F9' N9' o19'; (have o519' := Ne51.intro (off1_ne (a := 51) o19' (by k_dflt k_mem))); (try simp only [List.nil_append, List.cons_append] at N9'); (try dsimp only))
  k_with "eval ListComp" => (k_here; k_dflt (refine LCg.ListComp_U (F₀ := by k_asm) (by with_unfolding_all rfl) (by decide) (by rfl) (by decide) (by rfl) ?_); k_dflt lcg_toSrc)
  k_with "CompSrc" => (k_here; k_dflt (refine LCg.CompSrc.ledger (by rfl) (by k_asm) (by k_asm) (by k_mem) (by first | size_fits | exact Nat.le_of_ble_eq_true rfl) ?_; intro g9'; lcg_lit))
  k_with "exec For Name Call cons nil" => (k_here; (rename Fr _ _ _ _ => lF9'); (with_unfolding_all refine' For_turns lF9' ?_; k_whole))
  k_with "pyIter ref" => (k_here; (with_reducible show wpAny _ _ (pyIter (Value.ref _)) (fun it s₂ => TurnsAt _ _ _ _ _ _ _ _ _ it s₂) _ _); (with_reducible rename IsRange _ _ _ _ _ _ _ _ => rX9'); with_unfolding_all (first | (refine' range_turns (xs := [Itm.tok (fun t => Value.int (0 : Int) t)]) ?hh_6 ?F_6 ?N_6 rX9' ?sm_6 ?hn_6 ?hx_6 ?_; (case hn_6 => decide +kernel); (case sm_6 => decide +kernel); (case hx_6 => rfl)) | (refine' range_turns (xs := [Itm.tok (fun t => Value.int (1 : Int) t), Itm.tok (fun t => Value.int (0 : Int) t)]) ?hh_6 ?F_6 ?N_6 rX9' ?sm_6 ?hn_6 ?hx_6 ?_; (case hn_6 => decide +kernel); (case sm_6 => decide +kernel); (case hx_6 => rfl)) | (refine' range_turns (xs := [Itm.tok (fun t => Value.int (0 : Int) t), Itm.tok (fun t => Value.int (1 : Int) t)]) ?hh_6 ?F_6 ?N_6 rX9' ?sm_6 ?hn_6 ?hx_6 ?_; (case hn_6 => decide +kernel); (case sm_6 => decide +kernel); (case hx_6 => rfl)) | (refine' range_turns (xs := [Itm.tok (fun t => Value.int (0 : Int) t), Itm.tok (fun t => Value.int (1 : Int) t), Itm.tok (fun t => Value.int (2 : Int) t)]) ?hh_6 ?F_6 ?N_6 rX9' ?sm_6 ?hn_6 ?hx_6 ?_; (case hn_6 => decide +kernel); (case sm_6 => decide +kernel); (case hx_6 => rfl)) | (refine' range_turns (xs := [Itm.tok (fun t => Value.int (2 : Int) t), Itm.tok (fun t => Value.int (1 : Int) t), Itm.tok (fun t => Value.int (0 : Int) t)]) ?hh_6 ?F_6 ?N_6 rX9' ?sm_6 ?hn_6 ?hx_6 ?_; (case hn_6 => decide +kernel); (case sm_6 => decide +kernel); (case hx_6 => rfl)) | (refine' range_turns (xs := []) ?hh_6 ?F_6 ?N_6 rX9' ?sm_6 ?hn_6 ?hx_6 ?_; (case hn_6 => decide +kernel); (case sm_6 => decide +kernel); (case hx_6 => rfl))); (case hh_6 => rfl); (case F_6 => k_asm); (case N_6 => k_asm); clear rX9'; intro i9' l19; (have o1x9' := off1_lt l19); (have l1y9' := LtAll.intro l19); (try k_lt l19))
  k_with "call type:enumerate" => (k_here; k_dflt (refine' enum_make ?F_7 ?N_7 ?m_7 ?_); (case F_7 => k_asm); (case N_7 => k_asm); (case m_7 => k_mem); intro e9' h9' F9' N9' eX9'; (try k_sweep))
  k_with "call type:enumerate" => (k_here; (with_reducible show wpAny _ _ (call (Value.type _) [Value.ref _]) (fun xv s₁ => wpAny _ _ (pyIter xv) (fun it s₂ => TurnsAt _ _ _ _ _ _ _ _ _ it s₂) _ s₁) _ _); with_unfolding_all (refine' enum_turns (vs := [_, _]) (xs := [Itm.pair (fun t => Value.int (0 : Int) t) _, Itm.pair (fun t => Value.int (1 : Int) t) _]) ?hh_8 ?F_8 ?N_8 ?hm_8 ?hc_8 ?hd_8 ?hx_8 ?_; (case hh_8 => rfl); (case F_8 => k_asm); (case N_8 => k_asm); (case hm_8 => k_mem); (case hc_8 => rfl); (case hd_8 => rfl); (case hx_8 => rfl)); intro i9' l19; (try k_lt l19))
  k_with "call type:list" => (k_here; (rename EnumF _ _ _ _ _ _ _ => eX9'); k_dflt (refine' enum_list ?hh_9 ?F_9 ?N_9 eX9' ?_); (case hh_9 => rfl); (case F_9 => k_asm); (case N_9 => k_asm); intro S9' T19' T29' k19' k29' c9' h9' tk9' F9' N9' l19 l29 l39; clear eX9'; (try k_lt l19); (try k_lt2 l29); (try k_lt2 l39); (try k_sweep))
  k_with "exec For Tuple Call cons nil" => (k_here; (rename Fr _ _ _ _ => lF9'); (with_unfolding_all refine' For_turns lF9' ?_; k_whole))
  k_with "exec For Tuple Attribute cons nil" => (k_here; (rename Fr _ _ _ _ => lF9'); (with_unfolding_all refine' For_turns lF9' ?_; k_whole))
  k_with "mine_enterC" => (refine' enter_defC ?k1_12 ?k2_12 ?k3_12 ?k4_12 ?k5_12 ?kA_12 ?kF_12 ?kK_12 ?k6_12 ?k7_12 ?k8_12 ?k9_12 ?kB_12 ?kD_12 ?_ ?c2_12 ?c3_12 ?c4_12; (case kA_12 => exact rfl); (case kF_12 => exact rfl); (case kK_12 => first | exact rfl | assumption); (case k1_12 => k_asm); (case k2_12 => k_asm); (case k3_12 => k_asm); (case k4_12 => k_asm); (case k5_12 => k_asm); (case k6_12 => k_is); (case k7_12 => k_is); (case k8_12 => ktr_room); (case k9_12 => exact BindsTo.of_eq rfl); (case kB_12 => exact rfl); (case kD_12 => decide +kernel); (case c2_12 => exact rfl); (case c3_12 => exact rfl); (case c4_12 => exact rfl); k_whole; intro g9' L9' h9' tk9' cells9' FG9' F9' N9' Y9' B9' X9' T9' l19 hBs; (have o2x9' := off1_lt (all_lt_succ l19)); (try k_lt l19); k_cells Y9'; (try simp only [List.cons_append, List.nil_append] at N9'); (try dsimp only); (try k_lift B9'); (try k_fold))
  k_with "eval ListComp" => (k_here; (with_reducible show wpAny _ _ (eval (PySem.Expr.ListComp (PySem.Expr.Tuple _ _ _) _ _ _) _) _ _ _); k_dflt (refine mc_comp (by with_unfolding_all rfl) (by with_unfolding_all rfl) (by decide) (by rfl) (by decide) (by rfl) (by rfl) (by decide) (by decide) (by decide) ?_))
  k_with "call type:enumerate" => (k_here; (with_reducible show wpAny _ _ (call (Value.type _) [Value.ref _]) (McSrc _) _ _); k_dflt (refine' mc_call ?F_14 ?N_14 ?m_14 ?_; (case F_14 => k_asm); (case N_14 => k_asm); (case m_14 => k_mem)); intro D9' T9' ti9' h9' tk9' F9' N9' l19 l29; (try k_lt l19); (try k_lt2 l29); (try k_sweep))
  k_with "mine_split" => (repeat' (first | exact Split.here | apply Split.skip))
  k_with "eval GeneratorExp" => (k_here; k_dflt (refine' gen_make ?F_16 (Split.toNews ?N_16 ?sp_16) ?h51_16 ?tb_16 ?G_16 ?X_16 ?T_16 ?hh_16 ?hcode_16 ?hgl_16 ?room_16 ?hek_16 ?hey_16 ?hdy_16 ?hvy_16 ?hml_16 ?hmc_16 ?hoc_16 ?hms_16 ?hmd_16 ?hfm_16 ?hq_16 ?hco_16 ?hclos_16 ?hcell_16 ?h0_16 ?hx_16 ?hsn_16 ?hkind_16 ?hdx_16 ?hds_16 ?hdc_16 ?_); (case F_16 => k_asm); (case N_16 => k_asm); (case sp_16 => walk_at "mine_split"); (case h51_16 => k_all); (case tb_16 => assumption); (case G_16 => assumption); (case X_16 => k_asm); (case T_16 => k_asm); (case hh_16 => rfl); (case hcode_16 => rfl); (case hgl_16 => rfl); (case room_16 => ktr_room); (case hek_16 => rfl); (case hey_16 => with_unfolding_all rfl); (case hdy_16 => decide); (case hvy_16 => with_unfolding_all rfl); (case hml_16 => k_mem); (case hclos_16 => with_unfolding_all rfl); (case hmc_16 => k_mem); (case hoc_16 => assumption); (case hms_16 => k_mem); (case hmd_16 => k_mem); (case hfm_16 => k_get); (case hq_16 => omega); (case hco_16 => rfl); (case hcell_16 => decide); (case h0_16 => rfl); (case hx_16 => rfl); (case hsn_16 => rfl); (case hkind_16 => rfl); (case hdx_16 => decide); (case hds_16 => decide); (case hdc_16 => decide); intro a9' tb9' h9' g9' tk9' G9' TB9' F9' N9' X9'; (try k_sweep))
  k_with "call type:tuple" => (k_here; k_dflt (refine' call_tuple_tup ?T_17 ?_); (case T_17 => exact News.isTup (by k_asm) (by k_mem)); (try dsimp only))
  k_with "call type:tuple" => (k_here; (rename GenR _ _ _ _ _ _ _ _ _ _ => gX9'); k_dflt (refine' gen_tuple ?F_18 ?N_18 ?G_18 gX9' ?_); (case F_18 => k_asm); (case N_18 => k_asm); (case G_18 => assumption); intro D9' t19' t29' h9' g9' tk9' G9' F9' N9' l19; clear gX9'; (try k_lt l19); (try k_sweep))
  k_with "mine_reg" => (w_on; (have _h : (PySem.Challenge.rw_kh0013_01 = PySem.Challenge.rw_kh0013_01) ∧ (Mine.hd.heap_1 = Mine.hd.heap_1) := by (k_fill; exact ⟨rfl, rfl⟩)); clear _h)
  k_with "mine_enter" => (refine' enter_def ?k1_20 ?k2_20 ?k3_20 ?k4_20 ?k5_20 ?kA_20 ?kF_20 ?kK_20 ?k6_20 ?k7_20 ?k8_20 ?k9_20 ?kB_20 ?_ ?c2_20 ?c3_20 ?c4_20 ?c5_20; (case kA_20 => exact rfl); (case kF_20 => exact rfl); (case kK_20 => first | exact rfl | assumption); (case k1_20 => k_asm); (case k2_20 => k_asm); (case k3_20 => k_asm); (case k4_20 => k_asm); (case k5_20 => k_asm); (case k6_20 => k_is); (case k7_20 => k_is); (case k8_20 => ktr_room); (case k9_20 => exact BindsTo.of_eq rfl); (case c5_20 => decide); (case kB_20 => exact locs rfl); (case c2_20 => exact rfl); (case c3_20 => exact rfl); (case c4_20 => exact rfl); k_whole; intro g9' L9' h9' FG9' F9' N9' B9' X9' T9' hBs; (try dsimp only); (try k_lift B9'); (try k_fold))
  k_with "mine_sit" => (refine' Sit.mk ?B_21 ?F_21 ?X_21 (Split.toNews ?N_21 ?sp_21) ?T_21 ?hk_21 ?G_21 ?TB_21 ?n51_21 ?hdp_21 ?hun_21; (case B_21 => k_asm); (case F_21 => k_asm); (case X_21 => k_asm); (case N_21 => k_asm); (case sp_21 => walk_at "mine_split"); (case T_21 => k_asm); (case hk_21 => first | exact rfl | assumption); (case G_21 => assumption); (case TB_21 => assumption); (case n51_21 => first | assumption | k_all); (case hdp_21 => ktr_room); (case hun_21 => ktr_units))
  k_with "mine_ret" => (intro x9' d9' ml9' mp9' cf9' tb9' h9' g9' tk9' e19' e29' e39' e49' e59' e69' e79' q19' q29' r19' r29' G9' TB9' F9' N9' l19 l29 l39 l49 l59; (have l1o9' := l19); (have o1x9' := off1_lt l19); (have l1y9' := LtAll.intro l19); (have o2x9' := off1_lt (all_lt_trans l19 l29)); (have o3x9' := off1_lt (all_lt_trans (all_lt_trans l19 l29) l39)); (have o4x9' := off1_lt (all_lt_trans (all_lt_trans (all_lt_trans l19 l29) l39) l49)); (have o5x9' := off1_lt (all_lt_trans (all_lt_trans (all_lt_trans (all_lt_trans l19 l29) l39) l49) l59)); (try k_lt l19); k_lt2 l29; k_lt2 l39; k_lt2 l49; k_lt2 l59; (try k_sweep); (try dsimp only))
  k_with "call ref" => (k_here; (with_reducible show wpAny _ _ (call (Value.ref 192) _) _ _ _); k_dflt (refine' mkS ?S_23 ?hlc_23 ?hmt_23 ?h2_23 ?h3_23 ?_); (case S_23 => walk_at "mine_sit"); (case hlc_23 => k_mem); (case hmt_23 => k_mem); (case h2_23 => first | assumption | omega); (case h3_23 => first | assumption | omega); walk_at "mine_ret")
  k_with "mine_fq" => (refine' And.intro ?f1_24 (And.intro (Exists.intro _ (Exists.intro _ (Exists.intro _ (Exists.intro _ (Exists.intro _ (Exists.intro _ (Exists.intro _ ?f2_24))))))) (And.intro ?f3_24 (And.intro (Exists.intro _ (Exists.intro _ ?f4_24)) (And.intro (Exists.intro _ (Exists.intro _ ?f5_24)) (Exists.intro _ (Exists.intro _ (Exists.intro _ ?f6_24))))))); (case f1_24 => k_mem); (case f2_24 => k_mem); (case f3_24 => k_mem); (case f4_24 => k_mem); (case f5_24 => k_mem); (case f6_24 => k_mem))
  k_with "call ref" => (k_here; (with_reducible show wpAny _ _ (call (Value.ref 181) _) _ _ _); k_dflt (refine' made ?S_25 ?hS_25 ?hlc_25 ?h2_25 ?h3_25 ?_); (case S_25 => walk_at "mine_sit"); (case hS_25 => walk_at "mine_fq"); (case hlc_25 => k_mem); (case h2_25 => first | assumption | omega); (case h3_25 => first | assumption | omega); walk_at "mine_ret")
  k_with "mine_lt" => ((repeat (first | exact allLt_nil | refine allLt_cons (by first | (refine' lt_mem ?lm_26 ?mm_26; (case lm_26 => with_reducible assumption); (case mm_26 => ((repeat (first | exact List.Mem.head _ | refine List.Mem.tail _ ?_)); done))) | omega) ?_)); done)
  k_with "UnrEndW" => k_dflt (first | (refine' unr_end2 ?F_27 ?N_27 ?l_27 ?k_27 ?_; (case F_27 => k_asm); (case N_27 => k_asm); (case l_27 => walk_at "mine_lt"); (case k_27 => k_subL)) | (refine' unr_end1 ?F_27 ?N_27 ?l_27 ?k_27 ?_; (case F_27 => k_asm); (case N_27 => k_asm); (case l_27 => walk_at "mine_lt"); (case k_27 => k_subL)))
  k_with "getItem ref int" => (k_here; (with_reducible show wpAny _ _ (getItem (Value.ref _) (Value.int _ _)) _ _ _); k_dflt (refine' get_here ?N_28 ?m_28 ?a_28 ?b_28 ?x_28 ?_; (case N_28 => k_asm); (case m_28 => k_mem); (case a_28 => decide); (case b_28 => decide); (case x_28 => rfl); k_whole))
  k_with "subscriptTail" => (k_here; (with_reducible show wpAny _ _ (subscriptTail _ _ (Value.ref _) (Value.int _ _)) _ _ _); with_unfolding_all (first | (refine' item_tupleT ?t_29 ?a_29 ?b_29 ?c_29 ?d_29 ?_ ?e_29; (case t_29 => exact News.isTup (by k_asm) (by k_mem)); (case a_29 => decide); (case b_29 => decide); (case c_29 => rfl); (case d_29 => rfl); (case e_29 => with_unfolding_all rfl); k_whole) | (refine' sub_here ?N_29 ?m_29 ?k2_29 ?k3_29 ?k4_29 ?_ ?k6_29; (case N_29 => k_asm); (case m_29 => k_mem); (case k2_29 => decide); (case k3_29 => decide); (case k4_29 => rfl); (case k6_29 => with_unfolding_all rfl); k_whole)))
  k_with "setItem ref int" => (k_here; k_dflt (refine' ki_set ?F_30 ?N_30 ?a_30 ?b_30 ?e_30 ?U_30 ?_; (case F_30 => k_asm); (case N_30 => k_asm); (case U_30 => k_upd); (case a_30 => decide); (case b_30 => decide); (case e_30 => rfl)); ki_rest)
  k_with "binaryOp Mult ref int" => (k_here; (with_reducible show wpAny _ _ (binaryOp Operator.Mult (Value.ref _) (Value.int _ _)) _ _ _); k_dflt (refine' KMa.mul ?F_31 ?N_31 ?l_31 ?lo_31 ?hi_31 ?z_31 ?e_31 ?_; (case F_31 => k_asm); (case N_31 => k_asm); (case l_31 => is_list); (case lo_31 => first | omega | decide); (case hi_31 => first | omega | decide); (case z_31 => (simp only [List.length_cons, List.length_nil]; decide)); (case e_31 => (simp only [Int.reduceMul, Int.reduceSub, Int.reduceAdd, Int.reduceToNat, List.replicate_succ, List.replicate_zero, List.flatten_cons, List.flatten_nil, List.cons_append, List.nil_append, List.append_nil]; first | done | exact rfl)); k_whole); intro D9' h9' F9' N9' l19; (have o1x9' := off1_lt l19); (have l1y9' := LtAll.intro l19); (try k_lt l19); (try k_sweep))
  k_with "subscriptTail Name Name ref int" => (k_here; k_dflt (refine' sub_here ?N_32 ?m_32 ?k2_32 ?k3_32 ?k4_32 ?_ ?k6_32; (case N_32 => k_asm); (case m_32 => k_mem); (case k2_32 => decide); (case k3_32 => decide); (case k4_32 => rfl); (case k6_32 => with_unfolding_all rfl); k_whole); (try dsimp only))
  k_with "subscriptTail Name BinOp ref int" => (k_here; k_dflt (refine' sub_here ?N_33 ?m_33 ?k2_33 ?k3_33 ?k4_33 ?_ ?k6_33; (case N_33 => k_asm); (case m_33 => k_mem); (case k2_33 => decide); (case k3_33 => decide); (case k4_33 => rfl); (case k6_33 => with_unfolding_all rfl); k_whole); (try dsimp only))
  k_with "subscriptTail Name Constant ref int" => (k_here; k_dflt (refine' sub_here ?N_34 ?m_34 ?k2_34 ?k3_34 ?k4_34 ?_ ?k6_34; (case N_34 => k_asm); (case m_34 => k_mem); (case k2_34 => decide); (case k3_34 => decide); (case k4_34 => rfl); (case k6_34 => with_unfolding_all rfl); k_whole); (try dsimp only))
  k_with "mine_fq" => (first | exact (by with_reducible assumption) | exact (FqAt.tail (by with_reducible assumption)) | exact (FqAt.tail (FqAt.tail (by with_reducible assumption))) | exact (FqAt.tail (FqAt.tail (FqAt.tail (by with_reducible assumption)))) | exact (FqAt.tail (FqAt.tail (FqAt.tail (FqAt.tail (by with_reducible assumption))))) | exact (FqAt.tail (FqAt.tail (FqAt.tail (FqAt.tail (FqAt.tail (by with_reducible assumption)))))) | exact (FqAt.tail (FqAt.tail (FqAt.tail (FqAt.tail (FqAt.tail (FqAt.tail (by with_reducible assumption))))))) | exact (FqAt.tail (FqAt.tail (FqAt.tail (FqAt.tail (FqAt.tail (FqAt.tail (FqAt.tail (by with_reducible assumption)))))))) | exact (FqAt.tail (FqAt.tail (FqAt.tail (FqAt.tail (FqAt.tail (FqAt.tail (FqAt.tail (FqAt.tail (by with_reducible assumption))))))))) | exact (FqAt.tail (FqAt.tail (FqAt.tail (FqAt.tail (FqAt.tail (FqAt.tail (FqAt.tail (FqAt.tail (FqAt.tail (by with_reducible assumption)))))))))) | exact (FqAt.tail (FqAt.tail (FqAt.tail (FqAt.tail (FqAt.tail (FqAt.tail (FqAt.tail (FqAt.tail (FqAt.tail (FqAt.tail (by with_reducible assumption))))))))))) | exact (FqAt.tail (FqAt.tail (FqAt.tail (FqAt.tail (FqAt.tail (FqAt.tail (FqAt.tail (FqAt.tail (FqAt.tail (FqAt.tail (FqAt.tail (by with_reducible assumption)))))))))))) | exact (FqAt.tail (FqAt.tail (FqAt.tail (FqAt.tail (FqAt.tail (FqAt.tail (FqAt.tail (FqAt.tail (FqAt.tail (FqAt.tail (FqAt.tail (FqAt.tail (by with_reducible assumption))))))))))))) | exact (FqAt.tail (FqAt.tail (FqAt.tail (FqAt.tail (FqAt.tail (FqAt.tail (FqAt.tail (FqAt.tail (FqAt.tail (FqAt.tail (FqAt.tail (FqAt.tail (FqAt.tail (by with_reducible assumption)))))))))))))) | exact (FqAt.tail (FqAt.tail (FqAt.tail (FqAt.tail (FqAt.tail (FqAt.tail (FqAt.tail (FqAt.tail (FqAt.tail (FqAt.tail (FqAt.tail (FqAt.tail (FqAt.tail (FqAt.tail (by with_reducible assumption))))))))))))))) | exact (FqAt.tail (FqAt.tail (FqAt.tail (FqAt.tail (FqAt.tail (FqAt.tail (FqAt.tail (FqAt.tail (FqAt.tail (FqAt.tail (FqAt.tail (FqAt.tail (FqAt.tail (FqAt.tail (FqAt.tail (by with_reducible assumption)))))))))))))))) | exact FqAt.mk6 (by k_dflt k_mem) (by k_dflt k_mem) (by k_dflt k_mem) (by k_dflt k_mem) (by k_dflt k_mem) (by k_dflt k_mem))
  k_with "mine_ne" => (refine neN ?_; (try dsimp only); first | (with_reducible assumption) | ((refine Ne51.ne ?_); with_reducible assumption) | ((refine Ne51.ne' ?_); with_reducible assumption) | (refine' off1_ne ?o1 ?m1; (case o1 => with_reducible assumption); (case m1 => ((repeat (first | exact List.Mem.head _ | refine List.Mem.tail _ ?_)); done))) | (refine' Ne.symm (off1_ne ?o1 ?m1); (case o1 => with_reducible assumption); (case m1 => ((repeat (first | exact List.Mem.head _ | refine List.Mem.tail _ ?_)); done))) | omega)
  walk_at "mine_reg"
  obtain ⟨B, F, X, N, T, hk, G, TB, n51, hdp, hun⟩ := S
  refine wpAny_call ?_
  k_dflt (walk_at "mine_enter")
  clear N
  refine let_entry ?_
  intro M9 A9 e9 E9 Qk
  w_strict (repeat' (k_extra "mine_step"))
  rename Fr h₀ _ _ m => kF
  rename News h₀ L _ _ => kN
  rename _ ∧ AllLt _ _ => l1
  refine hret _ _ _ _ _ kF kN (fun i hi => ?_) fun p hp => (List.mem_cons.mp hp).elim (fun e => e ▸ l1.1) (allLt_out l1.2 p)
  have : i = 0 ∨ i = 1 ∨ i = 2 ∨ i = 3 ∨ i = 4 ∨ i = 5 ∨ i = 6 ∨ i = 7 ∨ i = 8 ∨ i = 9 ∨ i = 10 ∨ i = 11 ∨ i = 12 := lt13 hi
  rcases this with rfl | rfl | rfl | rfl | rfl | rfl | rfl | rfl | rfl | rfl | rfl | rfl | rfl <;> exact ⟨_, rfl⟩
set_option maxRecDepth 100000 in
set_option maxHeartbeats 4000000 in
theorem lmade {tp : Addr} {n x y : Int} {t1 t2 tn : Tok} {k1 : Nat} (S : Sit w p loose mean mg mb 5 dp un cs outer A₀ base h₀ L m tb news s)
    (ha : ((tp, ({ cls := .type "tuple", data := .seq #[.int x t1, .int y t2] k1 } : Obj)) ∈ news)) (h2 : 1 < n) (h3 : n < 1000) (hx : 0 ≤ x ∧ x < n) (hy : 0 ≤ y ∧ y < n)
    (hret : ∀ x' d ml mp cf mt tb' nw h' g' tk', AllBare g' → TabOk tb' → Fr h₀ L h' m → News h₀ L h' ((51, tb') :: (nw ++ news)) → (∀ p ∈ nw, p.1 ≠ 51) → (∀ p ∈ nw, ∀ q ∈ news, p.1 ≠ q.1) → FqAt w.params nw x' d ml mp cf mt n x y → Q (.ref x') { s with heap := h', gens := g', toks := tk' }) :
    wpAny (model PySem.Challenge.rw_kh0013_01.row.prog w) (ktrTop dp un gd cn cs L a ccd cl outer) (call (.ref 215) [.ref tp, .int n tn]) Q E s := by
  k_with_none
  k_with "mine_fold" => first | (have F8 := F7; have N8 := N7; clear F8 N8) | (rename Fr _ _ _ _ => F7; rename News _ _ _ _ => N7; revert F7 N7; refine let_FN ?_; intro m7 n7 F7 N7)
  k_with "execs cons" => ((try dsimp only); first | (refine let_one ?_; intro s7 Qk) | (refine let_cons ?_; intro s7 Qk Qk))
  k_with "mine_step" => (first | (with_reducible show Qk _ _; dsimp only [Qk]; clear Qk) | (k_unfold; (try dsimp only)) | (k_end; kc_close) | walk1 | (dsimp only; walk1) | (leave1; walk_say "STEP leave1"; (try dsimp only)))
  k_with "CompRest" => (with_unfolding_all first | (refine LCg.CompRest.succ ?_; intro v9' I9' oI9' C9' oC9' D9' m9' h9' tk9' E9' hv9' hC9' hx9' F9' N9' off9' ne9'; clear ne9'; (first | lcg_open hv9' | (obtain ⟨t99', hv99'⟩ := hv9'; subst hv99'))) | refine LCg.CompRest.zero ?_)
  k_with "CompEnd" => (k_here; (refine' LCg.CompEnd.intro ?F_1 ?N_1 _ (fun p hp => hp) ?off_1 ?S_1 ?_); (case F_1 => k_asm); (case N_1 => k_asm); (case off_1 => assumption); (case S_1 => (refine' srcAt_led ?m9_1; (case m9_1 => k_mem))))
  k_with "FinE" => ((unfold LCg.FinE); intro D9' h9' tk9' F9' N9' o19'; (have o519' := Ne51.intro (off1_ne (a := 51) o19' (by k_dflt k_mem))); (try simp only [List.nil_append, List.cons_append] at N9'); (try dsimp only))
  k_with "eval ListComp" => (k_here; k_dflt (refine LCg.ListComp_U (F₀ := by k_asm) (by with_unfolding_all rfl) (by decide) (by rfl) (by decide) (by rfl) ?_); k_dflt lcg_toSrc)
  k_with "CompSrc" => (k_here; k_dflt (refine LCg.CompSrc.ledger (by rfl) (by k_asm) (by k_asm) (by k_mem) (by first | size_fits | exact Nat.le_of_ble_eq_true rfl) ?_; intro g9'; lcg_lit))
  k_with "exec For Name Call cons nil" => (k_here; (rename Fr _ _ _ _ => lF9'); (with_unfolding_all refine' For_turns lF9' ?_; k_whole))
  k_with "pyIter ref" => (k_here; (with_reducible show wpAny _ _ (pyIter (Value.ref _)) (fun it s₂ => TurnsAt _ _ _ _ _ _ _ _ _ it s₂) _ _); (with_reducible rename IsRange _ _ _ _ _ _ _ _ => rX9'); with_unfolding_all (first | (refine' range_turns (xs := [Itm.tok (fun t => Value.int (0 : Int) t)]) ?hh_6 ?F_6 ?N_6 rX9' ?sm_6 ?hn_6 ?hx_6 ?_; (case hn_6 => decide +kernel); (case sm_6 => decide +kernel); (case hx_6 => rfl)) | (refine' range_turns (xs := [Itm.tok (fun t => Value.int (1 : Int) t), Itm.tok (fun t => Value.int (0 : Int) t)]) ?hh_6 ?F_6 ?N_6 rX9' ?sm_6 ?hn_6 ?hx_6 ?_; (case hn_6 => decide +kernel); (case sm_6 => decide +kernel); (case hx_6 => rfl)) | (refine' range_turns (xs := [Itm.tok (fun t => Value.int (0 : Int) t), Itm.tok (fun t => Value.int (1 : Int) t)]) ?hh_6 ?F_6 ?N_6 rX9' ?sm_6 ?hn_6 ?hx_6 ?_; (case hn_6 => decide +kernel); (case sm_6 => decide +kernel); (case hx_6 => rfl)) | (refine' range_turns (xs := [Itm.tok (fun t => Value.int (0 : Int) t), Itm.tok (fun t => Value.int (1 : Int) t), Itm.tok (fun t => Value.int (2 : Int) t)]) ?hh_6 ?F_6 ?N_6 rX9' ?sm_6 ?hn_6 ?hx_6 ?_; (case hn_6 => decide +kernel); (case sm_6 => decide +kernel); (case hx_6 => rfl)) | (refine' range_turns (xs := [Itm.tok (fun t => Value.int (2 : Int) t), Itm.tok (fun t => Value.int (1 : Int) t), Itm.tok (fun t => Value.int (0 : Int) t)]) ?hh_6 ?F_6 ?N_6 rX9' ?sm_6 ?hn_6 ?hx_6 ?_; (case hn_6 => decide +kernel); (case sm_6 => decide +kernel); (case hx_6 => rfl)) | (refine' range_turns (xs := []) ?hh_6 ?F_6 ?N_6 rX9' ?sm_6 ?hn_6 ?hx_6 ?_; (case hn_6 => decide +kernel); (case sm_6 => decide +kernel); (case hx_6 => rfl))); (case hh_6 => rfl); (case F_6 => k_asm); (case N_6 => k_asm); clear rX9'; intro i9' l19; (have o1x9' := off1_lt l19); (have l1y9' := LtAll.intro l19); (try k_lt l19))
  k_with "call type:enumerate" => (k_here; k_dflt (refine' enum_make ?F_7 ?N_7 ?m_7 ?_); (case F_7 => k_asm); (case N_7 => k_asm); (case m_7 => k_mem); intro e9' h9' F9' N9' eX9'; (try k_sweep))
  k_with "call type:enumerate" => (k_here; (with_reducible show wpAny _ _ (call (Value.type _) [Value.ref _]) (fun xv s₁ => wpAny _ _ (pyIter xv) (fun it s₂ => TurnsAt _ _ _ _ _ _ _ _ _ it s₂) _ s₁) _ _); with_unfolding_all (refine' enum_turns (vs := [_, _]) (xs := [Itm.pair (fun t => Value.int (0 : Int) t) _, Itm.pair (fun t => Value.int (1 : Int) t) _]) ?hh_8 ?F_8 ?N_8 ?hm_8 ?hc_8 ?hd_8 ?hx_8 ?_; (case hh_8 => rfl); (case F_8 => k_asm); (case N_8 => k_asm); (case hm_8 => k_mem); (case hc_8 => rfl); (case hd_8 => rfl); (case hx_8 => rfl)); intro i9' l19; (try k_lt l19))
  k_with "call type:list" => (k_here; (rename EnumF _ _ _ _ _ _ _ => eX9'); k_dflt (refine' enum_list ?hh_9 ?F_9 ?N_9 eX9' ?_); (case hh_9 => rfl); (case F_9 => k_asm); (case N_9 => k_asm); intro S9' T19' T29' k19' k29' c9' h9' tk9' F9' N9' l19 l29 l39; clear eX9'; (try k_lt l19); (try k_lt2 l29); (try k_lt2 l39); (try k_sweep))
  k_with "exec For Tuple Call cons nil" => (k_here; (rename Fr _ _ _ _ => lF9'); (with_unfolding_all refine' For_turns lF9' ?_; k_whole))
  k_with "exec For Tuple Attribute cons nil" => (k_here; (rename Fr _ _ _ _ => lF9'); (with_unfolding_all refine' For_turns lF9' ?_; k_whole))
  k_with "mine_enterC" => (refine' enter_defC ?k1_12 ?k2_12 ?k3_12 ?k4_12 ?k5_12 ?kA_12 ?kF_12 ?kK_12 ?k6_12 ?k7_12 ?k8_12 ?k9_12 ?kB_12 ?kD_12 ?_ ?c2_12 ?c3_12 ?c4_12; (case kA_12 => exact rfl); (case kF_12 => exact rfl); (case kK_12 => first | exact rfl | assumption); (case k1_12 => k_asm); (case k2_12 => k_asm); (case k3_12 => k_asm); (case k4_12 => k_asm); (case k5_12 => k_asm); (case k6_12 => k_is); (case k7_12 => k_is); (case k8_12 => ktr_room); (case k9_12 => exact BindsTo.of_eq rfl); (case kB_12 => exact rfl); (case kD_12 => decide +kernel); (case c2_12 => exact rfl); (case c3_12 => exact rfl); (case c4_12 => exact rfl); k_whole; intro g9' L9' h9' tk9' cells9' FG9' F9' N9' Y9' B9' X9' T9' l19 hBs; (have o2x9' := off1_lt (all_lt_succ l19)); (try k_lt l19); k_cells Y9'; (try simp only [List.cons_append, List.nil_append] at N9'); (try dsimp only); (try k_lift B9'); (try k_fold))
  k_with "eval ListComp" => (k_here; (with_reducible show wpAny _ _ (eval (PySem.Expr.ListComp (PySem.Expr.Tuple _ _ _) _ _ _) _) _ _ _); k_dflt (refine mc_comp (by with_unfolding_all rfl) (by with_unfolding_all rfl) (by decide) (by rfl) (by decide) (by rfl) (by rfl) (by decide) (by decide) (by decide) ?_))
  k_with "call type:enumerate" => (k_here; (with_reducible show wpAny _ _ (call (Value.type _) [Value.ref _]) (McSrc _) _ _); k_dflt (refine' mc_call ?F_14 ?N_14 ?m_14 ?_; (case F_14 => k_asm); (case N_14 => k_asm); (case m_14 => k_mem)); intro D9' T9' ti9' h9' tk9' F9' N9' l19 l29; (try k_lt l19); (try k_lt2 l29); (try k_sweep))
  k_with "mine_split" => (repeat' (first | exact Split.here | apply Split.skip))
  k_with "eval GeneratorExp" => (k_here; k_dflt (refine' gen_make ?F_16 (Split.toNews ?N_16 ?sp_16) ?h51_16 ?tb_16 ?G_16 ?X_16 ?T_16 ?hh_16 ?hcode_16 ?hgl_16 ?room_16 ?hek_16 ?hey_16 ?hdy_16 ?hvy_16 ?hml_16 ?hmc_16 ?hoc_16 ?hms_16 ?hmd_16 ?hfm_16 ?hq_16 ?hco_16 ?hclos_16 ?hcell_16 ?h0_16 ?hx_16 ?hsn_16 ?hkind_16 ?hdx_16 ?hds_16 ?hdc_16 ?_); (case F_16 => k_asm); (case N_16 => k_asm); (case sp_16 => walk_at "mine_split"); (case h51_16 => k_all); (case tb_16 => assumption); (case G_16 => assumption); (case X_16 => k_asm); (case T_16 => k_asm); (case hh_16 => rfl); (case hcode_16 => rfl); (case hgl_16 => rfl); (case room_16 => ktr_room); (case hek_16 => rfl); (case hey_16 => with_unfolding_all rfl); (case hdy_16 => decide); (case hvy_16 => with_unfolding_all rfl); (case hml_16 => k_mem); (case hclos_16 => with_unfolding_all rfl); (case hmc_16 => k_mem); (case hoc_16 => assumption); (case hms_16 => k_mem); (case hmd_16 => k_mem); (case hfm_16 => k_get); (case hq_16 => omega); (case hco_16 => rfl); (case hcell_16 => decide); (case h0_16 => rfl); (case hx_16 => rfl); (case hsn_16 => rfl); (case hkind_16 => rfl); (case hdx_16 => decide); (case hds_16 => decide); (case hdc_16 => decide); intro a9' tb9' h9' g9' tk9' G9' TB9' F9' N9' X9'; (try k_sweep))
  k_with "call type:tuple" => (k_here; k_dflt (refine' call_tuple_tup ?T_17 ?_); (case T_17 => exact News.isTup (by k_asm) (by k_mem)); (try dsimp only))
  k_with "call type:tuple" => (k_here; (rename GenR _ _ _ _ _ _ _ _ _ _ => gX9'); k_dflt (refine' gen_tuple ?F_18 ?N_18 ?G_18 gX9' ?_); (case F_18 => k_asm); (case N_18 => k_asm); (case G_18 => assumption); intro D9' t19' t29' h9' g9' tk9' G9' F9' N9' l19; clear gX9'; (try k_lt l19); (try k_sweep))
  k_with "mine_reg" => (w_on; (have _h : (PySem.Challenge.rw_kh0013_01 = PySem.Challenge.rw_kh0013_01) ∧ (Mine.hd.heap_1 = Mine.hd.heap_1) := by (k_fill; exact ⟨rfl, rfl⟩)); clear _h)
  k_with "mine_enter" => (refine' enter_def ?k1_20 ?k2_20 ?k3_20 ?k4_20 ?k5_20 ?kA_20 ?kF_20 ?kK_20 ?k6_20 ?k7_20 ?k8_20 ?k9_20 ?kB_20 ?_ ?c2_20 ?c3_20 ?c4_20 ?c5_20; (case kA_20 => exact rfl); (case kF_20 => exact rfl); (case kK_20 => first | exact rfl | assumption); (case k1_20 => k_asm); (case k2_20 => k_asm); (case k3_20 => k_asm); (case k4_20 => k_asm); (case k5_20 => k_asm); (case k6_20 => k_is); (case k7_20 => k_is); (case k8_20 => ktr_room); (case k9_20 => exact BindsTo.of_eq rfl); (case c5_20 => decide); (case kB_20 => exact locs rfl); (case c2_20 => exact rfl); (case c3_20 => exact rfl); (case c4_20 => exact rfl); k_whole; intro g9' L9' h9' FG9' F9' N9' B9' X9' T9' hBs; (try dsimp only); (try k_lift B9'); (try k_fold))
  k_with "mine_sit" => (refine' Sit.mk ?B_21 ?F_21 ?X_21 (Split.toNews ?N_21 ?sp_21) ?T_21 ?hk_21 ?G_21 ?TB_21 ?n51_21 ?hdp_21 ?hun_21; (case B_21 => k_asm); (case F_21 => k_asm); (case X_21 => k_asm); (case N_21 => k_asm); (case sp_21 => walk_at "mine_split"); (case T_21 => k_asm); (case hk_21 => first | exact rfl | assumption); (case G_21 => assumption); (case TB_21 => assumption); (case n51_21 => first | assumption | k_all); (case hdp_21 => ktr_room); (case hun_21 => ktr_units))
  k_with "mine_ret" => (intro x9' d9' ml9' mp9' cf9' tb9' h9' g9' tk9' e19' e29' e39' e49' e59' e69' e79' q19' q29' r19' r29' G9' TB9' F9' N9' l19 l29 l39 l49 l59; (have l1o9' := l19); (have o1x9' := off1_lt l19); (have l1y9' := LtAll.intro l19); (have o2x9' := off1_lt (all_lt_trans l19 l29)); (have o3x9' := off1_lt (all_lt_trans (all_lt_trans l19 l29) l39)); (have o4x9' := off1_lt (all_lt_trans (all_lt_trans (all_lt_trans l19 l29) l39) l49)); (have o5x9' := off1_lt (all_lt_trans (all_lt_trans (all_lt_trans (all_lt_trans l19 l29) l39) l49) l59)); (try k_lt l19); k_lt2 l29; k_lt2 l39; k_lt2 l49; k_lt2 l59; (try k_sweep); (try dsimp only))
  k_with "call ref" => (k_here; (with_reducible show wpAny _ _ (call (Value.ref 192) _) _ _ _); k_dflt (refine' mkS ?S_23 ?hlc_23 ?hmt_23 ?h2_23 ?h3_23 ?_); (case S_23 => walk_at "mine_sit"); (case hlc_23 => k_mem); (case hmt_23 => k_mem); (case h2_23 => first | assumption | omega); (case h3_23 => first | assumption | omega); walk_at "mine_ret")
  k_with "mine_fq" => (refine' And.intro ?f1_24 (And.intro (Exists.intro _ (Exists.intro _ (Exists.intro _ (Exists.intro _ (Exists.intro _ (Exists.intro _ (Exists.intro _ ?f2_24))))))) (And.intro ?f3_24 (And.intro (Exists.intro _ (Exists.intro _ ?f4_24)) (And.intro (Exists.intro _ (Exists.intro _ ?f5_24)) (Exists.intro _ (Exists.intro _ (Exists.intro _ ?f6_24))))))); (case f1_24 => k_mem); (case f2_24 => k_mem); (case f3_24 => k_mem); (case f4_24 => k_mem); (case f5_24 => k_mem); (case f6_24 => k_mem))
  k_with "call ref" => (k_here; (with_reducible show wpAny _ _ (call (Value.ref 181) _) _ _ _); k_dflt (refine' made ?S_25 ?hS_25 ?hlc_25 ?h2_25 ?h3_25 ?_); (case S_25 => walk_at "mine_sit"); (case hS_25 => walk_at "mine_fq"); (case hlc_25 => k_mem); (case h2_25 => first | assumption | omega); (case h3_25 => first | assumption | omega); walk_at "mine_ret")
  k_with "mine_lt" => ((repeat (first | exact allLt_nil | refine allLt_cons (by first | (refine' lt_mem ?lm_26 ?mm_26; (case lm_26 => with_reducible assumption); (case mm_26 => ((repeat (first | exact List.Mem.head _ | refine List.Mem.tail _ ?_)); done))) | omega) ?_)); done)
  k_with "UnrEndW" => k_dflt (first | (refine' unr_end2 ?F_27 ?N_27 ?l_27 ?k_27 ?_; (case F_27 => k_asm); (case N_27 => k_asm); (case l_27 => walk_at "mine_lt"); (case k_27 => k_subL)) | (refine' unr_end1 ?F_27 ?N_27 ?l_27 ?k_27 ?_; (case F_27 => k_asm); (case N_27 => k_asm); (case l_27 => walk_at "mine_lt"); (case k_27 => k_subL)))
  k_with "getItem ref int" => (k_here; (with_reducible show wpAny _ _ (getItem (Value.ref _) (Value.int _ _)) _ _ _); k_dflt (refine' get_here ?N_28 ?m_28 ?a_28 ?b_28 ?x_28 ?_; (case N_28 => k_asm); (case m_28 => k_mem); (case a_28 => decide); (case b_28 => decide); (case x_28 => rfl); k_whole))
  k_with "subscriptTail" => (k_here; (with_reducible show wpAny _ _ (subscriptTail _ _ (Value.ref _) (Value.int _ _)) _ _ _); with_unfolding_all (first | (refine' item_tupleT ?t_29 ?a_29 ?b_29 ?c_29 ?d_29 ?_ ?e_29; (case t_29 => exact News.isTup (by k_asm) (by k_mem)); (case a_29 => decide); (case b_29 => decide); (case c_29 => rfl); (case d_29 => rfl); (case e_29 => with_unfolding_all rfl); k_whole) | (refine' sub_here ?N_29 ?m_29 ?k2_29 ?k3_29 ?k4_29 ?_ ?k6_29; (case N_29 => k_asm); (case m_29 => k_mem); (case k2_29 => decide); (case k3_29 => decide); (case k4_29 => rfl); (case k6_29 => with_unfolding_all rfl); k_whole)))
  k_with "setItem ref int" => (k_here; k_dflt (refine' ki_set ?F_30 ?N_30 ?a_30 ?b_30 ?e_30 ?U_30 ?_; (case F_30 => k_asm); (case N_30 => k_asm); (case U_30 => k_upd); (case a_30 => decide); (case b_30 => decide); (case e_30 => rfl)); ki_rest)
  k_with "binaryOp Mult ref int" => (k_here; (with_reducible show wpAny _ _ (binaryOp Operator.Mult (Value.ref _) (Value.int _ _)) _ _ _); k_dflt (refine' KMa.mul ?F_31 ?N_31 ?l_31 ?lo_31 ?hi_31 ?z_31 ?e_31 ?_; (case F_31 => k_asm); (case N_31 => k_asm); (case l_31 => is_list); (case lo_31 => first | omega | decide); (case hi_31 => first | omega | decide); (case z_31 => (simp only [List.length_cons, List.length_nil]; decide)); (case e_31 => (simp only [Int.reduceMul, Int.reduceSub, Int.reduceAdd, Int.reduceToNat, List.replicate_succ, List.replicate_zero, List.flatten_cons, List.flatten_nil, List.cons_append, List.nil_append, List.append_nil]; first | done | exact rfl)); k_whole); intro D9' h9' F9' N9' l19; (have o1x9' := off1_lt l19); (have l1y9' := LtAll.intro l19); (try k_lt l19); (try k_sweep))
  k_with "subscriptTail Name Name ref int" => (k_here; k_dflt (refine' sub_here ?N_32 ?m_32 ?k2_32 ?k3_32 ?k4_32 ?_ ?k6_32; (case N_32 => k_asm); (case m_32 => k_mem); (case k2_32 => decide); (case k3_32 => decide); (case k4_32 => rfl); (case k6_32 => with_unfolding_all rfl); k_whole); (try dsimp only))
  k_with "subscriptTail Name BinOp ref int" => (k_here; k_dflt (refine' sub_here ?N_33 ?m_33 ?k2_33 ?k3_33 ?k4_33 ?_ ?k6_33; (case N_33 => k_asm); (case m_33 => k_mem); (case k2_33 => decide); (case k3_33 => decide); (case k4_33 => rfl); (case k6_33 => with_unfolding_all rfl); k_whole); (try dsimp only))
  k_with "subscriptTail Name Constant ref int" => (k_here; k_dflt (refine' sub_here ?N_34 ?m_34 ?k2_34 ?k3_34 ?k4_34 ?_ ?k6_34; (case N_34 => k_asm); (case m_34 => k_mem); (case k2_34 => decide); (case k3_34 => decide); (case k4_34 => rfl); (case k6_34 => with_unfolding_all rfl); k_whole); (try dsimp only))
  k_with "mine_fq" => (first | exact (by with_reducible assumption) | exact (FqAt.tail (by with_reducible assumption)) | exact (FqAt.tail (FqAt.tail (by with_reducible assumption))) | exact (FqAt.tail (FqAt.tail (FqAt.tail (by with_reducible assumption)))) | exact (FqAt.tail (FqAt.tail (FqAt.tail (FqAt.tail (by with_reducible assumption))))) | exact (FqAt.tail (FqAt.tail (FqAt.tail (FqAt.tail (FqAt.tail (by with_reducible assumption)))))) | exact (FqAt.tail (FqAt.tail (FqAt.tail (FqAt.tail (FqAt.tail (FqAt.tail (by with_reducible assumption))))))) | exact (FqAt.tail (FqAt.tail (FqAt.tail (FqAt.tail (FqAt.tail (FqAt.tail (FqAt.tail (by with_reducible assumption)))))))) | exact (FqAt.tail (FqAt.tail (FqAt.tail (FqAt.tail (FqAt.tail (FqAt.tail (FqAt.tail (FqAt.tail (by with_reducible assumption))))))))) | exact (FqAt.tail (FqAt.tail (FqAt.tail (FqAt.tail (FqAt.tail (FqAt.tail (FqAt.tail (FqAt.tail (FqAt.tail (by with_reducible assumption)))))))))) | exact (FqAt.tail (FqAt.tail (FqAt.tail (FqAt.tail (FqAt.tail (FqAt.tail (FqAt.tail (FqAt.tail (FqAt.tail (FqAt.tail (by with_reducible assumption))))))))))) | exact (FqAt.tail (FqAt.tail (FqAt.tail (FqAt.tail (FqAt.tail (FqAt.tail (FqAt.tail (FqAt.tail (FqAt.tail (FqAt.tail (FqAt.tail (by with_reducible assumption)))))))))))) | exact (FqAt.tail (FqAt.tail (FqAt.tail (FqAt.tail (FqAt.tail (FqAt.tail (FqAt.tail (FqAt.tail (FqAt.tail (FqAt.tail (FqAt.tail (FqAt.tail (by with_reducible assumption))))))))))))) | exact (FqAt.tail (FqAt.tail (FqAt.tail (FqAt.tail (FqAt.tail (FqAt.tail (FqAt.tail (FqAt.tail (FqAt.tail (FqAt.tail (FqAt.tail (FqAt.tail (FqAt.tail (by with_reducible assumption)))))))))))))) | exact (FqAt.tail (FqAt.tail (FqAt.tail (FqAt.tail (FqAt.tail (FqAt.tail (FqAt.tail (FqAt.tail (FqAt.tail (FqAt.tail (FqAt.tail (FqAt.tail (FqAt.tail (FqAt.tail (by with_reducible assumption))))))))))))))) | exact (FqAt.tail (FqAt.tail (FqAt.tail (FqAt.tail (FqAt.tail (FqAt.tail (FqAt.tail (FqAt.tail (FqAt.tail (FqAt.tail (FqAt.tail (FqAt.tail (FqAt.tail (FqAt.tail (FqAt.tail (by with_reducible assumption)))))))))))))))) | exact FqAt.mk6 (by k_dflt k_mem) (by k_dflt k_mem) (by k_dflt k_mem) (by k_dflt k_mem) (by k_dflt k_mem) (by k_dflt k_mem))
  k_with "mine_ne" => (refine neN ?_; (try dsimp only); first | (with_reducible assumption) | ((refine Ne51.ne ?_); with_reducible assumption) | ((refine Ne51.ne' ?_); with_reducible assumption) | (refine' off1_ne ?o1 ?m1; (case o1 => with_reducible assumption); (case m1 => ((repeat (first | exact List.Mem.head _ | refine List.Mem.tail _ ?_)); done))) | (refine' Ne.symm (off1_ne ?o1 ?m1); (case o1 => with_reducible assumption); (case m1 => ((repeat (first | exact List.Mem.head _ | refine List.Mem.tail _ ?_)); done))) | omega)
  walk_at "mine_reg"
  obtain ⟨B, F, X, N, T, hk, G, TB, n51, hdp, hun⟩ := S
  refine wpAny_call ?_
  k_dflt (walk_at "mine_enter")
  clear N
  refine let_entry ?_
  intro M9 A9 e9 E9 Qk
  w_strict (repeat' (k_extra "mine_step"))
  rename Fr h₀ _ _ m => kF
  rename News h₀ L _ _ => kN
  have ex : x.fmod n = x := by rw [Int.fmod_eq_emod_of_nonneg _ (by omega), Int.emod_eq_of_lt hx.1 hx.2]
  have ey : y.fmod n = y := by rw [Int.fmod_eq_emod_of_nonneg _ (by omega), Int.emod_eq_of_lt hy.1 hy.2]
  simp only [ex, ey] at kN
  obtain ⟨nw, N9, d1, d2, f9⟩ := madeEnd kN (by assumption) (by assumption) (by assumption) (by assumption) (by assumption) (by assumption) (by assumption)
  exact hret _ _ _ _ _ _ _ nw _ _ _ (by assumption) (by assumption) kF N9 d1 d2 f9
end
end C17_part
/-! C18 -/
section C18_part
open PySem PySem.W PyProof.Rows PySem.Calls
def Hold2 (P : Prop) : Prop := P
theorem Hold2.out {P : Prop} (h : Hold2 P) : P := h
section
variable {w : World} {p : Program} {loose : List Str} {mean : ExcName → Option Value} {mg mb : Str → Option Value} {dp un : Nat} {gd : Option (List Code)} {cn : Str} {cs : Scope} {a : Addr} {ccd : Value} {cl : List (Str × Addr)} {outer : List Env} {A₀ : Around} {base h₀ : Heap} {L : Addr} {m : Str → Option Value} {tb : Obj} {news : List (Addr × Obj)} {s : Shared} {Q E : Value → Shared → Prop}

/-- the powers of the root -/
def rv (n h : Int) : Nat → G
  | 0 => (1, 0)
  | k + 1 => (((rv n h k).1 * h - (rv n h k).2 * h) % n, ((rv n h k).1 * h + (rv n h k).2 * h) % n)
theorem rv_rg {n h : Int} (h1 : 1 < n) : ∀ k, (0 ≤ (rv n h k).1 ∧ (rv n h k).1 < n) ∧ 0 ≤ (rv n h k).2 ∧ (rv n h k).2 < n
  | 0 => ⟨⟨Int.le_of_lt Int.zero_lt_one, h1⟩, Int.le_refl 0, Int.lt_trans Int.zero_lt_one h1⟩
  | k + 1 => ⟨⟨Int.emod_nonneg _ (by omega), Int.emod_lt_of_pos _ (by omega)⟩, Int.emod_nonneg _ (by omega), Int.emod_lt_of_pos _ (by omega)⟩
def halfP (P : Nat) : Nat := ((P - 1) / 2) ^ ((P + 1) / 4) % P
set_option genInjectivity false in
set_option genSizeOf false in
structure RtSt where
  tb : Obj
  rows : List (Addr × Obj)
  lr : Addr
  its : Array Value
  kc : Nat
  tp : Addr
  x : Int
  y : Int
  t1 : Tok
  t2 : Tok
  kt : Nat
  th : Tok
  tn : Tok
def RtLed (c : RtSt) : List (Addr × Obj) := (c.tp, { cls := .type "tuple", data := .seq #[.int c.x c.t1, .int c.y c.t2] c.kt }) :: (c.lr, { cls := .type "list", data := .seq c.its c.kc }) :: (51, c.tb) :: c.rows
def RtPs (P : Nat) (c : RtSt) : List (Str × Value) := [(Str.ofString "row", .ref c.lr), (Str.ofString "now", .ref c.tp), (Str.ofString "half", .int (halfP P : Int) c.th), (Str.ofString "prime", .int (P : Int) c.tn)]
def RtInv (w : World) (news : List (Addr × Obj)) (P : Nat) (i : Nat) (c : RtSt) : Prop :=
  TabOk c.tb ∧ (∀ p ∈ c.rows, p.1 ≠ 51) ∧ (∀ p ∈ c.rows, p.1 ≠ c.lr) ∧ c.lr ≠ 51 ∧ c.tp ≠ 51 ∧ c.tp ≠ c.lr ∧ (∀ p ∈ news, p ∈ c.rows) ∧ (c.x, c.y) = rv P (halfP P) i ∧ c.its.size = i ∧
    ∀ k, k < i → ∃ r, c.its[k]? = some (.ref r) ∧ RtAt w.params c.rows r P (rv P (halfP P) k)
theorem rowsOpen {h₀ h : Heap} {L I tp lr : Addr} {o to lo tb : Obj} {rows : List (Addr × Obj)} (N : News h₀ L h ((I, o) :: (tp, to) :: (lr, lo) :: (51, tb) :: rows)) (h1 : ∀ p ∈ rows, p.1 ≠ 51) (h2 : ∀ p ∈ rows, p.1 ≠ lr) (h3 : tp ≠ 51) (h4 : tp ≠ lr)
    (hI : ∀ p ∈ (tp, to) :: (lr, lo) :: (51, tb) :: rows, p.1 ≠ I) : ∃ rows1, News h₀ L h ((51, tb) :: (lr, lo) :: (I, o) :: rows1) ∧ I ≠ 51 ∧ I ≠ lr ∧ (tp, to) ∈ rows1 ∧ (∀ p ∈ rows, p ∈ rows1) ∧ (∀ p ∈ rows1, p.1 ≠ 51) ∧ (∀ p ∈ rows1, p.1 ≠ lr) ∧ (∀ p ∈ rows1, p.1 ≠ I) := by
  refine ⟨(tp, to) :: rows, fun p hp => N p ?_, fun e => hI _ (.tail _ (.tail _ (.head _))) e.symm, fun e => hI _ (.tail _ (.head _)) e.symm, .head _, fun p hp => .tail _ hp, fun p hp => ?_, fun p hp => ?_, fun p hp => ?_⟩
  · simp only [List.mem_cons] at hp ⊢
    rcases hp with rfl | rfl | rfl | rfl | hp <;> simp [*]
  · rcases List.mem_cons.mp hp with rfl | hp
    · exact h3
    · exact h1 p hp
  · rcases List.mem_cons.mp hp with rfl | hp
    · exact h4
    · exact h2 p hp
  · rcases List.mem_cons.mp hp with rfl | hp
    · exact hI _ (.head _)
    · exact hI p (.tail _ (.tail _ (.tail _ hp)))
theorem rowsMade {P : Params} {h₀ h : Heap} {L lr I : Addr} {lo tb o : Obj} {nw rows : List (Addr × Obj)} {x' d ml mp cf mt : Addr} {n x y : Int} (N : News h₀ L h ((51, tb) :: (nw ++ (lr, lo) :: (I, o) :: rows))) (h1 : ∀ p ∈ rows, p.1 ≠ 51) (h2 : ∀ p ∈ rows, p.1 ≠ lr) (hI : ∀ p ∈ rows, p.1 ≠ I) (h3 : ∀ p ∈ nw, p.1 ≠ 51) (h4 : ∀ p ∈ nw, ∀ q ∈ (lr, lo) :: (I, o) :: rows, p.1 ≠ q.1) (f : FqAt P nw x' d ml mp cf mt n x y) :
    ∃ rows2, News h₀ L h ((51, tb) :: (lr, lo) :: (I, o) :: rows2) ∧ (∀ p ∈ rows, p ∈ rows2) ∧ (∀ p ∈ rows2, p.1 ≠ 51) ∧ (∀ p ∈ rows2, p.1 ≠ lr) ∧ (∀ p ∈ rows2, p.1 ≠ I) ∧ RtAt P rows2 x' n (x, y) := by
  refine ⟨nw ++ rows, fun p hp => N p ?_, fun p hp => List.mem_append_right _ hp, fun p hp => ?_, fun p hp => ?_, fun p hp => ?_, f.rt.sub fun p hp => List.mem_append_left _ hp⟩
  · simp only [List.mem_cons, List.mem_append] at hp ⊢
    rcases hp with rfl | rfl | rfl | hp | hp <;> simp [*]
  · exact (List.mem_append.mp hp).elim (h3 p) (h1 p)
  · exact (List.mem_append.mp hp).elim (fun q => h4 p q _ (.head _)) (h2 p)
  · exact (List.mem_append.mp hp).elim (fun q => h4 p q _ (.tail _ (.head _))) (hI p)
theorem lt8 : ∀ i, i < 8 → i = 0 ∨ i = 1 ∨ i = 2 ∨ i = 3 ∨ i = 4 ∨ i = 5 ∨ i = 6 ∨ i = 7 := by decide
theorem its8 {its : Array Value} {Pr : Nat → Addr → Prop} (h : its.size = 8) (ha : ∀ k, k < 8 → ∃ r, its[k]? = some (.ref r) ∧ Pr k r) :
    ∃ rs : Nat → Addr, its = #[.ref (rs 0), .ref (rs 1), .ref (rs 2), .ref (rs 3), .ref (rs 4), .ref (rs 5), .ref (rs 6), .ref (rs 7)] ∧ ∀ k, k < 8 → Pr k (rs k) := by
  obtain ⟨r0, e0, p0⟩ := ha 0 (by decide)
  obtain ⟨r1, e1, p1⟩ := ha 1 (by decide)
  obtain ⟨r2, e2, p2⟩ := ha 2 (by decide)
  obtain ⟨r3, e3, p3⟩ := ha 3 (by decide)
  obtain ⟨r4, e4, p4⟩ := ha 4 (by decide)
  obtain ⟨r5, e5, p5⟩ := ha 5 (by decide)
  obtain ⟨r6, e6, p6⟩ := ha 6 (by decide)
  obtain ⟨r7, e7, p7⟩ := ha 7 (by decide)
  refine ⟨fun k => match k with | 0 => r0 | 1 => r1 | 2 => r2 | 3 => r3 | 4 => r4 | 5 => r5 | 6 => r6 | _ => r7, ?_, fun k hk => ?_⟩
  · apply Array.ext_getElem?
    intro i
    by_cases hi : i < 8
    · have := lt8 i hi
      rcases this with rfl | rfl | rfl | rfl | rfl | rfl | rfl | rfl
      · exact e0
      · exact e1
      · exact e2
      · exact e3
      · exact e4
      · exact e5
      · exact e6
      · exact e7
    · rw [Array.getElem?_eq_none (by omega), Array.getElem?_eq_none (show 8 ≤ i by omega)]
  · have := lt8 k hk
    rcases this with rfl | rfl | rfl | rfl | rfl | rfl | rfl | rfl
    · exact p0
    · exact p1
    · exact p2
    · exact p3
    · exact p4
    · exact p5
    · exact p6
    · exact p7
theorem newsRot {h₀ h : Heap} {L : Addr} {a b c : Addr × Obj} {r : List (Addr × Obj)} (N : News h₀ L h (a :: b :: c :: r)) : News h₀ L h (c :: a :: b :: r) := fun p hp => N p (by
  simp only [List.mem_cons] at hp ⊢
  rcases hp with rfl | rfl | rfl | hp <;> simp [*])
theorem rtEnd {w : World} {h₀ h' : Heap} {L D Dh lr I r : Addr} {tb dh o : Obj} {its : Array Value} {kc P i : Nat} {news rows rows2 : List (Addr × Obj)} {m' : Str → Option Value} {g' : Array GenState} {tk : Nat} {s0 : Shared} {x y : Int} {q1 q2 th tn : Tok} (F : Fr h₀ L h' m')
    (N : News h₀ L h' ((D, { cls := .type "tuple", data := .seq #[.int ((x * (halfP P : Int) - y * (halfP P : Int)) % (P : Int)) q1, .int ((x * (halfP P : Int) + y * (halfP P : Int)) % (P : Int)) q2] }) :: (51, tb) :: (Dh, dh) :: (lr, listOf (its.push (.ref r)) (kc + 1)) :: (I, o) :: rows2)) (hg : AllBare g') (TB : TabOk tb)
    (hrow : m' (Str.ofString "row") = some (.ref lr)) (hnow : m' (Str.ofString "now") = some (.ref D)) (hhalf : m' (Str.ofString "half") = some (.int (halfP P : Int) th)) (hprime : m' (Str.ofString "prime") = some (.int (P : Int) tn))
    (exy : (x, y) = rv P (halfP P) i) (esz : its.size = i) (hall : ∀ k, k < i → ∃ r, its[k]? = some (.ref r) ∧ RtAt w.params rows r P (rv P (halfP P) k)) (rsub : ∀ p ∈ news, p ∈ rows) (s2 : ∀ p ∈ rows, p ∈ rows2) (rt : RtAt w.params rows2 r (P : Int) (x, y))
    (n51 : ∀ p ∈ rows2, p.1 ≠ 51) (nlr : ∀ p ∈ rows2, p.1 ≠ lr) (nI : ∀ p ∈ rows2, p.1 ≠ I) (lr51 : lr ≠ 51) (I51 : I ≠ 51) (Ilr : I ≠ lr) (l5 : ∀ p ∈ (51, tb) :: (Dh, dh) :: (lr, listOf (its.push (.ref r)) (kc + 1)) :: (I, o) :: rows2, p.1 < D) (l6 : 51 < Dh ∧ lr < Dh ∧ I < Dh ∧ AllLt Dh rows2) :
    FoEnd h₀ L s0 AllBare RtLed (RtPs P) (RtInv w news P (i + 1)) I o { s0 with heap := h', gens := g', toks := tk } := by
  refine FoEnd.intro F N hg ⟨tb, (Dh, dh) :: rows2, lr, its.push (.ref r), kc + 1, D, (x * (halfP P : Int) - y * (halfP P : Int)) % (P : Int), (x * (halfP P : Int) + y * (halfP P : Int)) % (P : Int), q1, q2, 0, th, tn⟩ (.tail _ (.tail _ (.tail _ (.tail _ (.head _))))) (fun p hp => ?_) (fun p hp => ?_) (fun p hp => ?_) ?_
  · simp only [RtLed, List.mem_cons] at hp ⊢
    rcases hp with rfl | rfl | rfl | rfl | hp <;> simp [*]
  · simp only [RtLed, List.mem_cons] at hp
    rcases hp with rfl | rfl | rfl | rfl | hp
    · exact Nat.ne_of_gt (l5 (I, o) (.tail _ (.tail _ (.tail _ (.head _)))))
    · exact Ne.symm Ilr
    · exact Ne.symm I51
    · exact Nat.ne_of_gt l6.2.2.1
    · exact nI p hp
  · simp only [RtPs, List.mem_cons, List.not_mem_nil, or_false] at hp
    rcases hp with rfl | rfl | rfl | rfl
    · exact hrow
    · exact hnow
    · exact hhalf
    · exact hprime
  · refine ⟨TB, fun p hp => ?_, fun p hp => ?_, lr51, Nat.ne_of_gt (l5 (51, tb) (.head _)), Nat.ne_of_gt (l5 (lr, _) (.tail _ (.tail _ (.head _)))), fun p hp => .tail _ (s2 p (rsub p hp)), ?_, ?_, fun k hk => ?_⟩
    · rcases List.mem_cons.mp hp with rfl | hp
      · exact Nat.ne_of_gt l6.1
      · exact n51 p hp
    · rcases List.mem_cons.mp hp with rfl | hp
      · exact Nat.ne_of_gt l6.2.1
      · exact nlr p hp
    · show _ = (((rv P (halfP P) i).1 * _ - (rv P (halfP P) i).2 * _) % _, ((rv P (halfP P) i).1 * _ + (rv P (halfP P) i).2 * _) % _)
      rw [← exy]
    · show (its.push _).size = _
      rw [Array.size_push, esz]
    · show ∃ r', (its.push (.ref r))[k]? = some (.ref r') ∧ RtAt w.params ((Dh, dh) :: rows2) r' P (rv P (halfP P) k)
      by_cases hki : k = i
      · subst hki
        refine ⟨r, ?_, ?_⟩
        · rw [← esz, Array.getElem?_push_size]
        · rw [← exy]
          exact rt.tail
      · obtain ⟨r', e1, e2⟩ := hall k (by omega)
        refine ⟨r', ?_, (e2.sub s2).tail⟩
        rw [Array.getElem?_push, if_neg (by omega)]
        exact e1
set_option maxRecDepth 100000 in
set_option maxHeartbeats 4000000 in
theorem lroots {P : Nat} {tn : Tok} (S : Sit w p loose mean mg mb 8 dp un cs outer A₀ base h₀ L m tb news s) (h11 : 11 ≤ P) (h2 : 1 < (P : Int)) (h3 : (P : Int) < 1000)
    (hret : ∀ (rl : Addr) (rs : Nat → Addr) tb' rows h' g' tk' kr, AllBare g' → TabOk tb' → Fr h₀ L h' m → News h₀ L h' ((51, tb') :: rows) → (∀ p ∈ news, p ∈ rows) → (∀ p ∈ rows, p.1 ≠ 51) →
      (rl, ({ cls := .type "list", data := .seq #[.ref (rs 0), .ref (rs 1), .ref (rs 2), .ref (rs 3), .ref (rs 4), .ref (rs 5), .ref (rs 6), .ref (rs 7)] kr } : Obj)) ∈ rows → (∀ k, k < 8 → RtAt w.params rows (rs k) (P : Int) (rv P (halfP P) k)) → Q (.ref rl) { s with heap := h', gens := g', toks := tk' }) :
    wpAny (model PySem.Challenge.rw_kh0013_01.row.prog w) (ktrTop dp un gd cn cs L a ccd cl outer) (call (.ref 222) [.int (P : Int) tn]) Q E s := by
  k_with_none
  k_with "mine_fold" => first | (have F8 := F7; have N8 := N7; clear F8 N8) | (rename Fr _ _ _ _ => F7; rename News _ _ _ _ => N7; revert F7 N7; refine let_FN ?_; intro m7 n7 F7 N7)
  k_with "execs cons" => ((try dsimp only); first | (refine let_one ?_; intro s7 Qk) | (refine let_cons ?_; intro s7 Qk Qk))
  k_with "mine_step" => (first | (with_reducible show Qk _ _; dsimp only [Qk]; clear Qk) | (k_unfold; (try dsimp only)) | (k_end; kc_close) | walk1 | (dsimp only; walk1) | (leave1; walk_say "STEP leave1"; (try dsimp only)))
  k_with "CompRest" => (with_unfolding_all first | (refine LCg.CompRest.succ ?_; intro v9' I9' oI9' C9' oC9' D9' m9' h9' tk9' E9' hv9' hC9' hx9' F9' N9' off9' ne9'; clear ne9'; (first | lcg_open hv9' | (obtain ⟨t99', hv99'⟩ := hv9'; subst hv99'))) | refine LCg.CompRest.zero ?_)
  k_with "CompEnd" => (k_here; (refine' LCg.CompEnd.intro ?F_1 ?N_1 _ (fun p hp => hp) ?off_1 ?S_1 ?_); (case F_1 => k_asm); (case N_1 => k_asm); (case off_1 => assumption); (case S_1 => (refine' srcAt_led ?m9_1; (case m9_1 => k_mem))))
  k_with "FinE" => ((unfold LCg.FinE); intro D9' h9' tk9' F9' N9' o19'; (have o519' := Ne51.intro (off1_ne (a := 51) o19' (by k_dflt k_mem))); (try simp only [List.nil_append, List.cons_append] at N9'); (try dsimp only))
  k_with "eval ListComp" => (k_here; k_dflt (refine LCg.ListComp_U (F₀ := by k_asm) (by with_unfolding_all rfl) (by decide) (by rfl) (by decide) (by rfl) ?_); k_dflt lcg_toSrc)
  k_with "CompSrc" => (k_here; k_dflt (refine LCg.CompSrc.ledger (by rfl) (by k_asm) (by k_asm) (by k_mem) (by first | size_fits | exact Nat.le_of_ble_eq_true rfl) ?_; intro g9'; lcg_lit))
  k_with "exec For Name Call cons nil" => (k_here; (rename Fr _ _ _ _ => lF9'); (with_unfolding_all refine' For_turns lF9' ?_; k_whole))
  k_with "pyIter ref" => (k_here; (with_reducible show wpAny _ _ (pyIter (Value.ref _)) (fun it s₂ => TurnsAt _ _ _ _ _ _ _ _ _ it s₂) _ _); (with_reducible rename IsRange _ _ _ _ _ _ _ _ => rX9'); with_unfolding_all (first | (refine' range_turns (xs := [Itm.tok (fun t => Value.int (0 : Int) t)]) ?hh_6 ?F_6 ?N_6 rX9' ?sm_6 ?hn_6 ?hx_6 ?_; (case hn_6 => decide +kernel); (case sm_6 => decide +kernel); (case hx_6 => rfl)) | (refine' range_turns (xs := [Itm.tok (fun t => Value.int (1 : Int) t), Itm.tok (fun t => Value.int (0 : Int) t)]) ?hh_6 ?F_6 ?N_6 rX9' ?sm_6 ?hn_6 ?hx_6 ?_; (case hn_6 => decide +kernel); (case sm_6 => decide +kernel); (case hx_6 => rfl)) | (refine' range_turns (xs := [Itm.tok (fun t => Value.int (0 : Int) t), Itm.tok (fun t => Value.int (1 : Int) t)]) ?hh_6 ?F_6 ?N_6 rX9' ?sm_6 ?hn_6 ?hx_6 ?_; (case hn_6 => decide +kernel); (case sm_6 => decide +kernel); (case hx_6 => rfl)) | (refine' range_turns (xs := [Itm.tok (fun t => Value.int (0 : Int) t), Itm.tok (fun t => Value.int (1 : Int) t), Itm.tok (fun t => Value.int (2 : Int) t)]) ?hh_6 ?F_6 ?N_6 rX9' ?sm_6 ?hn_6 ?hx_6 ?_; (case hn_6 => decide +kernel); (case sm_6 => decide +kernel); (case hx_6 => rfl)) | (refine' range_turns (xs := [Itm.tok (fun t => Value.int (2 : Int) t), Itm.tok (fun t => Value.int (1 : Int) t), Itm.tok (fun t => Value.int (0 : Int) t)]) ?hh_6 ?F_6 ?N_6 rX9' ?sm_6 ?hn_6 ?hx_6 ?_; (case hn_6 => decide +kernel); (case sm_6 => decide +kernel); (case hx_6 => rfl)) | (refine' range_turns (xs := []) ?hh_6 ?F_6 ?N_6 rX9' ?sm_6 ?hn_6 ?hx_6 ?_; (case hn_6 => decide +kernel); (case sm_6 => decide +kernel); (case hx_6 => rfl))); (case hh_6 => rfl); (case F_6 => k_asm); (case N_6 => k_asm); clear rX9'; intro i9' l19; (have o1x9' := off1_lt l19); (have l1y9' := LtAll.intro l19); (try k_lt l19))
  k_with "call type:enumerate" => (k_here; k_dflt (refine' enum_make ?F_7 ?N_7 ?m_7 ?_); (case F_7 => k_asm); (case N_7 => k_asm); (case m_7 => k_mem); intro e9' h9' F9' N9' eX9'; (try k_sweep))
  k_with "call type:enumerate" => (k_here; (with_reducible show wpAny _ _ (call (Value.type _) [Value.ref _]) (fun xv s₁ => wpAny _ _ (pyIter xv) (fun it s₂ => TurnsAt _ _ _ _ _ _ _ _ _ it s₂) _ s₁) _ _); with_unfolding_all (refine' enum_turns (vs := [_, _]) (xs := [Itm.pair (fun t => Value.int (0 : Int) t) _, Itm.pair (fun t => Value.int (1 : Int) t) _]) ?hh_8 ?F_8 ?N_8 ?hm_8 ?hc_8 ?hd_8 ?hx_8 ?_; (case hh_8 => rfl); (case F_8 => k_asm); (case N_8 => k_asm); (case hm_8 => k_mem); (case hc_8 => rfl); (case hd_8 => rfl); (case hx_8 => rfl)); intro i9' l19; (try k_lt l19))
  k_with "call type:list" => (k_here; (rename EnumF _ _ _ _ _ _ _ => eX9'); k_dflt (refine' enum_list ?hh_9 ?F_9 ?N_9 eX9' ?_); (case hh_9 => rfl); (case F_9 => k_asm); (case N_9 => k_asm); intro S9' T19' T29' k19' k29' c9' h9' tk9' F9' N9' l19 l29 l39; clear eX9'; (try k_lt l19); (try k_lt2 l29); (try k_lt2 l39); (try k_sweep))
  k_with "exec For Tuple Call cons nil" => (k_here; (rename Fr _ _ _ _ => lF9'); (with_unfolding_all refine' For_turns lF9' ?_; k_whole))
  k_with "exec For Tuple Attribute cons nil" => (k_here; (rename Fr _ _ _ _ => lF9'); (with_unfolding_all refine' For_turns lF9' ?_; k_whole))
  k_with "mine_enterC" => (refine' enter_defC ?k1_12 ?k2_12 ?k3_12 ?k4_12 ?k5_12 ?kA_12 ?kF_12 ?kK_12 ?k6_12 ?k7_12 ?k8_12 ?k9_12 ?kB_12 ?kD_12 ?_ ?c2_12 ?c3_12 ?c4_12; (case kA_12 => exact rfl); (case kF_12 => exact rfl); (case kK_12 => first | exact rfl | assumption); (case k1_12 => k_asm); (case k2_12 => k_asm); (case k3_12 => k_asm); (case k4_12 => k_asm); (case k5_12 => k_asm); (case k6_12 => k_is); (case k7_12 => k_is); (case k8_12 => ktr_room); (case k9_12 => exact BindsTo.of_eq rfl); (case kB_12 => exact rfl); (case kD_12 => decide +kernel); (case c2_12 => exact rfl); (case c3_12 => exact rfl); (case c4_12 => exact rfl); k_whole; intro g9' L9' h9' tk9' cells9' FG9' F9' N9' Y9' B9' X9' T9' l19 hBs; (have o2x9' := off1_lt (all_lt_succ l19)); (try k_lt l19); k_cells Y9'; (try simp only [List.cons_append, List.nil_append] at N9'); (try dsimp only); (try k_lift B9'); (try k_fold))
  k_with "eval ListComp" => (k_here; (with_reducible show wpAny _ _ (eval (PySem.Expr.ListComp (PySem.Expr.Tuple _ _ _) _ _ _) _) _ _ _); k_dflt (refine mc_comp (by with_unfolding_all rfl) (by with_unfolding_all rfl) (by decide) (by rfl) (by decide) (by rfl) (by rfl) (by decide) (by decide) (by decide) ?_))
  k_with "call type:enumerate" => (k_here; (with_reducible show wpAny _ _ (call (Value.type _) [Value.ref _]) (McSrc _) _ _); k_dflt (refine' mc_call ?F_14 ?N_14 ?m_14 ?_; (case F_14 => k_asm); (case N_14 => k_asm); (case m_14 => k_mem)); intro D9' T9' ti9' h9' tk9' F9' N9' l19 l29; (try k_lt l19); (try k_lt2 l29); (try k_sweep))
  k_with "mine_split" => (repeat' (first | exact Split.here | apply Split.skip))
  k_with "eval GeneratorExp" => (k_here; k_dflt (refine' gen_make ?F_16 (Split.toNews ?N_16 ?sp_16) ?h51_16 ?tb_16 ?G_16 ?X_16 ?T_16 ?hh_16 ?hcode_16 ?hgl_16 ?room_16 ?hek_16 ?hey_16 ?hdy_16 ?hvy_16 ?hml_16 ?hmc_16 ?hoc_16 ?hms_16 ?hmd_16 ?hfm_16 ?hq_16 ?hco_16 ?hclos_16 ?hcell_16 ?h0_16 ?hx_16 ?hsn_16 ?hkind_16 ?hdx_16 ?hds_16 ?hdc_16 ?_); (case F_16 => k_asm); (case N_16 => k_asm); (case sp_16 => walk_at "mine_split"); (case h51_16 => k_all); (case tb_16 => assumption); (case G_16 => assumption); (case X_16 => k_asm); (case T_16 => k_asm); (case hh_16 => rfl); (case hcode_16 => rfl); (case hgl_16 => rfl); (case room_16 => ktr_room); (case hek_16 => rfl); (case hey_16 => with_unfolding_all rfl); (case hdy_16 => decide); (case hvy_16 => with_unfolding_all rfl); (case hml_16 => k_mem); (case hclos_16 => with_unfolding_all rfl); (case hmc_16 => k_mem); (case hoc_16 => assumption); (case hms_16 => k_mem); (case hmd_16 => k_mem); (case hfm_16 => k_get); (case hq_16 => omega); (case hco_16 => rfl); (case hcell_16 => decide); (case h0_16 => rfl); (case hx_16 => rfl); (case hsn_16 => rfl); (case hkind_16 => rfl); (case hdx_16 => decide); (case hds_16 => decide); (case hdc_16 => decide); intro a9' tb9' h9' g9' tk9' G9' TB9' F9' N9' X9'; (try k_sweep))
  k_with "call type:tuple" => (k_here; k_dflt (refine' call_tuple_tup ?T_17 ?_); (case T_17 => exact News.isTup (by k_asm) (by k_mem)); (try dsimp only))
  k_with "call type:tuple" => (k_here; (rename GenR _ _ _ _ _ _ _ _ _ _ => gX9'); k_dflt (refine' gen_tuple ?F_18 ?N_18 ?G_18 gX9' ?_); (case F_18 => k_asm); (case N_18 => k_asm); (case G_18 => assumption); intro D9' t19' t29' h9' g9' tk9' G9' F9' N9' l19; clear gX9'; (try k_lt l19); (try k_sweep))
  k_with "mine_reg" => (w_on; (have _h : (PySem.Challenge.rw_kh0013_01 = PySem.Challenge.rw_kh0013_01) ∧ (Mine.hd.heap_1 = Mine.hd.heap_1) := by (k_fill; exact ⟨rfl, rfl⟩)); clear _h)
  k_with "mine_enter" => (refine' enter_def ?k1_20 ?k2_20 ?k3_20 ?k4_20 ?k5_20 ?kA_20 ?kF_20 ?kK_20 ?k6_20 ?k7_20 ?k8_20 ?k9_20 ?kB_20 ?_ ?c2_20 ?c3_20 ?c4_20 ?c5_20; (case kA_20 => exact rfl); (case kF_20 => exact rfl); (case kK_20 => first | exact rfl | assumption); (case k1_20 => k_asm); (case k2_20 => k_asm); (case k3_20 => k_asm); (case k4_20 => k_asm); (case k5_20 => k_asm); (case k6_20 => k_is); (case k7_20 => k_is); (case k8_20 => ktr_room); (case k9_20 => exact BindsTo.of_eq rfl); (case c5_20 => decide); (case kB_20 => exact locs rfl); (case c2_20 => exact rfl); (case c3_20 => exact rfl); (case c4_20 => exact rfl); k_whole; intro g9' L9' h9' FG9' F9' N9' B9' X9' T9' hBs; (try dsimp only); (try k_lift B9'); (try k_fold))
  k_with "mine_sit" => (refine' Sit.mk ?B_21 ?F_21 ?X_21 (Split.toNews ?N_21 ?sp_21) ?T_21 ?hk_21 ?G_21 ?TB_21 ?n51_21 ?hdp_21 ?hun_21; (case B_21 => k_asm); (case F_21 => k_asm); (case X_21 => k_asm); (case N_21 => k_asm); (case sp_21 => walk_at "mine_split"); (case T_21 => k_asm); (case hk_21 => first | exact rfl | assumption); (case G_21 => assumption); (case TB_21 => assumption); (case n51_21 => first | assumption | k_all); (case hdp_21 => ktr_room); (case hun_21 => ktr_units))
  k_with "mine_ret" => (intro x9' d9' ml9' mp9' cf9' tb9' h9' g9' tk9' e19' e29' e39' e49' e59' e69' e79' q19' q29' r19' r29' G9' TB9' F9' N9' l19 l29 l39 l49 l59; (have l1o9' := l19); (have o1x9' := off1_lt l19); (have l1y9' := LtAll.intro l19); (have o2x9' := off1_lt (all_lt_trans l19 l29)); (have o3x9' := off1_lt (all_lt_trans (all_lt_trans l19 l29) l39)); (have o4x9' := off1_lt (all_lt_trans (all_lt_trans (all_lt_trans l19 l29) l39) l49)); (have o5x9' := off1_lt (all_lt_trans (all_lt_trans (all_lt_trans (all_lt_trans l19 l29) l39) l49) l59)); (try k_lt l19); k_lt2 l29; k_lt2 l39; k_lt2 l49; k_lt2 l59; (try k_sweep); (try dsimp only))
  k_with "call ref" => (k_here; (with_reducible show wpAny _ _ (call (Value.ref 192) _) _ _ _); k_dflt (refine' mkS ?S_23 ?hlc_23 ?hmt_23 ?h2_23 ?h3_23 ?_); (case S_23 => walk_at "mine_sit"); (case hlc_23 => k_mem); (case hmt_23 => k_mem); (case h2_23 => first | assumption | omega); (case h3_23 => first | assumption | omega); walk_at "mine_ret")
  k_with "mine_fq" => (refine' And.intro ?f1_24 (And.intro (Exists.intro _ (Exists.intro _ (Exists.intro _ (Exists.intro _ (Exists.intro _ (Exists.intro _ (Exists.intro _ ?f2_24))))))) (And.intro ?f3_24 (And.intro (Exists.intro _ (Exists.intro _ ?f4_24)) (And.intro (Exists.intro _ (Exists.intro _ ?f5_24)) (Exists.intro _ (Exists.intro _ (Exists.intro _ ?f6_24))))))); (case f1_24 => k_mem); (case f2_24 => k_mem); (case f3_24 => k_mem); (case f4_24 => k_mem); (case f5_24 => k_mem); (case f6_24 => k_mem))
  k_with "call ref" => (k_here; (with_reducible show wpAny _ _ (call (Value.ref 181) _) _ _ _); k_dflt (refine' made ?S_25 ?hS_25 ?hlc_25 ?h2_25 ?h3_25 ?_); (case S_25 => walk_at "mine_sit"); (case hS_25 => walk_at "mine_fq"); (case hlc_25 => k_mem); (case h2_25 => first | assumption | omega); (case h3_25 => first | assumption | omega); walk_at "mine_ret")
  k_with "mine_lt" => ((repeat (first | exact allLt_nil | refine allLt_cons (by first | (refine' lt_mem ?lm_26 ?mm_26; (case lm_26 => with_reducible assumption); (case mm_26 => ((repeat (first | exact List.Mem.head _ | refine List.Mem.tail _ ?_)); done))) | omega) ?_)); done)
  k_with "UnrEndW" => k_dflt (first | (refine' unr_end2 ?F_27 ?N_27 ?l_27 ?k_27 ?_; (case F_27 => k_asm); (case N_27 => k_asm); (case l_27 => walk_at "mine_lt"); (case k_27 => k_subL)) | (refine' unr_end1 ?F_27 ?N_27 ?l_27 ?k_27 ?_; (case F_27 => k_asm); (case N_27 => k_asm); (case l_27 => walk_at "mine_lt"); (case k_27 => k_subL)))
  k_with "getItem ref int" => (k_here; (with_reducible show wpAny _ _ (getItem (Value.ref _) (Value.int _ _)) _ _ _); k_dflt (refine' get_here ?N_28 ?m_28 ?a_28 ?b_28 ?x_28 ?_; (case N_28 => k_asm); (case m_28 => k_mem); (case a_28 => decide); (case b_28 => decide); (case x_28 => rfl); k_whole))
  k_with "subscriptTail" => (k_here; (with_reducible show wpAny _ _ (subscriptTail _ _ (Value.ref _) (Value.int _ _)) _ _ _); with_unfolding_all (first | (refine' item_tupleT ?t_29 ?a_29 ?b_29 ?c_29 ?d_29 ?_ ?e_29; (case t_29 => exact News.isTup (by k_asm) (by k_mem)); (case a_29 => decide); (case b_29 => decide); (case c_29 => rfl); (case d_29 => rfl); (case e_29 => with_unfolding_all rfl); k_whole) | (refine' sub_here ?N_29 ?m_29 ?k2_29 ?k3_29 ?k4_29 ?_ ?k6_29; (case N_29 => k_asm); (case m_29 => k_mem); (case k2_29 => decide); (case k3_29 => decide); (case k4_29 => rfl); (case k6_29 => with_unfolding_all rfl); k_whole)))
  k_with "setItem ref int" => (k_here; k_dflt (refine' ki_set ?F_30 ?N_30 ?a_30 ?b_30 ?e_30 ?U_30 ?_; (case F_30 => k_asm); (case N_30 => k_asm); (case U_30 => k_upd); (case a_30 => decide); (case b_30 => decide); (case e_30 => rfl)); ki_rest)
  k_with "binaryOp Mult ref int" => (k_here; (with_reducible show wpAny _ _ (binaryOp Operator.Mult (Value.ref _) (Value.int _ _)) _ _ _); k_dflt (refine' KMa.mul ?F_31 ?N_31 ?l_31 ?lo_31 ?hi_31 ?z_31 ?e_31 ?_; (case F_31 => k_asm); (case N_31 => k_asm); (case l_31 => is_list); (case lo_31 => first | omega | decide); (case hi_31 => first | omega | decide); (case z_31 => (simp only [List.length_cons, List.length_nil]; decide)); (case e_31 => (simp only [Int.reduceMul, Int.reduceSub, Int.reduceAdd, Int.reduceToNat, List.replicate_succ, List.replicate_zero, List.flatten_cons, List.flatten_nil, List.cons_append, List.nil_append, List.append_nil]; first | done | exact rfl)); k_whole); intro D9' h9' F9' N9' l19; (have o1x9' := off1_lt l19); (have l1y9' := LtAll.intro l19); (try k_lt l19); (try k_sweep))
  k_with "subscriptTail Name Name ref int" => (k_here; k_dflt (refine' sub_here ?N_32 ?m_32 ?k2_32 ?k3_32 ?k4_32 ?_ ?k6_32; (case N_32 => k_asm); (case m_32 => k_mem); (case k2_32 => decide); (case k3_32 => decide); (case k4_32 => rfl); (case k6_32 => with_unfolding_all rfl); k_whole); (try dsimp only))
  k_with "subscriptTail Name BinOp ref int" => (k_here; k_dflt (refine' sub_here ?N_33 ?m_33 ?k2_33 ?k3_33 ?k4_33 ?_ ?k6_33; (case N_33 => k_asm); (case m_33 => k_mem); (case k2_33 => decide); (case k3_33 => decide); (case k4_33 => rfl); (case k6_33 => with_unfolding_all rfl); k_whole); (try dsimp only))
  k_with "subscriptTail Name Constant ref int" => (k_here; k_dflt (refine' sub_here ?N_34 ?m_34 ?k2_34 ?k3_34 ?k4_34 ?_ ?k6_34; (case N_34 => k_asm); (case m_34 => k_mem); (case k2_34 => decide); (case k3_34 => decide); (case k4_34 => rfl); (case k6_34 => with_unfolding_all rfl); k_whole); (try dsimp only))
  k_with "mine_fq" => (first | exact (by with_reducible assumption) | exact (FqAt.tail (by with_reducible assumption)) | exact (FqAt.tail (FqAt.tail (by with_reducible assumption))) | exact (FqAt.tail (FqAt.tail (FqAt.tail (by with_reducible assumption)))) | exact (FqAt.tail (FqAt.tail (FqAt.tail (FqAt.tail (by with_reducible assumption))))) | exact (FqAt.tail (FqAt.tail (FqAt.tail (FqAt.tail (FqAt.tail (by with_reducible assumption)))))) | exact (FqAt.tail (FqAt.tail (FqAt.tail (FqAt.tail (FqAt.tail (FqAt.tail (by with_reducible assumption))))))) | exact (FqAt.tail (FqAt.tail (FqAt.tail (FqAt.tail (FqAt.tail (FqAt.tail (FqAt.tail (by with_reducible assumption)))))))) | exact (FqAt.tail (FqAt.tail (FqAt.tail (FqAt.tail (FqAt.tail (FqAt.tail (FqAt.tail (FqAt.tail (by with_reducible assumption))))))))) | exact (FqAt.tail (FqAt.tail (FqAt.tail (FqAt.tail (FqAt.tail (FqAt.tail (FqAt.tail (FqAt.tail (FqAt.tail (by with_reducible assumption)))))))))) | exact (FqAt.tail (FqAt.tail (FqAt.tail (FqAt.tail (FqAt.tail (FqAt.tail (FqAt.tail (FqAt.tail (FqAt.tail (FqAt.tail (by with_reducible assumption))))))))))) | exact (FqAt.tail (FqAt.tail (FqAt.tail (FqAt.tail (FqAt.tail (FqAt.tail (FqAt.tail (FqAt.tail (FqAt.tail (FqAt.tail (FqAt.tail (by with_reducible assumption)))))))))))) | exact (FqAt.tail (FqAt.tail (FqAt.tail (FqAt.tail (FqAt.tail (FqAt.tail (FqAt.tail (FqAt.tail (FqAt.tail (FqAt.tail (FqAt.tail (FqAt.tail (by with_reducible assumption))))))))))))) | exact (FqAt.tail (FqAt.tail (FqAt.tail (FqAt.tail (FqAt.tail (FqAt.tail (FqAt.tail (FqAt.tail (FqAt.tail (FqAt.tail (FqAt.tail (FqAt.tail (FqAt.tail (by with_reducible assumption)))))))))))))) | exact (FqAt.tail (FqAt.tail (FqAt.tail (FqAt.tail (FqAt.tail (FqAt.tail (FqAt.tail (FqAt.tail (FqAt.tail (FqAt.tail (FqAt.tail (FqAt.tail (FqAt.tail (FqAt.tail (by with_reducible assumption))))))))))))))) | exact (FqAt.tail (FqAt.tail (FqAt.tail (FqAt.tail (FqAt.tail (FqAt.tail (FqAt.tail (FqAt.tail (FqAt.tail (FqAt.tail (FqAt.tail (FqAt.tail (FqAt.tail (FqAt.tail (FqAt.tail (by with_reducible assumption)))))))))))))))) | exact FqAt.mk6 (by k_dflt k_mem) (by k_dflt k_mem) (by k_dflt k_mem) (by k_dflt k_mem) (by k_dflt k_mem) (by k_dflt k_mem))
  k_with "call builtin:pow" => (k_here; refine Hold2.out ?_)
  k_with "exec For Name Call cons nil" => (k_here; (with_unfolding_all refine' For_any ?_; k_whole))
  k_with "pyIter ref" => (k_here; (with_reducible show wpAny _ _ (pyIter (Value.ref _)) (fun it s₂ => ForAt _ _ _ _ _ _ _ _ it s₂) _ _); refine Hold2.out ?_)
  k_with "mine_ne" => (refine neN ?_; (try dsimp only); first | (with_reducible assumption) | ((refine Ne51.ne ?_); with_reducible assumption) | ((refine Ne51.ne' ?_); with_reducible assumption) | (refine' off1_ne ?o1 ?m1; (case o1 => with_reducible assumption); (case m1 => ((repeat (first | exact List.Mem.head _ | refine List.Mem.tail _ ?_)); done))) | (refine' Ne.symm (off1_ne ?o1 ?m1); (case o1 => with_reducible assumption); (case m1 => ((repeat (first | exact List.Mem.head _ | refine List.Mem.tail _ ?_)); done))) | omega)
  walk_at "mine_reg"
  obtain ⟨B, F, X, N, T, hk, G, TB, n51, hdp, hun⟩ := S
  refine wpAny_call ?_
  k_dflt (walk_at "mine_enter")
  clear N
  have hH : 0 ≤ (halfP P : Int) ∧ (halfP P : Int) < (P : Int) := ⟨by omega, by have := Nat.mod_lt (((P - 1) / 2) ^ ((P + 1) / 4)) (show 0 < P by omega); unfold halfP; omega⟩
  refine let_entry ?_
  intro M9 A9 e9 E9 Qk
  w_strict (repeat' (k_extra "mine_step"))
  unfold Hold2
  refine call_pow3 (a := (P - 1) / 2) (b := (P + 1) / 4) (n := P) ?e1 ?e2 rfl (by omega) ?_
  case e1 => rw [Int.fdiv_eq_ediv_of_nonneg _ (by decide)]; omega
  case e2 => rw [Int.fdiv_eq_ediv_of_nonneg _ (by decide)]; omega
  w_strict (repeat' (k_extra "mine_step"))
  unfold Hold2
  rename IsRange _ _ _ _ _ _ _ _ => rX
  rename Fr _ _ _ _ => lF
  rename News _ _ _ _ => lN
  with_unfolding_all refine' range_st (σ := RtSt) 8 AllBare RtLed (RtPs P) (RtInv w news P) ⟨tb, news, _, #[], 0, _, 1, 0, _, _, 0, _, _⟩ ?hh rX ?hsm ?hn lF lN ?G0 ?k0 ?P0 ?turn ?done
  case hh => rfl
  case hsm => decide
  case hn => decide
  case G0 => assumption
  case k0 => kst_all
  case P0 =>
    refine ⟨TB, n51, ?_, ?_, ?_, ?_, fun _ h => h, rfl, rfl, fun k hk => absurd hk (Nat.not_lt_zero k)⟩
    · rename _ < _ ∧ AllLt _ _ => a1
      exact fun p hp => Nat.ne_of_lt (allLt_out a1.2 p hp)
    · rename _ < _ ∧ AllLt _ _ => a1
      exact Nat.ne_of_gt a1.1
    · rename _ < _ ∧ _ < _ ∧ AllLt _ _ => a2
      exact Nat.ne_of_gt a2.2.1
    · rename _ < _ ∧ _ < _ ∧ AllLt _ _ => a2
      exact Nat.ne_of_gt a2.1
  case turn =>
    intro i c u h g tk t I o hi hG hP hI ho F' N'
    obtain ⟨tb1, rows, lr, its, kc, tp, x, y, t1, t2, kt, th, tn1⟩ := c
    obtain ⟨TB1, r51, rlr, lr51, tp51, tplr, rsub, exy, esz, hall⟩ := hP
    dsimp only at TB1 r51 rlr lr51 tp51 tplr rsub exy esz hall
    dsimp only [RtLed] at N' hI
    obtain ⟨rows1, N1, I51, Ilr, mtp, sub1, n51a, nlra, nIa⟩ := rowsOpen N' r51 rlr tp51 tplr hI
    clear N'
    dsimp only [RtPs] at F'
    have rx : (0 ≤ x ∧ x < (P : Int)) ∧ 0 ≤ y ∧ y < (P : Int) := by
      have := rv_rg (h := (halfP P : Int)) h2 i
      rw [← exy] at this
      exact this
    w_strict (repeat' (k_extra "mine_step"))
    k_dflt (refine' lmade (x := x) (y := y) ?S1 (.tail _ (.tail _ mtp)) h2 h3 rx.1 rx.2 ?_; (case S1 => walk_at "mine_sit"))
    intro x' d ml mp cf mt tb2 nw h2' g2 tk2 G2 TB2 F2 N2 d1 d2 f2
    obtain ⟨rows2, N3, sub2, n51b, nlrb, nIb, rt2⟩ := rowsMade N2 n51a nlra nIa d1 d2 f2
    clear N2 N1
    have mtp2 := sub2 _ mtp
    w_strict (repeat' (k_extra "mine_step"))
    k_dflt (refine' append_K (its := its) (n := kc) ?A1 ?A2 ?AU ?_ (Nat.le_trans (Nat.le_of_eq esz) (Nat.le_trans (Nat.le_of_lt hi) (by decide))); (case A1 => k_asm); (case A2 => k_asm); (case AU => exact .tail (Ne.symm lr51) (.head (fun p hp => (List.mem_cons.mp hp).elim (fun e => e ▸ Ilr) (nlrb p)))))
    intro h3' F3 N4
    w_strict (repeat' (k_extra "mine_step"))
    k_dflt (refine' times (x := x) (y := y) (x' := (halfP P : Int)) (y' := (halfP P : Int)) ?S2 (.tail _ (.tail _ (.tail _ mtp2))) (.head _) h2 h3 rx.1 rx.2 hH hH ?_; (case S2 => walk_at "mine_sit"))
    intro D h4 q1 q2 tk4 F4 N5 l5
    w_strict (repeat' (k_extra "mine_step"))
    rename Fr _ _ _ _ => kF
    rename News _ _ _ _ => kN
    exact rtEnd kF kN (by assumption) TB2 (by with_unfolding_all rfl) (by with_unfolding_all rfl) (by with_unfolding_all rfl) (by with_unfolding_all rfl) exy esz hall rsub (fun p hp => sub2 p (sub1 p hp)) rt2 n51b nlrb nIb lr51 I51 Ilr l5 (by assumption)
  case done =>
    intro c u h g tk hG hP F' N'
    obtain ⟨tb1, rows, lr, its, kc, tp, x, y, t1, t2, kt, th, tn1⟩ := c
    obtain ⟨TB1, r51, rlr, lr51, tp51, tplr, rsub, exy, esz, hall⟩ := hP
    dsimp only at TB1 r51 rlr lr51 tp51 tplr rsub exy esz hall
    dsimp only [RtPs] at F'
    dsimp only [RtLed] at N'
    w_strict (repeat' (k_extra "mine_step"))
    rename Fr h₀ _ _ m => kF
    rename News h₀ L _ _ => kN
    obtain ⟨rs, eits, hrs⟩ := its8 esz hall
    subst eits
    exact hret lr rs tb1 _ _ _ _ kc (by assumption) TB1 kF (newsRot kN) (fun p hp => .tail _ (.tail _ (rsub p hp))) (fun p hp => by
      rcases List.mem_cons.mp hp with rfl | hp
      · exact tp51
      rcases List.mem_cons.mp hp with rfl | hp
      · exact lr51
      · exact r51 p hp) (.tail _ (.head _)) (fun k hk => ((hrs k hk).tail).tail)
end
end C18_part
/-! Z5 -/
section Z5_part
theorem rv_evens : ∀ p ∈ primes, rv p (halfP p) 0 = (1, 0) ∧ rv p (halfP p) 2 = (0, (p : Int) - 1) ∧ rv p (halfP p) 4 = ((p : Int) - 1, 0) ∧ rv p (halfP p) 6 = (0, 1) := by decide +kernel
theorem rv_dist : ∀ p ∈ primes, ∀ i, i < 8 → ∀ j, j < 8 → rv p (halfP p) i = rv p (halfP p) j → i = j := by decide +kernel
theorem rv_sqs : ∀ p ∈ primes, ∀ j, j < 4 → red p (gm (rv p (halfP p) j) (rv p (halfP p) j)) = rv p (halfP p) (2 * j) := by decide +kernel
theorem rv_nms : ∀ p ∈ primes, ∀ k, k < 4 → nm (rv p (halfP p) k) % (p : Int) ≠ 0 := by decide +kernel
theorem inv_cg {u v x y : Int} {p : Nat} (h1 : 1 < (p : Int)) (h : InvR u v x y p) : Cg p (gm (u, v) (x, y)) (1, 0) := by
  refine .of_red ?_
  simp only [red, gm, Prod.mk.injEq]
  refine ⟨?_, ?_⟩
  · rw [h.1, Int.emod_eq_of_lt (by decide) h1]
  · rw [h.2]; rfl
section
variable {p : Nat} (hp : p ∈ primes)
include hp
theorem p_big : 11 ≤ p ∧ p < 228 := ⟨(pk hp).lo, (pk hp).hi⟩
theorem c_cg (v : G) : Cg p (sqC p v) (gp v ((p * p + 7) / 16)) := by
  have hb := p_big hp
  have h := pw_cg (p : Int) 13 ((p * p + 7) / 16) (1, 0) v (by
    have : p * p ≤ 227 * 227 := Nat.mul_le_mul (by omega) (by omega)
    omega)
  rw [one_gm] at h
  exact h
theorem k_cg (c u : G) : Cg p (sqK p c u) (gm (gm c c) u) := by
  have h := pw_cg (p : Int) 2 2 (1, 0) c (by decide)
  rw [one_gm] at h
  refine (Cg.red _ _).trans ((h.trans (.of_eq ?_)).gm (Cg.refl _ u))
  show gm (gm (1, 0) c) c = gm c c
  rw [one_gm]
theorem k_rg (c u : G) : Rg p (sqK p c u) := red_rg (by have := p_big hp; omega) _
variable {x y u v : Int} (hx : 0 ≤ x ∧ x < (p : Int)) (hy : 0 ≤ y ∧ y < (p : Int)) (huv : InvR u v x y p)
include hx hy huv
theorem z_side : (nm (x, y) % (p : Int)) ^ ((p - 1) / 2) % (p : Int) = 1 ↔ sqK p (sqC p (x, y)) (u, v) = (1, 0) ∨ sqK p (sqC p (x, y)) (u, v) = (0, 1) ∨ sqK p (sqC p (x, y)) (u, v) = ((p : Int) - 1, 0) ∨ sqK p (sqC p (x, y)) (u, v) = (0, (p : Int) - 1) :=
  (pk hp).side ⟨hx, hy⟩ (c_cg hp _) (inv_cg (by have := p_big hp; omega) huv) (k_rg hp _ _) (k_cg hp _ _)
theorem z_none (h0 : (x, y) ≠ (0, 0)) (hno : ∀ j, j < 4 → rv p (halfP p) (2 * j) ≠ sqK p (sqC p (x, y)) (u, v)) : (nm (x, y) % (p : Int)) ^ ((p - 1) / 2) % (p : Int) = (p : Int) - 1 := by
  rcases (pk hp).euler ⟨hx, hy⟩ h0 with h | h
  · exfalso
    obtain ⟨e0, e2, e4, e6⟩ := rv_evens p hp
    rcases (z_side hp hx hy huv).mp h with h | h | h | h
    · exact hno 0 (by decide) (e0.trans h.symm)
    · exact hno 3 (by decide) (e6.trans h.symm)
    · exact hno 2 (by decide) (e4.trans h.symm)
    · exact hno 1 (by decide) (e2.trans h.symm)
  · exact h
theorem z_one {j : Nat} (hj : j < 4) (he : rv p (halfP p) (2 * j) = sqK p (sqC p (x, y)) (u, v)) : (nm (x, y) % (p : Int)) ^ ((p - 1) / 2) % (p : Int) = 1 := by
  refine (z_side hp hx hy huv).mpr ?_
  rw [← he]
  obtain ⟨e0, e2, e4, e6⟩ := rv_evens p hp
  have : j = 0 ∨ j = 1 ∨ j = 2 ∨ j = 3 := by omega
  rcases this with rfl | rfl | rfl | rfl
  · exact .inl e0
  · exact .inr (.inr (.inr e2))
  · exact .inr (.inr (.inl e4))
  · exact .inr (.inl e6)
theorem z_sq {j : Nat} (hj : j < 4) (he : rv p (halfP p) (2 * j) = sqK p (sqC p (x, y)) (u, v)) {u' v' : Int} (huv' : InvR u' v' (rv p (halfP p) j).1 (rv p (halfP p) j).2 p) :
    red p (gm (sqX p (sqC p (x, y)) (u', v')) (sqX p (sqC p (x, y)) (u', v'))) = (x, y) := by
  have h1 : 1 < (p : Int) := by have := p_big hp; omega
  refine (pk hp).root (w := (u, v)) ⟨hx, hy⟩ (inv_cg h1 huv) (k_cg hp _ _) (r := rv p (halfP p) j) ?_ (inv_cg h1 huv')
  refine (Cg.red _ _).symm.trans (.of_eq ?_)
  rw [rv_sqs p hp j hj, he]
omit huv hx hy in
theorem fmod_neg (a : Int) : (-a).fmod (p : Int) = ((p : Int) - a) % (p : Int) := by
  rw [Int.fmod_eq_emod_of_nonneg _ (by omega), Int.sub_eq_add_neg, Int.add_comm, Int.add_emod_right]
omit huv hx hy in
theorem neg_rg {a : Int} (ha : 0 ≤ a ∧ a < (p : Int)) : ((p : Int) - a) % (p : Int) = if a = 0 then 0 else (p : Int) - a := by
  split
  · rename_i h; subst h; simp
  · exact Int.emod_eq_of_lt (by omega) (by omega)
omit huv hx hy in
theorem p_odd : p % 2 = 1 := by have := (pk hp).h8; omega
theorem z_root (h0 : (x, y) ≠ (0, 0)) {j : Nat} (hj : j < 4) (he : rv p (halfP p) (2 * j) = sqK p (sqC p (x, y)) (u, v)) {u' v' : Int} (huv' : InvR u' v' (rv p (halfP p) j).1 (rv p (halfP p) j).2 p) {r : G} (hr : SqR p (sqX p (sqC p (x, y)) (u', v')) r) :
    ((0 ≤ r.1 ∧ r.1 < (p : Int)) ∧ 0 ≤ r.2 ∧ r.2 < (p : Int)) ∧ ((r.1 * r.1 - r.2 * r.2) % (p : Int) = x ∧ (r.1 * r.2 + r.2 * r.1) % (p : Int) = y) ∧ (((p : Int) - r.2) % (p : Int) < r.2 ∨ (r.2 = 0 ∧ ((p : Int) - r.1) % (p : Int) < r.1)) := by
  have hb := p_big hp
  have hodd := p_odd hp
  have hs := z_sq hp hx hy huv hj he huv'
  have hg : Rg p (sqX p (sqC p (x, y)) (u', v')) := red_rg (by omega) _
  generalize sqX p (sqC p (x, y)) (u', v') = a at hr hs hg
  obtain ⟨a, b⟩ := a
  obtain ⟨⟨a1, a2⟩, b1, b2⟩ := hg
  dsimp only at a1 a2 b1 b2
  simp only [red, gm, Prod.mk.injEq] at hs
  simp only [SqR, sqN] at hr
  rw [fmod_neg hp a, fmod_neg hp b, neg_rg hp ⟨a1, a2⟩, neg_rg hp ⟨b1, b2⟩] at hr
  have hab : ¬ (a = 0 ∧ b = 0) := by
    rintro ⟨rfl, rfl⟩
    apply h0
    rw [← hs.1, ← hs.2]
    simp
  rcases hr with ⟨rfl, hc⟩ | ⟨rfl, hc⟩
  · refine ⟨⟨⟨a1, a2⟩, b1, b2⟩, hs, ?_⟩
    dsimp only
    rw [neg_rg hp ⟨a1, a2⟩, neg_rg hp ⟨b1, b2⟩]
    split at hc <;> split at hc <;> simp_all <;> omega
  · have na : 0 ≤ (if a = 0 then 0 else (p : Int) - a) ∧ (if a = 0 then 0 else (p : Int) - a) < (p : Int) := by split <;> omega
    have nb : 0 ≤ (if b = 0 then 0 else (p : Int) - b) ∧ (if b = 0 then 0 else (p : Int) - b) < (p : Int) := by split <;> omega
    refine ⟨⟨na, nb⟩, ?_, ?_⟩
    · dsimp only
      have ea : ∃ k : Int, (if a = 0 then 0 else (p : Int) - a) = p * k - a := by
        split
        · exact ⟨0, by omega⟩
        · exact ⟨1, by omega⟩
      have eb : ∃ k : Int, (if b = 0 then 0 else (p : Int) - b) = p * k - b := by
        split
        · exact ⟨0, by omega⟩
        · exact ⟨1, by omega⟩
      obtain ⟨k, hk⟩ := ea
      obtain ⟨l, hl⟩ := eb
      rw [hk, hl, ← hs.1, ← hs.2]
      refine ⟨?_, ?_⟩
      · refine Int.emod_eq_emod_iff_emod_sub_eq_zero.mpr (Int.emod_eq_zero_of_dvd ⟨p * k * k - 2 * k * a - p * l * l + 2 * l * b, by grind⟩)
      · refine Int.emod_eq_emod_iff_emod_sub_eq_zero.mpr (Int.emod_eq_zero_of_dvd ⟨2 * (p * k * l - k * b - l * a), by grind⟩)
    · dsimp only
      rw [neg_rg hp na, neg_rg hp nb]
      have na0 : ¬ (p : Int) - a = 0 := by omega
      have nb0 : ¬ (p : Int) - b = 0 := by omega
      by_cases ha0 : a = 0 <;> by_cases hb0 : b = 0
      · exact absurd ⟨ha0, hb0⟩ hab
      · rw [if_neg hb0] at hc ⊢
        rw [if_pos ha0] at hc ⊢
        rw [if_neg nb0]
        omega
      · rw [if_pos hb0] at hc ⊢
        rw [if_neg ha0] at hc ⊢
        rw [if_neg na0]
        omega
      · rw [if_neg hb0] at hc ⊢
        rw [if_neg ha0] at hc ⊢
        rw [if_neg na0, if_neg nb0]
        omega
end
end Z5_part
/-! C19 -/
section C19_part
open PySem PySem.W PyProof.Rows PySem.Calls
theorem call_pow3r {prog : Program} {w : World} {A : Around} {E : Value → Shared → Prop} {s : Shared} {Q : Value → Shared → Prop} {a b n : Nat} {t u v : Tok} {x y z r : Int} (hx : x = (a : Int)) (hy : y = (b : Int)) (hz : z = (n : Int)) (hn : 1 < n) (hr : ((a ^ b % n : Nat) : Int) = r) (h : Q (.int r s.toks) { s with toks := s.toks + 1 }) :
    wpAny (model prog w) A (call (.builtin "pow") [.int x t, .int y u, .int z v]) Q E s := call_pow3 hx hy hz hn (hr ▸ h)
theorem okBool {Q : Value → Shared → Prop} {st : Shared} {b : Bool} (hb : b = true) (h : Q (.bool true) st) : Q (.bool b) st := by rw [hb]; exact h
theorem rowsPlain {P : Params} {h₀ h : Heap} {L : Addr} {tb : Obj} {nw rows : List (Addr × Obj)} {x' d ml mp cf mt : Addr} {n x y : Int} (N : News h₀ L h ((51, tb) :: (nw ++ rows))) (h1 : ∀ p ∈ rows, p.1 ≠ 51) (h3 : ∀ p ∈ nw, p.1 ≠ 51) (f : FqAt P nw x' d ml mp cf mt n x y) :
    ∃ rows2, News h₀ L h ((51, tb) :: rows2) ∧ (∀ p ∈ rows, p ∈ rows2) ∧ (∀ p ∈ rows2, p.1 ≠ 51) ∧ FqAt P rows2 x' d ml mp cf mt n x y :=
  ⟨nw ++ rows, N, fun p hp => List.mem_append_right _ hp, fun p hp => (List.mem_append.mp hp).elim (h3 p) (h1 p), f.sub fun p hp => List.mem_append_left _ hp⟩
section
variable {w : World} {p : Program} {loose : List Str} {mean : ExcName → Option Value} {mg mb : Str → Option Value} {dp un : Nat} {gd : Option (List Code)} {cn : Str} {cs : Scope} {a : Addr} {ccd : Value} {cl : List (Str × Addr)} {outer : List Env} {A₀ : Around} {base h₀ : Heap} {L : Addr} {m : Str → Option Value} {tb : Obj} {news : List (Addr × Obj)} {s : Shared} {Q E : Value → Shared → Prop}
set_option maxRecDepth 100000 in
set_option maxHeartbeats 4000000 in
theorem lright {P : Nat} {tv : Addr} {x y : Int} {t1 t2 tn : Tok} {k1 : Nat} (S : Sit w p loose mean mg mb 16 dp un cs outer A₀ base h₀ L m tb news s) (hp : P ∈ primes) (h11 : 11 ≤ P) (h2 : 1 < (P : Int)) (h3 : (P : Int) < 1000)
    (hv : ((tv, ({ cls := .type "tuple", data := .seq #[.int x t1, .int y t2] k1 } : Obj)) ∈ news)) (hx : 0 ≤ x ∧ x < (P : Int)) (hy : 0 ≤ y ∧ y < (P : Int)) (h0 : (x, y) ≠ (0, 0))
    (hret : ∀ tb' rows h' g' tk', AllBare g' → TabOk tb' → Fr h₀ L h' m → News h₀ L h' ((51, tb') :: rows) → (∀ p ∈ news, p ∈ rows) → (∀ p ∈ rows, p.1 ≠ 51) → Q (.bool true) { s with heap := h', gens := g', toks := tk' }) :
    wpAny (model PySem.Challenge.rw_kh0013_01.row.prog w) (ktrTop dp un gd cn cs L a ccd cl outer) (call (.ref 229) [.ref tv, .int (P : Int) tn]) Q E s := by
  k_with_none
  k_with "mine_fold" => first | (have F8 := F7; have N8 := N7; clear F8 N8) | (rename Fr _ _ _ _ => F7; rename News _ _ _ _ => N7; revert F7 N7; refine let_FN ?_; intro m7 n7 F7 N7)
  k_with "mine_step" => (first | (with_reducible show Qk _ _; dsimp only [Qk]; clear Qk) | (k_unfold; (try dsimp only)) | (k_end; kc_close) | walk1 | (dsimp only; walk1) | (leave1; walk_say "STEP leave1"; (try dsimp only)))
  k_with "mine_lo" => skip
  k_with "CompRest" => (with_unfolding_all first | (refine LCg.CompRest.succ ?_; intro v9' I9' oI9' C9' oC9' D9' m9' h9' tk9' E9' hv9' hC9' hx9' F9' N9' off9' ne9'; clear ne9'; (first | lcg_open hv9' | (obtain ⟨t99', hv99'⟩ := hv9'; subst hv99'))) | refine LCg.CompRest.zero ?_)
  k_with "CompEnd" => (k_here; (refine' LCg.CompEnd.intro ?F_1 ?N_1 _ (fun p hp => hp) ?off_1 ?S_1 ?_); (case F_1 => k_asm); (case N_1 => k_asm); (case off_1 => assumption); (case S_1 => (refine' srcAt_led ?m9_1; (case m9_1 => k_mem))))
  k_with "FinE" => ((unfold LCg.FinE); intro D9' h9' tk9' F9' N9' o19'; k_dflt (replace o19' := OffA.of o19'; (try dsimp only [adr_cons, adr_nil, adr_consA, adr_nilA] at o19')); (try simp only [List.nil_append, List.cons_append] at N9'); (try dsimp only))
  k_with "eval ListComp" => (k_here; k_dflt (refine LCg.ListComp_U (F₀ := by k_asm) (by with_unfolding_all rfl) (by decide) (by rfl) (by decide) (by rfl) ?_); k_dflt lcg_toSrc)
  k_with "CompSrc" => (k_here; k_dflt (refine LCg.CompSrc.ledger (by rfl) (by k_asm) (by k_asm) (by k_mem) (by first | size_fits | exact Nat.le_of_ble_eq_true rfl) ?_; intro g9'; lcg_lit))
  k_with "exec For Name Call cons nil" => (k_here; (rename Fr _ _ _ _ => lF9'); (with_unfolding_all refine' For_turns lF9' ?_; k_whole))
  k_with "pyIter ref" => (k_here; (with_reducible show wpAny _ _ (pyIter (Value.ref _)) (fun it s₂ => TurnsAt _ _ _ _ _ _ _ _ _ it s₂) _ _); (with_reducible rename IsRange _ _ _ _ _ _ _ _ => rX9'); with_unfolding_all (first | (refine' range_turns (xs := [Itm.tok (fun t => Value.int (0 : Int) t)]) ?hh_6 ?F_6 ?N_6 rX9' ?sm_6 ?hn_6 ?hx_6 ?_; (case hn_6 => decide +kernel); (case sm_6 => decide +kernel); (case hx_6 => rfl)) | (refine' range_turns (xs := [Itm.tok (fun t => Value.int (1 : Int) t), Itm.tok (fun t => Value.int (0 : Int) t)]) ?hh_6 ?F_6 ?N_6 rX9' ?sm_6 ?hn_6 ?hx_6 ?_; (case hn_6 => decide +kernel); (case sm_6 => decide +kernel); (case hx_6 => rfl)) | (refine' range_turns (xs := [Itm.tok (fun t => Value.int (0 : Int) t), Itm.tok (fun t => Value.int (1 : Int) t)]) ?hh_6 ?F_6 ?N_6 rX9' ?sm_6 ?hn_6 ?hx_6 ?_; (case hn_6 => decide +kernel); (case sm_6 => decide +kernel); (case hx_6 => rfl)) | (refine' range_turns (xs := [Itm.tok (fun t => Value.int (0 : Int) t), Itm.tok (fun t => Value.int (1 : Int) t), Itm.tok (fun t => Value.int (2 : Int) t)]) ?hh_6 ?F_6 ?N_6 rX9' ?sm_6 ?hn_6 ?hx_6 ?_; (case hn_6 => decide +kernel); (case sm_6 => decide +kernel); (case hx_6 => rfl)) | (refine' range_turns (xs := [Itm.tok (fun t => Value.int (2 : Int) t), Itm.tok (fun t => Value.int (1 : Int) t), Itm.tok (fun t => Value.int (0 : Int) t)]) ?hh_6 ?F_6 ?N_6 rX9' ?sm_6 ?hn_6 ?hx_6 ?_; (case hn_6 => decide +kernel); (case sm_6 => decide +kernel); (case hx_6 => rfl)) | (refine' range_turns (xs := []) ?hh_6 ?F_6 ?N_6 rX9' ?sm_6 ?hn_6 ?hx_6 ?_; (case hn_6 => decide +kernel); (case sm_6 => decide +kernel); (case hx_6 => rfl))); (case hh_6 => rfl); (case F_6 => k_asm); (case N_6 => k_asm); clear rX9'; intro i9' l19; (try k_lt l19))
  k_with "call type:enumerate" => (k_here; k_dflt (refine' enum_make ?F_7 ?N_7 ?m_7 ?_); (case F_7 => k_asm); (case N_7 => k_asm); (case m_7 => k_mem); intro e9' h9' F9' N9' eX9'; (try k_sweep); (try dsimp only))
  k_with "call type:enumerate" => (k_here; (with_reducible show wpAny _ _ (call (Value.type _) [Value.ref _]) (fun xv s₁ => wpAny _ _ (pyIter xv) (fun it s₂ => TurnsAt _ _ _ _ _ _ _ _ _ it s₂) _ s₁) _ _); with_unfolding_all (refine' enum_turns (vs := [_, _]) (xs := [Itm.pair (fun t => Value.int (0 : Int) t) _, Itm.pair (fun t => Value.int (1 : Int) t) _]) ?hh_8 ?F_8 ?N_8 ?hm_8 ?hc_8 ?hd_8 ?hx_8 ?_; (case hh_8 => rfl); (case F_8 => k_asm); (case N_8 => k_asm); (case hm_8 => k_mem); (case hc_8 => rfl); (case hd_8 => rfl); (case hx_8 => rfl)); intro i9' l19; (try k_lt l19); (try dsimp only))
  k_with "call type:list" => (k_here; (rename EnumF _ _ _ _ _ _ _ => eX9'); k_dflt (refine' enum_list ?hh_9 ?F_9 ?N_9 eX9' ?_); (case hh_9 => rfl); (case F_9 => k_asm); (case N_9 => k_asm); intro S9' T19' T29' k19' k29' c9' h9' tk9' F9' N9' l19 l29 l39; clear eX9'; (try k_lt l19); (k_lt2 l29); (have l29 := LoA.tr l19 l29); (k_lt2 l39); (have l39 := LoA.tr l29 l39); (try k_sweep); (try dsimp only))
  k_with "exec For Tuple Call cons nil" => (k_here; (rename Fr _ _ _ _ => lF9'); (with_unfolding_all refine' For_turns lF9' ?_; k_whole))
  k_with "exec For Tuple Attribute cons nil" => (k_here; (rename Fr _ _ _ _ => lF9'); (with_unfolding_all refine' For_turns lF9' ?_; k_whole))
  k_with "mine_enterC" => (refine' enter_defC ?k1_12 ?k2_12 ?k3_12 ?k4_12 ?k5_12 ?kA_12 ?kF_12 ?kK_12 ?k6_12 ?k7_12 ?k8_12 ?k9_12 ?kB_12 ?kD_12 ?_ ?c2_12 ?c3_12 ?c4_12; (case kA_12 => exact rfl); (case kF_12 => exact rfl); (case kK_12 => first | exact rfl | assumption); (case k1_12 => k_asm); (case k2_12 => k_asm); (case k3_12 => k_asm); (case k4_12 => k_asm); (case k5_12 => k_asm); (case k6_12 => k_is); (case k7_12 => k_is); (case k8_12 => ktr_room); (case k9_12 => exact BindsTo.of_eq rfl); (case kB_12 => exact rfl); (case kD_12 => decide +kernel); (case c2_12 => exact rfl); (case c3_12 => exact rfl); (case c4_12 => exact rfl); k_whole; intro g9' L9' h9' tk9' cells9' FG9' F9' N9' Y9' B9' X9' T9' l19 hBs; (try k_lt l19); k_cells Y9'; (try simp only [List.cons_append, List.nil_append] at N9'); (try dsimp only); (try k_lift B9'); (try k_fold))
  k_with "eval ListComp" => (k_here; (with_reducible show wpAny _ _ (eval (PySem.Expr.ListComp (PySem.Expr.Tuple _ _ _) _ _ _) _) _ _ _); k_dflt (refine mc_comp (by with_unfolding_all rfl) (by with_unfolding_all rfl) (by decide) (by rfl) (by decide) (by rfl) (by rfl) (by decide) (by decide) (by decide) ?_))
  k_with "call type:enumerate" => (k_here; (with_reducible show wpAny _ _ (call (Value.type _) [Value.ref _]) (McSrc _) _ _); k_dflt (refine' mc_call ?F_14 ?N_14 ?m_14 ?_; (case F_14 => k_asm); (case N_14 => k_asm); (case m_14 => k_mem)); intro D9' T9' ti9' h9' tk9' F9' N9' l19 l29; (try k_lt l19); (k_lt2 l29); (have l29 := LoA.tr l19 l29); (try k_sweep); (try dsimp only))
  k_with "mine_split" => (repeat' (first | exact Split.here | apply Split.skip))
  k_with "eval GeneratorExp" => (k_here; k_dflt (refine' gen_make ?F_16 (Split.toNews ?N_16 ?sp_16) ?h51_16 ?tb_16 ?G_16 ?X_16 ?T_16 ?hh_16 ?hcode_16 ?hgl_16 ?room_16 ?hek_16 ?hey_16 ?hdy_16 ?hvy_16 ?hml_16 ?hmc_16 ?hoc_16 ?hms_16 ?hmd_16 ?hfm_16 ?hq_16 ?hco_16 ?hclos_16 ?hcell_16 ?h0_16 ?hx_16 ?hsn_16 ?hkind_16 ?hdx_16 ?hds_16 ?hdc_16 ?_); (case F_16 => k_asm); (case N_16 => k_asm); (case sp_16 => walk_at "mine_split"); (case h51_16 => k_all); (case tb_16 => assumption); (case G_16 => assumption); (case X_16 => k_asm); (case T_16 => k_asm); (case hh_16 => rfl); (case hcode_16 => rfl); (case hgl_16 => rfl); (case room_16 => ktr_room); (case hek_16 => rfl); (case hey_16 => with_unfolding_all rfl); (case hdy_16 => decide); (case hvy_16 => with_unfolding_all rfl); (case hml_16 => k_mem); (case hclos_16 => with_unfolding_all rfl); (case hmc_16 => k_mem); (case hoc_16 => assumption); (case hms_16 => k_mem); (case hmd_16 => k_mem); (case hfm_16 => k_get); (case hq_16 => omega); (case hco_16 => rfl); (case hcell_16 => decide); (case h0_16 => rfl); (case hx_16 => rfl); (case hsn_16 => rfl); (case hkind_16 => rfl); (case hdx_16 => decide); (case hds_16 => decide); (case hdc_16 => decide); intro a9' tb9' h9' g9' tk9' G9' TB9' F9' N9' X9'; (try k_sweep))
  k_with "call type:tuple" => (k_here; k_dflt (refine' call_tuple_tup ?T_17 ?_); (case T_17 => exact News.isTup (by k_asm) (by k_mem)); (try dsimp only))
  k_with "call type:tuple" => (k_here; (rename GenR _ _ _ _ _ _ _ _ _ _ => gX9'); k_dflt (refine' gen_tuple ?F_18 ?N_18 ?G_18 gX9' ?_); (case F_18 => k_asm); (case N_18 => k_asm); (case G_18 => assumption); intro D9' t19' t29' h9' g9' tk9' G9' F9' N9' l19; clear gX9'; (try k_lt l19); (try k_sweep))
  k_with "mine_reg" => (w_on; (have _h : (PySem.Challenge.rw_kh0013_01 = PySem.Challenge.rw_kh0013_01) ∧ (Mine.hd.heap_1 = Mine.hd.heap_1) := by (k_fill; exact ⟨rfl, rfl⟩)); clear _h)
  k_with "mine_enter" => (refine' enter_def ?k1_20 ?k2_20 ?k3_20 ?k4_20 ?k5_20 ?kA_20 ?kF_20 ?kK_20 ?k6_20 ?k7_20 ?k8_20 ?k9_20 ?kB_20 ?_ ?c2_20 ?c3_20 ?c4_20 ?c5_20; (case kA_20 => exact rfl); (case kF_20 => exact rfl); (case kK_20 => first | exact rfl | assumption); (case k1_20 => k_asm); (case k2_20 => k_asm); (case k3_20 => k_asm); (case k4_20 => k_asm); (case k5_20 => k_asm); (case k6_20 => k_is); (case k7_20 => k_is); (case k8_20 => ktr_room); (case k9_20 => exact BindsTo.of_eq rfl); (case c5_20 => decide); (case kB_20 => exact locs rfl); (case c2_20 => exact rfl); (case c3_20 => exact rfl); (case c4_20 => exact rfl); k_whole; intro g9' L9' h9' FG9' F9' N9' B9' X9' T9' hBs; (try dsimp only); (try k_lift B9'); (try k_fold))
  k_with "mine_sit" => (refine' Sit.mk ?B_21 ?F_21 ?X_21 (Split.toNews ?N_21 ?sp_21) ?T_21 ?hk_21 ?G_21 ?TB_21 ?n51_21 ?hdp_21 ?hun_21; (case B_21 => k_asm); (case F_21 => k_asm); (case X_21 => k_asm); (case N_21 => k_asm); (case sp_21 => walk_at "mine_split"); (case T_21 => k_asm); (case hk_21 => first | exact rfl | assumption); (case G_21 => assumption); (case TB_21 => assumption); (case n51_21 => first | assumption | k_all); (case hdp_21 => ktr_room); (case hun_21 => ktr_units))
  k_with "mine_ret" => (intro x9' d9' ml9' mp9' cf9' tb9' h9' g9' tk9' e19' e29' e39' e49' e59' e69' e79' q19' q29' r19' r29' G9' TB9' F9' N9' l19 l29 l39 l49 l59; (try k_lt l19); (k_lt2 l29); (have l29 := LoA.tr l19 l29); (k_lt2 l39); (have l39 := LoA.tr l29 l39); (k_lt2 l49); (have l49 := LoA.tr l39 l49); (k_lt2 l59); (have l59 := LoA.tr l49 l59); (try k_sweep); (try dsimp only))
  k_with "call ref" => (k_here; (with_reducible show wpAny _ _ (call (Value.ref 192) _) _ _ _); k_dflt (refine' mkS ?S_23 ?hlc_23 ?hmt_23 ?h2_23 ?h3_23 ?_); (case S_23 => walk_at "mine_sit"); (case hlc_23 => k_mem); (case hmt_23 => k_mem); (case h2_23 => first | assumption | omega); (case h3_23 => first | assumption | omega); walk_at "mine_ret"; (try dsimp only))
  k_with "mine_fq" => (refine' And.intro ?f1_24 (And.intro (Exists.intro _ (Exists.intro _ (Exists.intro _ (Exists.intro _ (Exists.intro _ (Exists.intro _ (Exists.intro _ ?f2_24))))))) (And.intro ?f3_24 (And.intro (Exists.intro _ (Exists.intro _ ?f4_24)) (And.intro (Exists.intro _ (Exists.intro _ ?f5_24)) (Exists.intro _ (Exists.intro _ (Exists.intro _ ?f6_24))))))); (case f1_24 => k_mem); (case f2_24 => k_mem); (case f3_24 => k_mem); (case f4_24 => k_mem); (case f5_24 => k_mem); (case f6_24 => k_mem))
  k_with "call ref" => (k_here; (with_reducible show wpAny _ _ (call (Value.ref 181) _) _ _ _); k_dflt (refine' made ?S_25 ?hS_25 ?hlc_25 ?h2_25 ?h3_25 ?_); (case S_25 => walk_at "mine_sit"); (case hS_25 => walk_at "mine_fq"); (case hlc_25 => k_mem); (case h2_25 => first | assumption | omega); (case h3_25 => first | assumption | omega); walk_at "mine_ret"; (try dsimp only))
  k_with "mine_lt" => first | (refine LoA.allLt ?_; (try dsimp only [adr_cons, adr_nil, adr_consA, adr_nilA]); with_reducible assumption) | exact allLt_nil | (refine allLt_cons ?mltZ ?_; (case mltZ => first | with_reducible assumption | (refine' LoA.lt ?hZq ?mZq; (case hZq => with_reducible assumption); (case mZq => (k_dflt ((repeat (first | exact List.Mem.head _ | refine List.Mem.tail _ ?_)); done)))) | (refine' LoA.ltS ?hZq ?mZq; (case hZq => with_reducible assumption); (case mZq => (k_dflt ((repeat (first | exact List.Mem.head _ | refine List.Mem.tail _ ?_)); done))))); walk_at "mine_lt")
  k_with "UnrEndW" => k_dflt (first | (refine' unr_end2 ?F_27 ?N_27 ?l_27 ?k_27 ?_; (case F_27 => k_asm); (case N_27 => k_asm); (case l_27 => walk_at "mine_lt"); (case k_27 => k_subL)) | (refine' unr_end1 ?F_27 ?N_27 ?l_27 ?k_27 ?_; (case F_27 => k_asm); (case N_27 => k_asm); (case l_27 => walk_at "mine_lt"); (case k_27 => k_subL)))
  k_with "getItem ref int" => (k_here; (with_reducible show wpAny _ _ (getItem (Value.ref _) (Value.int _ _)) _ _ _); k_dflt (refine' get_here ?N_28 ?m_28 ?a_28 ?b_28 ?x_28 ?_; (case N_28 => k_asm); (case m_28 => k_mem); (case a_28 => decide); (case b_28 => decide); (case x_28 => rfl); k_whole))
  k_with "subscriptTail" => (k_here; (with_reducible show wpAny _ _ (subscriptTail _ _ (Value.ref _) (Value.int _ _)) _ _ _); with_unfolding_all (first | (refine' item_tupleT ?t_29 ?a_29 ?b_29 ?c_29 ?d_29 ?_ ?e_29; (case t_29 => exact News.isTup (by k_asm) (by k_mem)); (case a_29 => decide); (case b_29 => decide); (case c_29 => rfl); (case d_29 => rfl); (case e_29 => with_unfolding_all rfl); k_whole) | (refine' sub_here ?N_29 ?m_29 ?k2_29 ?k3_29 ?k4_29 ?_ ?k6_29; (case N_29 => k_asm); (case m_29 => k_mem); (case k2_29 => decide); (case k3_29 => decide); (case k4_29 => rfl); (case k6_29 => with_unfolding_all rfl); k_whole)))
  k_with "setItem ref int" => (k_here; k_dflt (refine' ki_set ?F_30 ?N_30 ?a_30 ?b_30 ?e_30 ?U_30 ?_; (case F_30 => k_asm); (case N_30 => k_asm); (case U_30 => k_upd); (case a_30 => decide); (case b_30 => decide); (case e_30 => rfl)); ki_rest; (try dsimp only))
  k_with "binaryOp Mult ref int" => (k_here; (with_reducible show wpAny _ _ (binaryOp Operator.Mult (Value.ref _) (Value.int _ _)) _ _ _); k_dflt (refine' KMa.mul ?F_31 ?N_31 ?l_31 ?lo_31 ?hi_31 ?z_31 ?e_31 ?_; (case F_31 => k_asm); (case N_31 => k_asm); (case l_31 => is_list); (case lo_31 => first | omega | decide); (case hi_31 => first | omega | decide); (case z_31 => (simp only [List.length_cons, List.length_nil]; decide)); (case e_31 => (simp only [Int.reduceMul, Int.reduceSub, Int.reduceAdd, Int.reduceToNat, List.replicate_succ, List.replicate_zero, List.flatten_cons, List.flatten_nil, List.cons_append, List.nil_append, List.append_nil]; first | done | exact rfl)); k_whole); intro D9' h9' F9' N9' l19; (try k_lt l19); (try k_sweep); (try dsimp only))
  k_with "subscriptTail Name Name ref int" => (k_here; k_dflt (refine' sub_here ?N_32 ?m_32 ?k2_32 ?k3_32 ?k4_32 ?_ ?k6_32; (case N_32 => k_asm); (case m_32 => k_mem); (case k2_32 => decide); (case k3_32 => decide); (case k4_32 => rfl); (case k6_32 => with_unfolding_all rfl); k_whole); (try dsimp only))
  k_with "subscriptTail Name BinOp ref int" => (k_here; k_dflt (refine' sub_here ?N_33 ?m_33 ?k2_33 ?k3_33 ?k4_33 ?_ ?k6_33; (case N_33 => k_asm); (case m_33 => k_mem); (case k2_33 => decide); (case k3_33 => decide); (case k4_33 => rfl); (case k6_33 => with_unfolding_all rfl); k_whole); (try dsimp only))
  k_with "subscriptTail Name Constant ref int" => (k_here; k_dflt (refine' sub_here ?N_34 ?m_34 ?k2_34 ?k3_34 ?k4_34 ?_ ?k6_34; (case N_34 => k_asm); (case m_34 => k_mem); (case k2_34 => decide); (case k3_34 => decide); (case k4_34 => rfl); (case k6_34 => with_unfolding_all rfl); k_whole); (try dsimp only))
  k_with "mine_fq" => (first | exact (by with_reducible assumption) | exact (FqAt.tail (by with_reducible assumption)) | exact (FqAt.tail (FqAt.tail (by with_reducible assumption))) | exact (FqAt.tail (FqAt.tail (FqAt.tail (by with_reducible assumption)))) | exact (FqAt.tail (FqAt.tail (FqAt.tail (FqAt.tail (by with_reducible assumption))))) | exact (FqAt.tail (FqAt.tail (FqAt.tail (FqAt.tail (FqAt.tail (by with_reducible assumption)))))) | exact (FqAt.tail (FqAt.tail (FqAt.tail (FqAt.tail (FqAt.tail (FqAt.tail (by with_reducible assumption))))))) | exact (FqAt.tail (FqAt.tail (FqAt.tail (FqAt.tail (FqAt.tail (FqAt.tail (FqAt.tail (by with_reducible assumption)))))))) | exact (FqAt.tail (FqAt.tail (FqAt.tail (FqAt.tail (FqAt.tail (FqAt.tail (FqAt.tail (FqAt.tail (by with_reducible assumption))))))))) | exact (FqAt.tail (FqAt.tail (FqAt.tail (FqAt.tail (FqAt.tail (FqAt.tail (FqAt.tail (FqAt.tail (FqAt.tail (by with_reducible assumption)))))))))) | exact (FqAt.tail (FqAt.tail (FqAt.tail (FqAt.tail (FqAt.tail (FqAt.tail (FqAt.tail (FqAt.tail (FqAt.tail (FqAt.tail (by with_reducible assumption))))))))))) | exact (FqAt.tail (FqAt.tail (FqAt.tail (FqAt.tail (FqAt.tail (FqAt.tail (FqAt.tail (FqAt.tail (FqAt.tail (FqAt.tail (FqAt.tail (by with_reducible assumption)))))))))))) | exact (FqAt.tail (FqAt.tail (FqAt.tail (FqAt.tail (FqAt.tail (FqAt.tail (FqAt.tail (FqAt.tail (FqAt.tail (FqAt.tail (FqAt.tail (FqAt.tail (by with_reducible assumption))))))))))))) | exact (FqAt.tail (FqAt.tail (FqAt.tail (FqAt.tail (FqAt.tail (FqAt.tail (FqAt.tail (FqAt.tail (FqAt.tail (FqAt.tail (FqAt.tail (FqAt.tail (FqAt.tail (by with_reducible assumption)))))))))))))) | exact (FqAt.tail (FqAt.tail (FqAt.tail (FqAt.tail (FqAt.tail (FqAt.tail (FqAt.tail (FqAt.tail (FqAt.tail (FqAt.tail (FqAt.tail (FqAt.tail (FqAt.tail (FqAt.tail (by with_reducible assumption))))))))))))))) | exact (FqAt.tail (FqAt.tail (FqAt.tail (FqAt.tail (FqAt.tail (FqAt.tail (FqAt.tail (FqAt.tail (FqAt.tail (FqAt.tail (FqAt.tail (FqAt.tail (FqAt.tail (FqAt.tail (FqAt.tail (by with_reducible assumption)))))))))))))))) | exact FqAt.mk6 (by k_dflt k_mem) (by k_dflt k_mem) (by k_dflt k_mem) (by k_dflt k_mem) (by k_dflt k_mem) (by k_dflt k_mem))
  k_with "call builtin:pow" => (k_here; refine Hold2.out ?_)
  k_with "execs cons" => ((try dsimp only); first | (refine let_one ?_; intro s7 Qk) | (refine let_cons ?_; intro s7 Qk Qk))
  k_with "eval Constant int" => (refine wpAny_Constant_int ?_; (try dsimp only))
  k_with "newList" => (k_here; k_dflt (refine' newList_K ?k1 ?k2 ?_; (case k1 => k_asm); (case k2 => k_asm); k_whole); intro l9' h9' F9' N9' l19; (try k_lt l19); (try k_sweep); (try dsimp only))
  k_with "mine_ne" => k_dflt (refine neN ?_; (try dsimp only); first | (with_reducible assumption) | (refine' LoA.ne ?hZq ?mZq; (case hZq => with_reducible assumption); (case mZq => (k_dflt ((repeat (first | exact List.Mem.head _ | refine List.Mem.tail _ ?_)); done)))) | (refine' LoA.ne' ?hZq ?mZq; (case hZq => with_reducible assumption); (case mZq => (k_dflt ((repeat (first | exact List.Mem.head _ | refine List.Mem.tail _ ?_)); done)))) | (refine' OffA.ne ?hZq ?mZq; (case hZq => with_reducible assumption); (case mZq => (k_dflt ((repeat (first | exact List.Mem.head _ | refine List.Mem.tail _ ?_)); done)))) | (refine' OffA.ne' ?hZq ?mZq; (case hZq => with_reducible assumption); (case mZq => (k_dflt ((repeat (first | exact List.Mem.head _ | refine List.Mem.tail _ ?_)); done)))) | (refine' LoA.neS ?hZq ?mZq; (case hZq => with_reducible assumption); (case mZq => (k_dflt ((repeat (first | exact List.Mem.head _ | refine List.Mem.tail _ ?_)); done)))) | (refine' LoA.neS' ?hZq ?mZq; (case hZq => with_reducible assumption); (case mZq => (k_dflt ((repeat (first | exact List.Mem.head _ | refine List.Mem.tail _ ?_)); done)))) | (refine' LoA.neT ?hZq ?mZq; (case hZq => with_reducible assumption); (case mZq => (k_dflt ((repeat (first | exact List.Mem.head _ | refine List.Mem.tail _ ?_)); done)))) | (refine' LoA.neT' ?hZq ?mZq; (case hZq => with_reducible assumption); (case mZq => (k_dflt ((repeat (first | exact List.Mem.head _ | refine List.Mem.tail _ ?_)); done)))) | exact neS_self | exact neS_self' | ((refine Ne51.ne ?_); with_reducible assumption) | ((refine Ne51.ne' ?_); with_reducible assumption) | (refine' off1_ne ?o1 ?m1; (case o1 => with_reducible assumption); (case m1 => ((repeat (first | exact List.Mem.head _ | refine List.Mem.tail _ ?_)); done))) | (refine' Ne.symm (off1_ne ?o1 ?m1); (case o1 => with_reducible assumption); (case m1 => ((repeat (first | exact List.Mem.head _ | refine List.Mem.tail _ ?_)); done))) | k_extra "mine_om")
  k_with "mine_om" => ((try simp only [LoA.cons_iff, LoA.nil_iff, and_true] at *); omega)
  walk_at "mine_reg"
  obtain ⟨B, F, X, N, T, hk, G, TB, n51, hdp, hun⟩ := S
  refine wpAny_call ?_
  k_dflt (walk_at "mine_enter")
  clear N
  w_strict (repeat' (k_extra "mine_step"))
  k_dflt (refine' lmade (x := x) (y := y) ?S1 hv h2 h3 hx hy ?_; (case S1 => walk_at "mine_sit"))
  intro va vd vml vmp vcf vmt tb1 nw h1 g1 tk1 G1 TB1 F1 N1 d1 d2 f1
  obtain ⟨rows1, N1', sub1, n51a, f1a⟩ := rowsPlain N1 n51 d1 f1
  clear N1
  (try dsimp only)
  w_strict (repeat' (k_extra "mine_step"))
  k_dflt (refine' lroots (P := P) ?S2 h11 h2 h3 ?_; (case S2 => walk_at "mine_sit"))
  intro rl rs tb2 rows2 h2' g2 tk2 kr G2 TB2 F2 N2 sub2 n51b hrl hr
  clear N1'
  (try dsimp only)
  w_strict (repeat' (k_extra "mine_step"))
  have hb := p_big hp
  have hn : (x * x + y * y) % (P : Int) ≠ 0 := Int.ne_of_gt ((pk hp).nm_pos (v := (x, y)) ⟨hx, hy⟩ h0)
  have hk13 : (P * P + 7) / 16 < 2 ^ 13 := by
    have : P * P ≤ 227 * 227 := Nat.mul_le_mul (by (first | omega | k_extra "mine_om")) (by (first | omega | k_extra "mine_om"))
    (first | omega | k_extra "mine_om")
  have hgc : ∀ a, 1 ≤ a → a < (P : Int) → Int.gcd a (P : Int) = 1 := fun a h1 h2 => by
    obtain ⟨m, rfl, hm⟩ := nat_of (p := P) (a := a) (by (first | omega | k_extra "mine_om")) h2
    exact (pk hp).inv m hm (by (first | omega | k_extra "mine_om"))
  have hA0 := Int.emod_nonneg (nm (x, y)) (show (P : Int) ≠ 0 by (first | omega | k_extra "mine_om"))
  have e3 : (x ^ Int.toNat 2 + y ^ Int.toNat 2).fmod (P : Int) = ((nm (x, y) % (P : Int)).toNat : Int) := by
    rw [Int.toNat_of_nonneg hA0, Int.fmod_eq_emod_of_nonneg _ (by (first | omega | k_extra "mine_om"))]
    show (x ^ 2 + y ^ 2) % _ = (x * x + y * y) % _
    rw [Int.pow_succ, Int.pow_succ, Int.pow_zero, Int.one_mul, Int.pow_succ, Int.pow_succ, Int.pow_zero, Int.one_mul]
  have e4 : (((P : Int) - 1).fdiv 2) = (((P - 1) / 2 : Nat) : Int) := by rw [Int.fdiv_eq_ediv_of_nonneg _ (by decide)]; (first | omega | k_extra "mine_om")
  k_dflt (refine' sqrt (P := P) (rs := rs) (vs := rv (P : Int) (halfP P)) ?S3 (f1a.sub sub2) hrl hr (fun i j hi hj => rv_dist P hp i hi j hj) (fun k _ => rv_rg h2 k) (rv_nms P hp) h2 h3 hx hy (by (first | omega | k_extra "mine_om")) hk13 hgc hn ?hnone ?hsome; (case S3 => walk_at "mine_sit"))
  case hnone =>
    intro u v huv hno tb3 rows3 h3' g3 tk3 G3 TB3 F3 N3 sub3 n51c
    have hE := z_none hp hx hy huv h0 hno
    have hv3 := sub3 _ (sub2 _ (sub1 _ hv))
    clear N2
    (try dsimp only)
    w_strict (repeat' (k_extra "mine_step"))
    unfold Hold2
    dsimp only
    obtain ⟨q, hq, hq1⟩ : ∃ q : Int, (((nm (x, y) % (P : Int)).toNat ^ ((P - 1) / 2) % P : Nat) : Int) = q ∧ ¬ q = 1 := ⟨_, rfl, by
      rw [Int.natCast_emod, Int.natCast_pow, Int.toNat_of_nonneg hA0, hE]
      (first | omega | k_extra "mine_om")⟩
    refine call_pow3r (a := (nm (x, y) % (P : Int)).toNat) (b := (P - 1) / 2) (n := P) (r := q) ?e1 ?e2 rfl (by (first | omega | k_extra "mine_om")) hq ?_
    case e1 => exact e3
    case e2 => exact e4
    clear hq
    clear hE hno hn hgc hk13 hA0 e3 e4 hr hrl h0 huv hp
    (try dsimp only)
    w_strict (repeat' (k_extra "mine_step"))
    all_goals
      rename Fr h₀ _ _ m => kF
      rename News h₀ L _ _ => kN
      first
        | exact hret _ _ _ _ _ (by assumption) TB3 kF kN (fun p hp => sub3 _ (sub2 _ (sub1 _ hp))) n51c
        | exact absurd (by assumption) hq1
        | (exfalso; (first | omega | k_extra "mine_om"))
  case hsome =>
    intro u v j u' v' r huv hj he huv' hr' x1 x1d x1ml x1mp x1cf tb3 rows3 h3' g3 tk3 G3 TB3 F3 N3 sub3 n51c f3
    have hE := z_one hp hx hy huv hj he
    obtain ⟨⟨hra, hrb⟩, ⟨hs1, hs2⟩, hcmp⟩ := z_root hp hx hy huv h0 hj he huv' hr'
    have hv3 := sub3 _ (sub2 _ (sub1 _ hv))
    have f3c := f3
    unfold FqAt at f3c
    obtain ⟨m3a, ⟨_, _, _, _, _, _, _, m3b⟩, m3c, ⟨_, _, m3d⟩, ⟨_, _, m3e⟩, _, _, _, m3f⟩ := f3c
    clear N2
    (try dsimp only)
    w_strict (repeat' (k_extra "mine_step"))
    unfold Hold2
    dsimp only
    refine call_pow3r (a := (nm (x, y) % (P : Int)).toNat) (b := (P - 1) / 2) (n := P) (r := 1) ?e1 ?e2 rfl (by (first | omega | k_extra "mine_om")) ?e5 ?_
    case e1 => exact e3
    case e2 => exact e4
    case e5 => rw [Int.natCast_emod, Int.natCast_pow, Int.toNat_of_nonneg hA0]; exact hE
    clear hE hn hgc hk13 hA0 e3 e4 huv huv' hr' he hr hrl h0 hp
    obtain ⟨ra, rb⟩ := r
    dsimp only at hra hrb hs1 hs2 hcmp m3e
    (try dsimp only)
    w_strict (repeat' (k_extra "mine_step"))
    k_dflt (refine' times (x := ra) (y := rb) (x' := ra) (y' := rb) ?S4 ?ha4 ?hc4 h2 h3 hra hrb hra hrb ?_; (case S4 => walk_at "mine_sit"); (case ha4 => k_mem); (case hc4 => k_mem))
    intro D h4 q1 q2 tk4 F4 N4 l4
    have ef : ∀ z : Int, z.fmod (P : Int) = z % (P : Int) := fun z => Int.fmod_eq_emod_of_nonneg z (by (first | omega | k_extra "mine_om"))
    rw [hs1, hs2] at N4
    (try dsimp only)
    w_strict (repeat' (k_extra "mine_step"))
    all_goals
      rw [← ef, ← ef] at hcmp
      rename Fr h₀ _ _ m => kF
      rename News h₀ L _ _ => kN
      refine okBool ?_ (hret tb3 rows3 _ _ _ (by assumption) TB3 kF (fun p hp => kN p (by
        rcases List.mem_cons.mp hp with rfl | hp
        · k_dflt k_mem
        · repeat (first | exact hp | refine List.mem_cons_of_mem _ ?_))) (fun p hp => sub3 _ (sub2 _ (sub1 _ hp))) n51c)
      first
        | exact decide_eq_true (by assumption)
        | exact decide_eq_true (hcmp.elim (fun h => absurd h (by assumption)) fun h => h.2)
        | exact beq_iff_eq.mpr (hcmp.elim (fun h => absurd h (by assumption)) fun h => h.1)
end
end C19_part
/-! E1 -/
section E1_part
open PySem PySem.W PyProof.Rows PySem.Calls
set_option maxRecDepth 100000
theorem hole_get {h : Heap} {b : Addr} {o : Obj} (e : h.get? b = some o) (n : b ≠ 51) : (hideAll h [51]).get? b = some o := hideAll_get _ e (by simpa using n)
theorem hole_none (h : Heap) : (hideAll h [51]).get? 51 = none := hideAll_none _ (.head _)
theorem hole_ns {h : Heap} {a : Addr} {m : Str → Option Value} (x : h.Ns a m) (n : a ≠ 51) : (hideAll h [51]).Ns a m := x.at' fun _ e => hole_get e n
theorem top_hole {p : Program} {loose : List Str} {mean : ExcName → Option Value} {mg mb : Str → Option Value} {h : Heap} {tb : Obj} (T : Top p loose mean mg mb h) (hi : importsNone p = true) (h51 : h.get? 51 = some tb) (hc : tb.cls = .none) :
    ∃ p0 loose0, Top p0 loose0 mean mg mb (hideAll h [51]) := by
  refine ⟨{ p with main := { p.main with body := [] } }, loose ++ ((recsOf p).map (·.name) ++ ((litsOf p).map (·.1) ++ (clssOf p loose).map (·.name))), Top.mk (hole_ns T.g (by decide)) (hole_ns T.b (by decide)) ?_ ?_ (fun d hd => by cases (show d ∈ ([] : List DefRec) from hd)) (fun o ho => by cases (show o ∈ ([] : List OwnSpec) from ho)) (fun x d hv => ?_) (fun x h1 h2 _ _ _ => ?_) T.builtins (fun d hd => by cases (show d ∈ ([] : List DefRec) from hd)) ?_ (fun _ => ?_)⟩
  · obtain ⟨mc, a, b⟩ := T.nolimit
    exact ⟨mc, hole_ns a (by decide), b⟩
  · obtain ⟨mc, a, b⟩ := T.nodigits
    exact ⟨mc, hole_ns a (by decide), b⟩
  · cases (show (none : Option PyData) = some d from hv)
  · simp only [List.mem_append, not_or] at h2
    exact T.free x h1 h2.1 h2.2.1 h2.2.2.1 h2.2.2.2
  · obtain ⟨bm, ob, a, b, c, d⟩ := T.bmain
    refine ⟨bm, ob, a, b, hole_get c fun e => ?_, d⟩
    rw [e, h51] at c
    have := Option.some.inj c
    subst this
    rw [hc] at d
    exact nomatch d.1
  · have x := T.seer hi
    refine ⟨?_, ?_, ?_, ?_⟩
    · obtain ⟨mc, a, b⟩ := x.statics
      exact ⟨mc, hole_ns a (by decide), b⟩
    · obtain ⟨mc, a, b⟩ := x.mods
      exact ⟨mc, hole_ns a (by decide), b⟩
    · obtain ⟨mc, a, b⟩ := x.imp
      exact ⟨mc, hole_ns a (by decide), b⟩
    · obtain ⟨mg, bm, ob, a, b, c, d, e⟩ := x.main
      refine ⟨mg, bm, ob, hole_ns a (by decide), b, hole_get c fun q => ?_, d, e⟩
      rw [q, h51] at c
      have := Option.some.inj c
      subst this
      rw [hc] at d
      exact nomatch d
end E1_part
/-! E3 -/
section E3_part
open PySem PySem.W PyProof.Rows PySem.Calls
set_option maxRecDepth 100000
def Hold0 (P : Prop) : Prop := P
theorem Hold0.mk {P : Prop} (h : P) : Hold0 P := h
theorem Hold0.out {P : Prop} (h : Hold0 P) : P := h
theorem k51 (P : Params) : (Mine.hd.heap_1 P).lookup 51 = none := by kernel_rfl
theorem k2_in {P : Params} {h : Heap} (X : (K2 P).In h) : (Mine.hd.heap_1 P).In h ∧ h.get? 51 = some { cls := .none, data := .fields #[] } := by
  refine ⟨fun a o l => X a o ?_, X 51 _ ?_⟩
  · show ((51, _) :: Mine.hd.heap_1 P).lookup a = some o
    rw [List.lookup_cons]
    cases q : a == 51 with
    | false => exact l
    | true =>
      have : a = 51 := eq_of_beq q
      subst this
      rw [k51 P] at l
      cases l
  · show ((51, _) :: Mine.hd.heap_1 P).lookup 51 = _
    rw [List.lookup_cons]
    rfl
theorem to_hole {w : World} {p : Program} {loose : List Str} {mean : ExcName → Option Value} {mg mb : Str → Option Value} {h₀ h : Heap} {L : Addr} {m : Str → Option Value} {tb : Obj} {news : List (Addr × Obj)} (T : Top p loose mean mg mb h₀) (hi : importsNone p = true)
    (h51 : h₀.get? 51 = some tb) (hc : tb.cls = .none) (X : (Mine.hd.heap_1 w.params).In h₀) (F : Fr h₀ L h m) (N : News h₀ L h news) :
    ∃ H p0 loose0, H = hideAll h₀ [51] ∧ Top p0 loose0 mean mg mb H ∧ Fr H L h m ∧ News H L h ((51, tb) :: news) ∧ (Mine.hd.heap_1 w.params).In H ∧ Below callerA H [] H ∧ (∀ p ∈ news, p.1 ≠ 51) := by
  obtain ⟨p0, loose0, T0⟩ := top_hole T hi h51 hc
  refine ⟨hideAll h₀ [51], p0, loose0, rfl, T0, ⟨F.ns, fun b o e => F.keep b o (of_hideAll _ e), by rw [hideAll_size]; exact F.above⟩, fun q hq => ?_, fun a o l => hole_get (X a o l) fun e => ?_, below_caller _, fun q hq e => ?_⟩
  · rcases List.mem_cons.mp hq with rfl | hq
    · exact ⟨F.keep _ _ h51, Nat.ne_of_lt (Nat.lt_of_lt_of_le (Heap.lt_size h51) F.above), hole_none _⟩
    · refine ⟨(N q hq).1, (N q hq).2.1, ?_⟩
      cases z : (hideAll h₀ [51]).get? q.1 with
      | none => rfl
      | some o => have := of_hideAll _ z; rw [(N q hq).2.2] at this; cases this
  · rw [e, k51] at l
    cases l
  · have := (N q hq).2.2
    rw [e, h51] at this
    cases this
theorem five {ys : List Value} {ns : List Int} (h : IntsAre ys ns) (hl : ns.length = 5) (hp : ∀ n ∈ ns, 0 ≤ n) :
    ∃ a0 a1 a2 a3 a4 t0 t1 t2 t3 t4, ys = [.int a0 t0, .int a1 t1, .int a2 t2, .int a3 t3, .int a4 t4] ∧ 0 ≤ a0 ∧ 0 ≤ a1 ∧ 0 ≤ a2 ∧ 0 ≤ a3 ∧ 0 ≤ a4 := by
  match ns, hl with
  | [b0, b1, b2, b3, b4], _ =>
    cases h with | cons _ t0 h =>
    cases h with | cons _ t1 h =>
    cases h with | cons _ t2 h =>
    cases h with | cons _ t3 h =>
    cases h with | cons _ t4 h =>
    cases h
    exact ⟨b0, b1, b2, b3, b4, t0, t1, t2, t3, t4, rfl, hp _ (by simp), hp _ (by simp), hp _ (by simp), hp _ (by simp), hp _ (by simp)⟩
theorem five_abs {ys : List Value} {d : List Int} {len : Nat} (h : IntsAre ys (List.map (fun k' => if k' < (len : Int) then if d.getD k'.toNat 0 < 0 then -d.getD k'.toNat 0 else d.getD k'.toNat 0 else 5 * k' + 4) (rangeKs 0 ((5 : Int) - 0).toNat))) :
    ∃ a0 a1 a2 a3 a4 t0 t1 t2 t3 t4, ys = [.int a0 t0, .int a1 t1, .int a2 t2, .int a3 t3, .int a4 t4] ∧ 0 ≤ a0 ∧ 0 ≤ a1 ∧ 0 ≤ a2 ∧ 0 ≤ a3 ∧ 0 ≤ a4 := by
  refine five h (by rw [List.length_map, rangeKs_length]; rfl) fun n hn => ?_
  obtain ⟨k, hk, rfl⟩ := List.mem_map.mp hn
  have := mem_rangeKs hk
  split
  · split <;> omega
  · omega
end E3_part
/-! E4 -/
section E4_part
open PySem PySem.W PyProof.Rows PySem.Calls
/-- what «pair if pair != (0, 0) else (1, 0)» leaves: one element of the field unlike 0, as if it were new -/
def IfK (h₀ : Heap) (L : Addr) (m : Str → Option Value) (P : Int) (rest : List (Addr × Obj)) (s0 : Shared) (v : Value) (s' : Shared) : Prop :=
  ∃ (T : Addr) (x y : Int) (t1 t2 : Tok) (h' : Heap) (tk : Nat), v = .ref T ∧ s' = { s0 with heap := h', toks := tk } ∧ Fr h₀ L h' m ∧ News h₀ L h' ((T, { cls := .type "tuple", data := .seq #[.int x t1, .int y t2] }) :: rest) ∧
    AllLt T rest ∧ (0 ≤ x ∧ x < P) ∧ (0 ≤ y ∧ y < P) ∧ (x, y) ≠ (0, 0)
theorem IfK.intro {h₀ : Heap} {L : Addr} {m : Str → Option Value} {P : Int} {rest rows : List (Addr × Obj)} {s0 : Shared} {h' : Heap} {tk : Nat} {T : Addr} {x y : Int} {t1 t2 : Tok}
    (F : Fr h₀ L h' m) (N : News h₀ L h' rows) (hT : (T, ({ cls := .type "tuple", data := .seq #[.int x t1, .int y t2] } : Obj)) ∈ rows) (ho : ∀ p ∈ rest, p ∈ rows) (hl : AllLt T rest) (hx : 0 ≤ x ∧ x < P) (hy : 0 ≤ y ∧ y < P) (h0 : (x, y) ≠ (0, 0)) :
    IfK h₀ L m P rest s0 (.ref T) { s0 with heap := h', toks := tk } := ⟨T, x, y, t1, t2, h', tk, rfl, rfl, F, news_cons N hT fun q hq => N q (ho q hq), hl, hx, hy, h0⟩
theorem ifx_cut {M : Model} {A : Around} {test body orelse : PySem.Expr} {pos : Pos} {env : Env} {Q E : Value → Shared → Prop} {s : Shared} {h₀ : Heap} {L : Addr} {m : Str → Option Value} {P : Int} {p : Addr × Obj} {rest : List (Addr × Obj)} (F : Fr h₀ L s.heap m) (N : News h₀ L s.heap (p :: rest)) (h2 : 1 < P)
    (h1 : wpAny M A (isTrue test env (eval test env)) (fun c s₂ => if c then wpAny M A (eval body env) (IfK h₀ L m P rest s) E s₂ else wpAny M A (eval orelse env) (IfK h₀ L m P rest s) E s₂) E s)
    (hq : ∀ T x y t1 t2 h' tk, Fr h₀ L h' m → News h₀ L h' ((T, { cls := .type "tuple", data := .seq #[.int x t1, .int y t2] }) :: rest) → AllLt T rest → (0 ≤ x ∧ x < P) → (0 ≤ y ∧ y < P) → (x, y) ≠ (0, 0) → Q (.ref T) { s with heap := h', toks := tk }) :
    wpAny M A (eval (.IfExp test body orelse pos) env) Q E s :=
  wpAny_mono (IfExp_ h1) (fun v s' ⟨T, x, y, t1, t2, h', tk, ev, es, F', N', hl, hx, hy, h0⟩ => by subst ev es; exact hq T x y t1 t2 h' tk F' N' hl hx hy h0) fun _ _ h => h
end E4_part
/-! C20 -/
section C20_part
open PySem PySem.W PyProof.Rows PySem.Calls
theorem lawEnd {P : Params} {c : ClaimW} {cl : Str → Option Addr} {mean : ExcName → Option Value} {args : List WData} {s₁ : Shared} {H h : Heap} {L : Addr} {m : Str → Option Value} {tb : Obj} {rows : List (Addr × Obj)} {g : Array GenState} {tk : Nat} (X : (Mine.hd.heap_1 P).In H) (h51 : Hold0 (s₁.heap.get? 51 = some { cls := .none, data := .fields #[] })) (hH : Hold0 (H = hideAll s₁.heap [51])) (F : Fr H L h m) (N : News H L h ((51, tb) :: rows)) (TB : TabOk tb) (G : AllBare g)
    (hr : ∀ cls, c.raises args cls = false) (hp : c.post args (.bool true) args = true) (hu : c.unshared = true → ([] : List Addr).Nodup ∧ ∀ a ∈ ([] : List Addr), s₁.heap.get? a = none) :
    GoodWG c cl mean args s₁ (.ok (.ret (.bool true))) { s₁ with heap := h, gens := g, toks := tk } := by
  replace h51 := Hold0.out h51
  replace hH := Hold0.out hH
  obtain ⟨pt, rfl, hpt⟩ := TB
  have e := (N _ (.head _)).1
  have T0 := (initCode (P := P) (h := s₁.heap) (fun a o l => of_hideAll [51] (hH ▸ X a o l)) h51 trivial).2
  refine ⟨.inl ⟨.bool true, .bool true, [], rfl, hr, .bool true, hp, hu⟩, ⟨fun b o q => ?_, fun b o q => ?_⟩, rfl, G⟩
  · by_cases hb : b = 51
    · subst hb
      have eo := Option.some.inj (q.symm.trans h51)
      subst eo
      exact .inr (.inl ⟨T0.isCodeTable, rfl, #[], pt, rfl, by simpa using e⟩)
    · exact .inl (F.keep b o (hH ▸ hole_get q hb))
  · by_cases hb : b = 51
    · subst hb
      exact ⟨_, e⟩
    · exact ⟨o, F.keep b o (hH ▸ hole_get q hb)⟩
theorem item_tmp {prog : Program} {w : World} {A : Around} {E : Value → Shared → Prop} {s : Shared} {Q : Value → Shared → Prop} {value slice : PySem.Expr} {l : Addr} {items : Array Value} {k : Int} {u : Tok} {x : Value} (hl : s.heap.IsList l items) (h0 : 0 ≤ k) (hfit : k < 2 ^ 63) (hx : items[k.toNat]? = some x) (h : Q x s) (hs : subscripted slice false (.ref l) (.int k u) = operate [.ref l, .int k u] (getItem (.ref l) (.int k u))) :
    wpAny (model prog w) A (subscriptTail value slice (.ref l) (.int k u)) Q E s := subscriptTail_builtinR (x := x) hl.typeIs slot_list_getitem.lookup (wpAny_getItem_list hl h0 hfit hx ⟨rfl, h⟩) hs
theorem pr_mem : ∀ i, i < 13 → primes.getD i 0 ∈ primes := by decide
theorem nz1 {x y : Int} (h : (x == 0 && y == 0) = false) : (x, y) ≠ (0, 0) := by
  intro e
  injection e with e1 e2
  subst e1 e2
  simp at h
theorem nz2 {x y : Int} (h : ¬ (x == 0 && y == 0) = true) : (x, y) ≠ (0, 0) := nz1 (by cases hq : (x == 0 && y == 0) with | false => rfl | true => exact absurd hq h)
theorem nz3 {x y : Int} (h : (!(x == 0 && y == 0)) = true) : (x, y) ≠ (0, 0) := nz1 (by cases hq : (x == 0 && y == 0) with | false => rfl | true => rw [hq] at h; cases h)
theorem sq_nz {P : Nat} {x y : Int} (hp : P ∈ primes) (hx : 0 ≤ x ∧ x < (P : Int)) (hy : 0 ≤ y ∧ y < (P : Int)) (h0 : (x, y) ≠ (0, 0)) : ((x * x - y * y) % (P : Int), (x * y + y * x) % (P : Int)) ≠ (0, 0) := by
  intro e
  have h1 : Cg P (gm (x, y) (x, y)) (0, 0) := (Cg.red P (gm (x, y) (x, y))).symm.trans (.of_eq e)
  have h2 : Cg P (x, y) (0, 0) := ((pk hp).nozero h1).elim id id
  exact h0 (Cg.eq ⟨hx, hy⟩ ⟨⟨Int.le_refl 0, by omega⟩, Int.le_refl 0, by omega⟩ h2)
local macro_rules | `(tactic| walk_at "mine_behind") => `(tactic| (
  intro w s₀ s₁ mg mb G Y fa o pm cd doc dV kV ho hd hcd hD hmg hg args vals as hpre hlay hrd hwl hlo;
  obtain ⟨KX, h51'⟩ := k2_in (kIn_of Y); (have h51 := Hold0.mk h51'); clear h51' Y;
  (have X := (Ground.X G).1);
  (have V := (Ground.X G).2);
  (try w_nolog (first | (have GL := glob_more (Ground.glob G (by first | k_qdec | decide +kernel) (by first | k_qdec | decide +kernel)) V) | (have GL := glob_more (Ground.glob G (by decide +kernel)) V)));
  refine Ground.open G ?_;
  intro T B D TE TW;
  (try (refine guard_noD D (by decide +kernel) ?_; clear D));
  obtain ⟨_, _, M⟩ := bmod_of_top T;
  (have TA := at_of_top T);
  (try (obtain ⟨_, _, he, B0⟩ := based_of_top T rfl hmg ho hd; have he' : cd = _ := he; subst he'; clear he));
  clear hmg;
  wrow_args hpre hlay hrd hwl hlo;
  all_goals (
    (refine enter_call ?_);
    w_top on;
    (have K0 := below_caller (Top.heap T));
    w_call any ho hd hcd hD T F;
    clear hd TA;
    k_drop;
    skip)))
set_option maxRecDepth 100000 in
set_option maxHeartbeats 8000000 in
theorem lawGo : PySem.Challenge.rw_kh0013_01.Holds := by
  k_with_none
  k_with "mine_fold" => first | (have F8 := F7; have N8 := N7; clear F8 N8) | (rename Fr _ _ _ _ => F7; rename News _ _ _ _ => N7; revert F7 N7; refine let_FN ?_; intro m7 n7 F7 N7)
  k_with "execs cons" => ((try dsimp only); first | (refine let_one ?_; intro s7 Qk) | (refine let_cons ?_; intro s7 Qk Qk))
  k_with "mine_step" => (first | (with_reducible show Qk _ _; dsimp only [Qk]; clear Qk) | (k_unfold; (try dsimp only)) | (k_end; kc_close) | walk1 | (dsimp only; walk1) | (leave1; walk_say "STEP leave1"; (try dsimp only)))
  k_with "CompRest" => (with_unfolding_all first | (refine LCg.CompRest.succ ?_; intro v9' I9' oI9' C9' oC9' D9' m9' h9' tk9' E9' hv9' hC9' hx9' F9' N9' off9' ne9'; clear ne9'; (first | lcg_open hv9' | (obtain ⟨t99', hv99'⟩ := hv9'; subst hv99'))) | refine LCg.CompRest.zero ?_)
  k_with "CompEnd" => (k_here; (refine' LCg.CompEnd.intro ?F_1 ?N_1 _ (fun p hp => hp) ?off_1 ?S_1 ?_); (case F_1 => k_asm); (case N_1 => k_asm); (case off_1 => assumption); (case S_1 => (refine' srcAt_led ?m9_1; (case m9_1 => k_mem))))
  k_with "FinE" => ((unfold LCg.FinE); intro D9' h9' tk9' F9' N9' o19'; (have o519' := Ne51.intro (off1_ne (a := 51) o19' (by k_dflt k_mem))); (try simp only [List.nil_append, List.cons_append] at N9'); (try dsimp only))
  k_with "eval ListComp" => (k_here; k_dflt (refine LCg.ListComp_U (F₀ := by k_asm) (by with_unfolding_all rfl) (by decide) (by rfl) (by decide) (by rfl) ?_); k_dflt lcg_toSrc)
  k_with "CompSrc" => (k_here; k_dflt (refine LCg.CompSrc.ledger (by rfl) (by k_asm) (by k_asm) (by k_mem) (by first | size_fits | exact Nat.le_of_ble_eq_true rfl) ?_; intro g9'; lcg_lit))
  k_with "exec For Name Call cons nil" => (k_here; (rename Fr _ _ _ _ => lF9'); (with_unfolding_all refine' For_turns lF9' ?_; k_whole))
  k_with "pyIter ref" => (k_here; (with_reducible show wpAny _ _ (pyIter (Value.ref _)) (fun it s₂ => TurnsAt _ _ _ _ _ _ _ _ _ it s₂) _ _); (with_reducible rename IsRange _ _ _ _ _ _ _ _ => rX9'); with_unfolding_all (first | (refine' range_turns (xs := [Itm.tok (fun t => Value.int (0 : Int) t)]) ?hh_6 ?F_6 ?N_6 rX9' ?sm_6 ?hn_6 ?hx_6 ?_; (case hn_6 => decide +kernel); (case sm_6 => decide +kernel); (case hx_6 => rfl)) | (refine' range_turns (xs := [Itm.tok (fun t => Value.int (1 : Int) t), Itm.tok (fun t => Value.int (0 : Int) t)]) ?hh_6 ?F_6 ?N_6 rX9' ?sm_6 ?hn_6 ?hx_6 ?_; (case hn_6 => decide +kernel); (case sm_6 => decide +kernel); (case hx_6 => rfl)) | (refine' range_turns (xs := [Itm.tok (fun t => Value.int (0 : Int) t), Itm.tok (fun t => Value.int (1 : Int) t)]) ?hh_6 ?F_6 ?N_6 rX9' ?sm_6 ?hn_6 ?hx_6 ?_; (case hn_6 => decide +kernel); (case sm_6 => decide +kernel); (case hx_6 => rfl)) | (refine' range_turns (xs := [Itm.tok (fun t => Value.int (0 : Int) t), Itm.tok (fun t => Value.int (1 : Int) t), Itm.tok (fun t => Value.int (2 : Int) t)]) ?hh_6 ?F_6 ?N_6 rX9' ?sm_6 ?hn_6 ?hx_6 ?_; (case hn_6 => decide +kernel); (case sm_6 => decide +kernel); (case hx_6 => rfl)) | (refine' range_turns (xs := [Itm.tok (fun t => Value.int (2 : Int) t), Itm.tok (fun t => Value.int (1 : Int) t), Itm.tok (fun t => Value.int (0 : Int) t)]) ?hh_6 ?F_6 ?N_6 rX9' ?sm_6 ?hn_6 ?hx_6 ?_; (case hn_6 => decide +kernel); (case sm_6 => decide +kernel); (case hx_6 => rfl)) | (refine' range_turns (xs := []) ?hh_6 ?F_6 ?N_6 rX9' ?sm_6 ?hn_6 ?hx_6 ?_; (case hn_6 => decide +kernel); (case sm_6 => decide +kernel); (case hx_6 => rfl))); (case hh_6 => rfl); (case F_6 => k_asm); (case N_6 => k_asm); clear rX9'; intro i9' l19; (have o1x9' := off1_lt l19); (have l1y9' := LtAll.intro l19); (try k_lt l19))
  k_with "call type:enumerate" => (k_here; k_dflt (refine' enum_make ?F_7 ?N_7 ?m_7 ?_); (case F_7 => k_asm); (case N_7 => k_asm); (case m_7 => k_mem); intro e9' h9' F9' N9' eX9'; (try k_sweep))
  k_with "call type:enumerate" => (k_here; (with_reducible show wpAny _ _ (call (Value.type _) [Value.ref _]) (fun xv s₁ => wpAny _ _ (pyIter xv) (fun it s₂ => TurnsAt _ _ _ _ _ _ _ _ _ it s₂) _ s₁) _ _); with_unfolding_all (refine' enum_turns (vs := [_, _]) (xs := [Itm.pair (fun t => Value.int (0 : Int) t) _, Itm.pair (fun t => Value.int (1 : Int) t) _]) ?hh_8 ?F_8 ?N_8 ?hm_8 ?hc_8 ?hd_8 ?hx_8 ?_; (case hh_8 => rfl); (case F_8 => k_asm); (case N_8 => k_asm); (case hm_8 => k_mem); (case hc_8 => rfl); (case hd_8 => rfl); (case hx_8 => rfl)); intro i9' l19; (try k_lt l19))
  k_with "call type:list" => (k_here; (rename EnumF _ _ _ _ _ _ _ => eX9'); k_dflt (refine' enum_list ?hh_9 ?F_9 ?N_9 eX9' ?_); (case hh_9 => rfl); (case F_9 => k_asm); (case N_9 => k_asm); intro S9' T19' T29' k19' k29' c9' h9' tk9' F9' N9' l19 l29 l39; clear eX9'; (try k_lt l19); (try k_lt2 l29); (try k_lt2 l39); (try k_sweep))
  k_with "exec For Tuple Call cons nil" => (k_here; (rename Fr _ _ _ _ => lF9'); (with_unfolding_all refine' For_turns lF9' ?_; k_whole))
  k_with "exec For Tuple Attribute cons nil" => (k_here; (rename Fr _ _ _ _ => lF9'); (with_unfolding_all refine' For_turns lF9' ?_; k_whole))
  k_with "mine_enterC" => (refine' enter_defC ?k1_12 ?k2_12 ?k3_12 ?k4_12 ?k5_12 ?kA_12 ?kF_12 ?kK_12 ?k6_12 ?k7_12 ?k8_12 ?k9_12 ?kB_12 ?kD_12 ?_ ?c2_12 ?c3_12 ?c4_12; (case kA_12 => exact rfl); (case kF_12 => exact rfl); (case kK_12 => first | exact rfl | assumption); (case k1_12 => k_asm); (case k2_12 => k_asm); (case k3_12 => k_asm); (case k4_12 => k_asm); (case k5_12 => k_asm); (case k6_12 => k_is); (case k7_12 => k_is); (case k8_12 => ktr_room); (case k9_12 => exact BindsTo.of_eq rfl); (case kB_12 => exact rfl); (case kD_12 => decide +kernel); (case c2_12 => exact rfl); (case c3_12 => exact rfl); (case c4_12 => exact rfl); k_whole; intro g9' L9' h9' tk9' cells9' FG9' F9' N9' Y9' B9' X9' T9' l19 hBs; (have o2x9' := off1_lt (all_lt_succ l19)); (try k_lt l19); k_cells Y9'; (try simp only [List.cons_append, List.nil_append] at N9'); (try dsimp only); (try k_lift B9'); (try k_fold))
  k_with "eval ListComp" => (k_here; (with_reducible show wpAny _ _ (eval (PySem.Expr.ListComp (PySem.Expr.Tuple _ _ _) _ _ _) _) _ _ _); k_dflt (refine mc_comp (by with_unfolding_all rfl) (by with_unfolding_all rfl) (by decide) (by rfl) (by decide) (by rfl) (by rfl) (by decide) (by decide) (by decide) ?_))
  k_with "call type:enumerate" => (k_here; (with_reducible show wpAny _ _ (call (Value.type _) [Value.ref _]) (McSrc _) _ _); k_dflt (refine' mc_call ?F_14 ?N_14 ?m_14 ?_; (case F_14 => k_asm); (case N_14 => k_asm); (case m_14 => k_mem)); intro D9' T9' ti9' h9' tk9' F9' N9' l19 l29; (try k_lt l19); (try k_lt2 l29); (try k_sweep))
  k_with "mine_split" => (repeat' (first | exact Split.here | apply Split.skip))
  k_with "eval GeneratorExp" => (k_here; k_dflt (refine' gen_make ?F_16 (Split.toNews ?N_16 ?sp_16) ?h51_16 ?tb_16 ?G_16 ?X_16 ?T_16 ?hh_16 ?hcode_16 ?hgl_16 ?room_16 ?hek_16 ?hey_16 ?hdy_16 ?hvy_16 ?hml_16 ?hmc_16 ?hoc_16 ?hms_16 ?hmd_16 ?hfm_16 ?hq_16 ?hco_16 ?hclos_16 ?hcell_16 ?h0_16 ?hx_16 ?hsn_16 ?hkind_16 ?hdx_16 ?hds_16 ?hdc_16 ?_); (case F_16 => k_asm); (case N_16 => k_asm); (case sp_16 => walk_at "mine_split"); (case h51_16 => k_all); (case tb_16 => assumption); (case G_16 => assumption); (case X_16 => k_asm); (case T_16 => k_asm); (case hh_16 => rfl); (case hcode_16 => rfl); (case hgl_16 => rfl); (case room_16 => ktr_room); (case hek_16 => rfl); (case hey_16 => with_unfolding_all rfl); (case hdy_16 => decide); (case hvy_16 => with_unfolding_all rfl); (case hml_16 => k_mem); (case hclos_16 => with_unfolding_all rfl); (case hmc_16 => k_mem); (case hoc_16 => assumption); (case hms_16 => k_mem); (case hmd_16 => k_mem); (case hfm_16 => k_get); (case hq_16 => omega); (case hco_16 => rfl); (case hcell_16 => decide); (case h0_16 => rfl); (case hx_16 => rfl); (case hsn_16 => rfl); (case hkind_16 => rfl); (case hdx_16 => decide); (case hds_16 => decide); (case hdc_16 => decide); intro a9' tb9' h9' g9' tk9' G9' TB9' F9' N9' X9'; (try k_sweep))
  k_with "call type:tuple" => (k_here; k_dflt (refine' call_tuple_tup ?T_17 ?_); (case T_17 => exact News.isTup (by k_asm) (by k_mem)); (try dsimp only))
  k_with "call type:tuple" => (k_here; (rename GenR _ _ _ _ _ _ _ _ _ _ => gX9'); k_dflt (refine' gen_tuple ?F_18 ?N_18 ?G_18 gX9' ?_); (case F_18 => k_asm); (case N_18 => k_asm); (case G_18 => assumption); intro D9' t19' t29' h9' g9' tk9' G9' F9' N9' l19; clear gX9'; (try k_lt l19); (try k_sweep))
  k_with "mine_reg" => (w_on; (have _h : (PySem.Challenge.rw_kh0013_01 = PySem.Challenge.rw_kh0013_01) ∧ (Mine.hd.heap_1 = Mine.hd.heap_1) := by (k_fill; exact ⟨rfl, rfl⟩)); clear _h)
  k_with "mine_enter" => (refine' enter_def ?k1_20 ?k2_20 ?k3_20 ?k4_20 ?k5_20 ?kA_20 ?kF_20 ?kK_20 ?k6_20 ?k7_20 ?k8_20 ?k9_20 ?kB_20 ?_ ?c2_20 ?c3_20 ?c4_20 ?c5_20; (case kA_20 => exact rfl); (case kF_20 => exact rfl); (case kK_20 => first | exact rfl | assumption); (case k1_20 => k_asm); (case k2_20 => k_asm); (case k3_20 => k_asm); (case k4_20 => k_asm); (case k5_20 => k_asm); (case k6_20 => k_is); (case k7_20 => k_is); (case k8_20 => ktr_room); (case k9_20 => exact BindsTo.of_eq rfl); (case c5_20 => decide); (case kB_20 => exact locs rfl); (case c2_20 => exact rfl); (case c3_20 => exact rfl); (case c4_20 => exact rfl); k_whole; intro g9' L9' h9' FG9' F9' N9' B9' X9' T9' hBs; (try dsimp only); (try k_lift B9'); (try k_fold))
  k_with "mine_sit" => (refine' Sit.mk ?B_21 ?F_21 ?X_21 (Split.toNews ?N_21 ?sp_21) ?T_21 ?hk_21 ?G_21 ?TB_21 ?n51_21 ?hdp_21 ?hun_21; (case B_21 => k_asm); (case F_21 => k_asm); (case X_21 => k_asm); (case N_21 => k_asm); (case sp_21 => walk_at "mine_split"); (case T_21 => k_asm); (case hk_21 => first | exact rfl | assumption); (case G_21 => assumption); (case TB_21 => assumption); (case n51_21 => first | assumption | k_all); (case hdp_21 => ktr_room); (case hun_21 => ktr_units))
  k_with "mine_ret" => (intro x9' d9' ml9' mp9' cf9' tb9' h9' g9' tk9' e19' e29' e39' e49' e59' e69' e79' q19' q29' r19' r29' G9' TB9' F9' N9' l19 l29 l39 l49 l59; (have l1o9' := l19); (have o1x9' := off1_lt l19); (have l1y9' := LtAll.intro l19); (have o2x9' := off1_lt (all_lt_trans l19 l29)); (have o3x9' := off1_lt (all_lt_trans (all_lt_trans l19 l29) l39)); (have o4x9' := off1_lt (all_lt_trans (all_lt_trans (all_lt_trans l19 l29) l39) l49)); (have o5x9' := off1_lt (all_lt_trans (all_lt_trans (all_lt_trans (all_lt_trans l19 l29) l39) l49) l59)); (try k_lt l19); k_lt2 l29; k_lt2 l39; k_lt2 l49; k_lt2 l59; (try k_sweep); (try dsimp only))
  k_with "call ref" => (k_here; (with_reducible show wpAny _ _ (call (Value.ref 192) _) _ _ _); k_dflt (refine' mkS ?S_23 ?hlc_23 ?hmt_23 ?h2_23 ?h3_23 ?_); (case S_23 => walk_at "mine_sit"); (case hlc_23 => k_mem); (case hmt_23 => k_mem); (case h2_23 => first | assumption | omega); (case h3_23 => first | assumption | omega); walk_at "mine_ret")
  k_with "mine_fq" => (refine' And.intro ?f1_24 (And.intro (Exists.intro _ (Exists.intro _ (Exists.intro _ (Exists.intro _ (Exists.intro _ (Exists.intro _ (Exists.intro _ ?f2_24))))))) (And.intro ?f3_24 (And.intro (Exists.intro _ (Exists.intro _ ?f4_24)) (And.intro (Exists.intro _ (Exists.intro _ ?f5_24)) (Exists.intro _ (Exists.intro _ (Exists.intro _ ?f6_24))))))); (case f1_24 => k_mem); (case f2_24 => k_mem); (case f3_24 => k_mem); (case f4_24 => k_mem); (case f5_24 => k_mem); (case f6_24 => k_mem))
  k_with "call ref" => (k_here; (with_reducible show wpAny _ _ (call (Value.ref 181) _) _ _ _); k_dflt (refine' made ?S_25 ?hS_25 ?hlc_25 ?h2_25 ?h3_25 ?_); (case S_25 => walk_at "mine_sit"); (case hS_25 => walk_at "mine_fq"); (case hlc_25 => k_mem); (case h2_25 => first | assumption | omega); (case h3_25 => first | assumption | omega); walk_at "mine_ret")
  k_with "mine_lt" => ((repeat (first | exact allLt_nil | refine allLt_cons (by first | (refine' lt_mem ?lm_26 ?mm_26; (case lm_26 => with_reducible assumption); (case mm_26 => ((repeat (first | exact List.Mem.head _ | refine List.Mem.tail _ ?_)); done))) | omega) ?_)); done)
  k_with "UnrEndW" => k_dflt (first | (refine' unr_end2 ?F_27 ?N_27 ?l_27 ?k_27 ?_; (case F_27 => k_asm); (case N_27 => k_asm); (case l_27 => walk_at "mine_lt"); (case k_27 => k_subL)) | (refine' unr_end1 ?F_27 ?N_27 ?l_27 ?k_27 ?_; (case F_27 => k_asm); (case N_27 => k_asm); (case l_27 => walk_at "mine_lt"); (case k_27 => k_subL)))
  k_with "getItem ref int" => (k_here; (with_reducible show wpAny _ _ (getItem (Value.ref _) (Value.int _ _)) _ _ _); k_dflt (refine' get_here ?N_28 ?m_28 ?a_28 ?b_28 ?x_28 ?_; (case N_28 => k_asm); (case m_28 => k_mem); (case a_28 => decide); (case b_28 => decide); (case x_28 => rfl); k_whole))
  k_with "subscriptTail" => (k_here; (with_reducible show wpAny _ _ (subscriptTail _ _ (Value.ref _) (Value.int _ _)) _ _ _); with_unfolding_all (first | (refine' item_tupleT ?t_29 ?a_29 ?b_29 ?c_29 ?d_29 ?_ ?e_29; (case t_29 => exact News.isTup (by k_asm) (by k_mem)); (case a_29 => decide); (case b_29 => decide); (case c_29 => rfl); (case d_29 => rfl); (case e_29 => with_unfolding_all rfl); k_whole) | (refine' sub_here ?N_29 ?m_29 ?k2_29 ?k3_29 ?k4_29 ?_ ?k6_29; (case N_29 => k_asm); (case m_29 => k_mem); (case k2_29 => decide); (case k3_29 => decide); (case k4_29 => rfl); (case k6_29 => with_unfolding_all rfl); k_whole)))
  k_with "setItem ref int" => (k_here; k_dflt (refine' ki_set ?F_30 ?N_30 ?a_30 ?b_30 ?e_30 ?U_30 ?_; (case F_30 => k_asm); (case N_30 => k_asm); (case U_30 => k_upd); (case a_30 => decide); (case b_30 => decide); (case e_30 => rfl)); ki_rest)
  k_with "binaryOp Mult ref int" => (k_here; (with_reducible show wpAny _ _ (binaryOp Operator.Mult (Value.ref _) (Value.int _ _)) _ _ _); k_dflt (refine' KMa.mul ?F_31 ?N_31 ?l_31 ?lo_31 ?hi_31 ?z_31 ?e_31 ?_; (case F_31 => k_asm); (case N_31 => k_asm); (case l_31 => is_list); (case lo_31 => first | omega | decide); (case hi_31 => first | omega | decide); (case z_31 => (simp only [List.length_cons, List.length_nil]; decide)); (case e_31 => (simp only [Int.reduceMul, Int.reduceSub, Int.reduceAdd, Int.reduceToNat, List.replicate_succ, List.replicate_zero, List.flatten_cons, List.flatten_nil, List.cons_append, List.nil_append, List.append_nil]; first | done | exact rfl)); k_whole); intro D9' h9' F9' N9' l19; (have o1x9' := off1_lt l19); (have l1y9' := LtAll.intro l19); (try k_lt l19); (try k_sweep))
  k_with "subscriptTail Name Name ref int" => (k_here; k_dflt (refine' sub_here ?N_32 ?m_32 ?k2_32 ?k3_32 ?k4_32 ?_ ?k6_32; (case N_32 => k_asm); (case m_32 => k_mem); (case k2_32 => decide); (case k3_32 => decide); (case k4_32 => rfl); (case k6_32 => with_unfolding_all rfl); k_whole); (try dsimp only))
  k_with "subscriptTail Name BinOp ref int" => (k_here; k_dflt (refine' sub_here ?N_33 ?m_33 ?k2_33 ?k3_33 ?k4_33 ?_ ?k6_33; (case N_33 => k_asm); (case m_33 => k_mem); (case k2_33 => decide); (case k3_33 => decide); (case k4_33 => rfl); (case k6_33 => with_unfolding_all rfl); k_whole); (try dsimp only))
  k_with "subscriptTail Name Constant ref int" => (k_here; k_dflt (refine' sub_here ?N_34 ?m_34 ?k2_34 ?k3_34 ?k4_34 ?_ ?k6_34; (case N_34 => k_asm); (case m_34 => k_mem); (case k2_34 => decide); (case k3_34 => decide); (case k4_34 => rfl); (case k6_34 => with_unfolding_all rfl); k_whole); (try dsimp only))
  k_with "mine_fq" => (first | exact (by with_reducible assumption) | exact (FqAt.tail (by with_reducible assumption)) | exact (FqAt.tail (FqAt.tail (by with_reducible assumption))) | exact (FqAt.tail (FqAt.tail (FqAt.tail (by with_reducible assumption)))) | exact (FqAt.tail (FqAt.tail (FqAt.tail (FqAt.tail (by with_reducible assumption))))) | exact (FqAt.tail (FqAt.tail (FqAt.tail (FqAt.tail (FqAt.tail (by with_reducible assumption)))))) | exact (FqAt.tail (FqAt.tail (FqAt.tail (FqAt.tail (FqAt.tail (FqAt.tail (by with_reducible assumption))))))) | exact (FqAt.tail (FqAt.tail (FqAt.tail (FqAt.tail (FqAt.tail (FqAt.tail (FqAt.tail (by with_reducible assumption)))))))) | exact (FqAt.tail (FqAt.tail (FqAt.tail (FqAt.tail (FqAt.tail (FqAt.tail (FqAt.tail (FqAt.tail (by with_reducible assumption))))))))) | exact (FqAt.tail (FqAt.tail (FqAt.tail (FqAt.tail (FqAt.tail (FqAt.tail (FqAt.tail (FqAt.tail (FqAt.tail (by with_reducible assumption)))))))))) | exact (FqAt.tail (FqAt.tail (FqAt.tail (FqAt.tail (FqAt.tail (FqAt.tail (FqAt.tail (FqAt.tail (FqAt.tail (FqAt.tail (by with_reducible assumption))))))))))) | exact (FqAt.tail (FqAt.tail (FqAt.tail (FqAt.tail (FqAt.tail (FqAt.tail (FqAt.tail (FqAt.tail (FqAt.tail (FqAt.tail (FqAt.tail (by with_reducible assumption)))))))))))) | exact (FqAt.tail (FqAt.tail (FqAt.tail (FqAt.tail (FqAt.tail (FqAt.tail (FqAt.tail (FqAt.tail (FqAt.tail (FqAt.tail (FqAt.tail (FqAt.tail (by with_reducible assumption))))))))))))) | exact (FqAt.tail (FqAt.tail (FqAt.tail (FqAt.tail (FqAt.tail (FqAt.tail (FqAt.tail (FqAt.tail (FqAt.tail (FqAt.tail (FqAt.tail (FqAt.tail (FqAt.tail (by with_reducible assumption)))))))))))))) | exact (FqAt.tail (FqAt.tail (FqAt.tail (FqAt.tail (FqAt.tail (FqAt.tail (FqAt.tail (FqAt.tail (FqAt.tail (FqAt.tail (FqAt.tail (FqAt.tail (FqAt.tail (FqAt.tail (by with_reducible assumption))))))))))))))) | exact (FqAt.tail (FqAt.tail (FqAt.tail (FqAt.tail (FqAt.tail (FqAt.tail (FqAt.tail (FqAt.tail (FqAt.tail (FqAt.tail (FqAt.tail (FqAt.tail (FqAt.tail (FqAt.tail (FqAt.tail (by with_reducible assumption)))))))))))))))) | exact FqAt.mk6 (by k_dflt k_mem) (by k_dflt k_mem) (by k_dflt k_mem) (by k_dflt k_mem) (by k_dflt k_mem) (by k_dflt k_mem))
  k_with "mine_right" => k_dflt (refine' lright ?S_36 ?hp_36 (by assumption) (by assumption) (by assumption) ?hv_36 ?hx_36 ?hy_36 ?h0_36 ?_; (case S_36 => walk_at "mine_sit"); (case hp_36 => exact Hold0.out (by with_reducible assumption)); (case hv_36 => k_mem); (case hx_36 => walk_at "mine_rg"); (case hy_36 => walk_at "mine_rg"); (case h0_36 => walk_at "mine_nz"))
  k_with "mine_rg" => first | assumption | exact fm_rg (by assumption) | exact em_rg (by assumption) | exact ⟨by decide, by assumption⟩ | exact ⟨Int.le_refl 0, by omega⟩
  k_with "mine_nz" => first | assumption | decide | exact nz1 (by assumption) | exact nz2 (by assumption) | exact nz3 (by assumption)
  k_with "mine_nz2" => exact sq_nz (Hold0.out (by with_reducible assumption)) (by walk_at "mine_rg") (by walk_at "mine_rg") (by walk_at "mine_nz")
  k_with "mine_times2" => k_dflt (refine' times ?S_40 ?ha_40 ?hc_40 (by assumption) (by assumption) ?hx_40 ?hy_40 ?hx2_40 ?hy2_40 ?_; (case S_40 => walk_at "mine_sit"); (case ha_40 => with_reducible assumption); (case hc_40 => with_reducible assumption); (case hx_40 => walk_at "mine_rg"); (case hy_40 => walk_at "mine_rg"); (case hx2_40 => walk_at "mine_rg"); (case hy2_40 => walk_at "mine_rg"))
  k_with "mine_right2" => k_dflt (refine' lright ?S_41 ?hp_41 (by assumption) (by assumption) (by assumption) ?hv_41 ?hx_41 ?hy_41 ?h0_41 ?_; (case S_41 => walk_at "mine_sit"); (case hp_41 => exact Hold0.out (by with_reducible assumption)); (case hv_41 => k_mem); (case hx_41 => walk_at "mine_rg"); (case hy_41 => walk_at "mine_rg"); (case h0_41 => walk_at "mine_nz2"))
  k_with "subscriptTail" => (k_here; (with_reducible show wpAny _ _ (subscriptTail (PySem.Expr.Call _ _ _ _) _ (Value.ref _) (Value.int _ _)) _ _ _); refine Hold0.out ?_)
  k_with "binaryOp Mod int int" => (k_here; (refine PyProof.Rows.mod_int (by first | decide | assumption) ?_))
  k_with "call ref" => (k_here; refine Hold0.out ?_)
  k_with "subscriptTail Call BinOp ref int" => (k_here; refine Hold0.out ?_)
  k_with "eval IfExp" => (k_here; (with_reducible show wpAny _ _ (eval (PySem.Expr.IfExp (PySem.Expr.Compare (PySem.Expr.Name _ _) [CmpOp.NotEq] _ _) _ _ _) _) _ _ _); (try dsimp only); k_dflt (refine' ifx_cut ?ixF_46 ?ixN_46 h2 ?_ ?_; (case ixF_46 => k_asm); (case ixN_46 => k_asm)); rotate_left; (intro T99' x99' y99' t199' t299' h99' tk99' F99' N99' l199' hx99' hy99' h099'; (simp only [AllLt, and_true] at l199'); (try k_sweep); (try dsimp only)); rotate_left)
  k_with "mine_ifk" => ((try dsimp only); k_dflt (refine' IfK.intro ?iiF_47 ?iiN_47 ?iiT_47 ?iio_47 ?iil_47 ?iix_47 ?iiy_47 ?ii0_47; (case iiF_47 => k_asm); (case iiN_47 => k_asm); (case iiT_47 => k_mem); (case iio_47 => (intro q hq; (repeat (first | exact hq | refine List.Mem.tail _ ?_)))); (case iil_47 => walk_at "mine_lt"); (case iix_47 => walk_at "mine_rg"); (case iiy_47 => walk_at "mine_rg"); (case ii0_47 => walk_at "mine_nz")))
  k_with "execs cons" => ((try dsimp only); first | (refine let_one ?_; intro s7 Qk) | (refine let_cons ?_; intro s7 Qk Qk))
  k_with "mine_step" => ((with_reducible show IfK _ _ _ _ _ _ _ _); walk_at "mine_ifk")
  k_with "mine_ne" => (refine neN ?_; (try dsimp only); first | (with_reducible assumption) | ((refine Ne51.ne ?_); with_reducible assumption) | ((refine Ne51.ne' ?_); with_reducible assumption) | (refine' off1_ne ?o1 ?m1; (case o1 => with_reducible assumption); (case m1 => ((repeat (first | exact List.Mem.head _ | refine List.Mem.tail _ ?_)); done))) | (refine' Ne.symm (off1_ne ?o1 ?m1); (case o1 => with_reducible assumption); (case m1 => ((repeat (first | exact List.Mem.head _ | refine List.Mem.tail _ ?_)); done))) | omega)
  w_on
  refine holds_law ws_ok fun said => ?_
  refine holds_open (q := Mine.hd.view_39) (loose := [Str.ofString "FQP", Str.ofString "FQ2"]) (XP := XL Mine.hd.view_39 []) (YP := Hook.says (kHook K2 as2 as2_ok)) left2 (Hook.of (kHook K2 as2 as2_ok)) (Hook.keeps (kHook K2 as2 as2_ok)) (fun s e => xl_of s (Bool.and_eq_true_iff.mp e).1) XL.keeps (by rfl) (by rfl) (by rfl) (fun s e => recFacts_of (Bool.and_eq_true_iff.mp e).2) (by rfl) (by first | assumption | decide +kernel) (by decide +kernel) ⟨rfl, rfl, rfl, rfl, rfl, by decide +kernel⟩ ?hw ?hc
  case hw => w_witness2
  case hc =>
    rename (_ = true) => said
    clear said
    walk_at "mine_reg"
    walk_at "mine_behind"
    all_goals (try k_fold)
    (repeat' (k_extra "mine_step"))
    unfold Hold0
    with_reducible rename Hold0 (Heap.get? _ _ = _) => h51
    replace h51 := Hold0.out h51
    rename Top _ _ _ _ _ _ => lT
    rename Fr _ _ _ _ => lF
    rename News _ _ _ _ => lN
    (try (with_reducible rename (Below callerA ..) => z; clear z))
    rename Frag.In _ _ => lX
    rename IntsAre _ (List.map _ (rangeKs _ _)) => hI8
    obtain ⟨a0, a1, a2, a3, a4, t0, t1, t2, t3, t4, eys, p0, p1, p2, p3, p4⟩ := five_abs hI8
    subst eys
    obtain ⟨H, pr0, loose0, hH, T0, F0, N0, X0, B0, ne0⟩ := to_hole lT (by decide +kernel) h51 rfl lX lF lN
    rename _ = #[] => hg
    have G0 := AllBare.of_eq hg
    dsimp only [List.nil_append, List.append]
    k_dflt (refine' lprimes ?S1 ?_; (case S1 => (refine' Sit.mk B0 F0 X0 N0 T0 rfl G0 ⟨#[], rfl, ?tri⟩ ne0 ?hdp ?hun; (case tri => exact trivial); (case hdp => decide); (case hun => decide))))
    intro D1 its k1 h1 tk1 F1 N1 hits l1
    k_lt l1
    have n51a := ne0 _ (.head _)
    have n51b := ne0 _ (.tail _ (.head _))
    dsimp only at n51a n51b
    have TB0 : TabOk { cls := .none, data := .fields #[] } := ⟨#[], rfl, trivial⟩
    clear lF lN lX F0 N0
    (try (with_reducible rename IntsAre _ _ => z; clear z))
    (try (with_reducible rename IntsAre _ _ => z; clear z))
    replace h51 := Hold0.mk h51
    replace hH := Hold0.mk hH
    (try (with_reducible rename (Glob ..) => z; clear z))
    (try (with_reducible rename (Tables ..) => z; clear z))
    (try (with_reducible rename (TopE ..) => z; clear z))
    (try (with_reducible rename (TopW ..) => z; clear z))
    (try (with_reducible rename (BMod ..) => z; clear z))
    (try (with_reducible rename (Flt.MathXP ..) => z; clear z))
    (try (with_reducible rename (LooseAre ..) => z; clear z))
    (try (with_reducible rename (ReadsAll ..) => z; clear z))
    (try (with_reducible rename (Well ..) => z; clear z))
    (try (with_reducible rename (Reads ..) => z; clear z))
    (try (with_reducible rename (ReadsAllW ..) => z; clear z))
    (try (with_reducible rename (CellsAre ..) => z; clear z))
    (try (with_reducible rename (Dflts ..) => z; clear z))
    (try (with_reducible rename (Heap.CodeRec ..) => z; clear z))
    (try (with_reducible rename (IsRange ..) => z; clear z))
    (try (with_reducible rename (PySem.W.Ground ..) => z; clear z))
    (try (with_reducible rename (Heap.IsList ..) => z; clear z))
    (try dsimp only)
    (repeat' (k_extra "mine_step"))
    unfold Hold0
    (try dsimp only)
    have hk0 : 0 ≤ a0.fmod 13 ∧ a0.fmod 13 < 13 := by
      rw [Int.fmod_eq_emod_of_nonneg _ (by decide)]
      omega
    obtain ⟨i, hi, ei⟩ : ∃ i : Nat, i < 13 ∧ a0.fmod 13 = (i : Int) := ⟨(a0.fmod 13).toNat, by omega, by omega⟩
    obtain ⟨tp, hx⟩ := hits i hi
    refine item_tmp (x := .int ((primes.getD i 0 : Nat) : Int) tp) ⟨_, (N1 _ (.head _)).1, rfl, k1, rfl⟩ ?b1 ?b2 ?b3 ?_ ?b4
    case b1 => omega
    case b2 => omega
    case b3 => rw [ei]; exact hx
    case b4 => with_unfolding_all rfl
    have hp : primes.getD i 0 ∈ primes := pr_mem i hi
    generalize primes.getD i 0 = P at hp ⊢
    have h11 : 11 ≤ P := (p_big hp).1
    have h228 : P < 228 := (p_big hp).2
    have h2 : 1 < (P : Int) := by omega
    have h3 : (P : Int) < 1000 := by omega
    have hne : (P : Int) ≠ 0 := by omega
    clear hits hk0 hx ei hi
    replace hp := Hold0.mk hp
    (try dsimp only)
    (repeat' (k_extra "mine_step"))
    all_goals
      unfold Hold0
      (try dsimp only)
      walk_at "mine_right"
      intro tb1 rows1 h3' g3 tk3 G3 TB3 F3 N3 sub3 n513
      repeat (have hq9 := List.forall_mem_cons.mp sub3; obtain ⟨s9, sub3⟩ := hq9)
      (try dsimp only)
      w_strict (repeat' (k_extra "mine_step"))
    all_goals
      unfold Hold0
      (try dsimp only)
      walk_at "mine_times2"
      intro D9 h4' q1 q2 tk4 F4 N4 l4
      have l9 := ltN (l4 _ (.head _))
      dsimp only at l9
      (try dsimp only)
      w_strict (repeat' (k_extra "mine_step"))
    all_goals
      unfold Hold0
      (try dsimp only)
      walk_at "mine_right2"
      intro tb5 rows5 h5' g5 tk5 G5 TB5 F5 N5 sub5 n515
      (try dsimp only)
      w_strict (repeat' (k_extra "mine_step"))
    all_goals
      exact lawEnd X0 h51 hH F5 N5 TB5 (by assumption) (raisesW_false (by wrow_none_raised)) (postW_of (by wrow_shape) (by wtm_val) (by str_meet; first | done | w_fin)) unshared_nil
end C20_part
end Mine
end B_lines
theorem PySem.Challenge.cw_kh0013_01_holds : PySem.Challenge.rw_kh0013_01.Holds :=
  Mine.lawGo
