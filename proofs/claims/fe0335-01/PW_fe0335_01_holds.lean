import PyProof.Rows.All
import Wide.All
import OpenK.AllK
import Wide.FinOn
import Lean
import PySem.Challenge.RW_fe0335_01
set_option Elab.async false
set_option rowWalk.seconds 0
section
open PySem PySem.W PyProof.Rows
set_option Elab.async false
set_option maxRecDepth 100000
set_option maxHeartbeats 8000000
namespace Mine
open_top hd for PySem.Challenge.rw_fe0335_01
end Mine
end
section
open PySem PySem.W PyProof.Rows PySem.Calls
set_option maxRecDepth 100000
set_option Elab.async false
namespace Mine
section
open PySem.Builtin PySem.Builtin.Struct

/-- the n octets of a number, the highest first -/
def oct : Nat → Int → List Int
  | 0, _ => []
  | n + 1, a => oct n (a / 256) ++ [a % 256]

theorem oct_nat (m : Nat) : ∀ n : Nat, oct m (n : Int) = (List.range m).reverse.map fun k => ((n / 256 ^ k % 256 : Nat) : Int) := by
  induction m with
  | zero => intro n; rfl
  | succ m ih =>
    intro n
    have e : ((n : Int) / 256) = ((n / 256 : Nat) : Int) := by omega
    have e2 : ((n : Int) % 256) = ((n / 256 ^ 0 % 256 : Nat) : Int) := by rw [Nat.pow_zero, Nat.div_one]; omega
    rw [oct, e, ih, List.range_succ_eq_map, List.reverse_cons, List.map_append, List.map_cons, List.map_nil, e2, List.map_reverse, List.map_reverse, List.map_map]
    congr 3
    funext k
    show ((n / 256 / 256 ^ k % 256 : Nat) : Int) = ((n / 256 ^ (k + 1) % 256 : Nat) : Int)
    rw [Nat.div_div_eq_div_mul, Nat.pow_succ, Nat.mul_comm]
abbrev fmtQ : Struct.Format := { bigEndian := true, native := false, codes := [⟨'q', 1, 0, 8⟩], size := 8, items := 1 }
abbrev fmtB : Struct.Format := { bigEndian := false, native := true, codes := [⟨'B', 1, 0, 1⟩], size := 1, items := 1 }
theorem mod_q (t : Tok) : Struct.moduleFormat (.str (Str.ofString ">q") t) = pure fmtQ := by kernel_rfl
theorem mod_B (t : Tok) : Struct.moduleFormat (.str (Str.ofString "B") t) = pure fmtB := by kernel_rfl

section
variable {M : Model} {A : Around} {E : Value → Shared → Prop} {s : Shared}
theorem pack_each_q {Q : Array UInt8 → Shared → Prop} (a : Int) (u : Tok) (put : Array UInt8 → Nat → Array UInt8 → Sem (Array UInt8)) (init : Array UInt8)
    (h0 : 0 ≤ a) (h1 : a < 9223372036854775808) (h : wpAny M A (put init 0 (intBytes true 8 a)) Q E s) :
   wpAny M A (Struct.packEach "_struct.pack" fmtQ [.int a u] init put) Q E s := by
  unfold Struct.packEach
  simp only [List.forIn_cons, List.forIn_nil]
  have e1 : (('q' : Char) == 'x') = false := by decide
  have e2 : ((('q' : Char) == 's') || (('q' : Char) == 'p')) = false := by decide
  simp only [e1, e2, Bool.false_eq_true, if_false]
  refine wpAny_bind ?_
  refine wpAny_bind ?_
  refine wpAny_bind ?_
  simp only [Std.Legacy.Range.forIn_eq_forIn_range', Std.Legacy.Range.size, Nat.sub_zero, Nat.add_sub_cancel, Nat.div_one, List.range'_one, List.forIn_cons, List.forIn_nil]
  refine wpAny_bind ?_
  refine wpAny_bind ?_
  refine wpAny_bind ?_
  refine wpAny_attempt ?_
  refine wpAny_bind ?_
  refine wpAny_of_eq (a := some a) rfl ?_
  dsimp only
  refine wpAny_pure ?_
  refine wpAny_bind ?_
  refine wpAny_pure ?_
  have e3 : ('q' : Char).isLower = true := by decide
  simp only [e3, if_true]
  have e4 : (decide (a < -2 ^ (8 * 8 - 1)) || decide (a > 2 ^ (8 * 8 - 1) - 1)) = false := by
    have : (2 : Int) ^ (8 * 8 - 1) = 9223372036854775808 := by decide
    rw [this]
    simp only [Bool.or_eq_false_iff, decide_eq_false_iff_not]
    omega
  simp only [e4, Bool.false_eq_true, if_false]
  refine wpAny_pure ?_
  refine wpAny_bind (wpAny_mono h (fun r s' hq => ?_) fun _ _ e => e)
  repeat' (first | exact hq | refine wpAny_pure ?_ | dsimp only)

theorem pack_each_B {Q : Array UInt8 → Shared → Prop} (a : Int) (u : Tok) (put : Array UInt8 → Nat → Array UInt8 → Sem (Array UInt8)) (init : Array UInt8)
    (h0 : 0 ≤ a) (h1 : a < 256) (h : wpAny M A (put init 0 (intBytes false 1 a)) Q E s) :
   wpAny M A (Struct.packEach "_struct.pack" fmtB [.int a u] init put) Q E s := by
  unfold Struct.packEach
  simp only [List.forIn_cons, List.forIn_nil]
  have e1 : (('B' : Char) == 'x') = false := by decide
  have e2 : ((('B' : Char) == 's') || (('B' : Char) == 'p')) = false := by decide
  simp only [e1, e2, Bool.false_eq_true, if_false]
  refine wpAny_bind ?_
  refine wpAny_bind ?_
  refine wpAny_bind ?_
  simp only [Std.Legacy.Range.forIn_eq_forIn_range', Std.Legacy.Range.size, Nat.sub_zero, Nat.add_sub_cancel, Nat.div_one, List.range'_one, List.forIn_cons, List.forIn_nil]
  refine wpAny_bind ?_
  refine wpAny_bind ?_
  refine wpAny_bind ?_
  refine wpAny_attempt ?_
  refine wpAny_bind ?_
  refine wpAny_of_eq (a := some a) rfl ?_
  dsimp only
  refine wpAny_pure ?_
  refine wpAny_bind ?_
  refine wpAny_pure ?_
  have e3 : ('B' : Char).isLower = false := by decide
  simp only [e3, Bool.false_eq_true, if_false]
  have e4 : (decide (a < 0) || decide (a > 2 ^ (8 * 1) - 1)) = false := by
    have : (2 : Int) ^ (8 * 1) = 256 := by decide
    rw [this]
    simp only [Bool.or_eq_false_iff, decide_eq_false_iff_not]
    omega
  simp only [e4, Bool.false_eq_true, if_false]
  refine wpAny_pure ?_
  refine wpAny_bind (wpAny_mono h (fun r s' hq => ?_) fun _ _ e => e)
  repeat' (first | exact hq | refine wpAny_pure ?_ | dsimp only)
end

theorem pk_kind : builtinKind "_struct.pack" = none := by decide +kernel
theorem pk_plain : plainId "_struct.pack" = true := by decide +kernel
theorem pk_entry : entryFor table "_struct.pack" = some Builtin.«_struct.pack» := by first | exact entryFor_of_fast (by kernel_rfl) | exact entryFor_of_tree (by kernel_rfl)
theorem pk_args (a b : Value) : argsOk "_struct.pack" ⟨[a, b], []⟩ := by unfold argsOk; kernel_rfl

/-- octet k of the eight -/
def o8 (n k : Nat) : UInt8 := (n / 256 ^ k % 256).toUInt8
theorem o8_int (n k : Nat) : (((o8 n k).toNat : Nat) : Int) = ((n / 256 ^ k % 256 : Nat) : Int) := by
  unfold o8
  have : (n / 256 ^ k % 256) < 256 := Nat.mod_lt _ (by decide)
  have e : (n / 256 ^ k % 256).toUInt8.toNat = n / 256 ^ k % 256 := by
    show (UInt8.ofNat (n / 256 ^ k % 256)).toNat = _
    rw [UInt8.toNat_ofNat']; omega
  rw [e]

variable {prog : Program} {w : World} {A : Around} {E : Value → Shared → Prop} {s : Shared} {Q : Value → Shared → Prop}
theorem pack_q (a : Int) (t u : Tok) (h0 : 0 ≤ a) (h1 : a < 9223372036854775808)
    (h : ∀ b t' tk, KBw.bInts b = oct 8 a → Q (.bytes b t') { s with toks := tk }) :
    wpAny (model prog w) A (call (.builtin "_struct.pack") [.str (Str.ofString ">q") t, .int a u]) Q E s := by
  refine Calls.call_function_entry pk_kind pk_plain pk_entry (pk_args _ _) ?_
  unfold Builtin.«_struct.pack»
  refine wpAny_bind (wpAny_of_eq (a := ()) rfl ?_)
  dsimp only
  refine wpAny_bind (wpAny_of_eq (mod_q t) ?_)
  unfold Struct.packed
  simp only [List.length_cons, List.length_nil]
  have e0 : ((0 + 1 != fmtQ.items) : Bool) = false := by decide
  simp only [e0, Bool.false_eq_true, if_false]
  refine wpAny_ite ?_
  rw [if_neg (by decide +kernel)]
  refine wpAny_bind (pack_each_q a u _ _ h0 h1 (wpAny_pure ?_))
  have key : ∀ n : Nat, (Builtin.Memoryview.toLittleEndian 8 n).reverse = #[o8 n 7, o8 n 6, o8 n 5, o8 n 4, o8 n 3, o8 n 2, o8 n 1, o8 n 0] := by
    intro n
    kernel_rfl
  have e2 : intBytes true 8 a = #[o8 a.toNat 7, o8 a.toNat 6, o8 a.toNat 5, o8 a.toNat 4, o8 a.toNat 3, o8 a.toNat 2, o8 a.toNat 1, o8 a.toNat 0] := by
    unfold intBytes
    have e3 : (a % 2 ^ (8 * 8)).toNat = a.toNat := by
      have : (2 : Int) ^ (8 * 8) = 18446744073709551616 := by decide
      rw [this, Int.emod_eq_of_lt h0 (by omega)]
    rw [e3, if_pos rfl]
    exact key _
  rw [e2]
  refine wpAny_bind ?_
  refine wpAny_mkBytes ?_ ?_
  refine wpAny_pure ?_
  refine ⟨_, rfl, h _ _ _ ?_⟩
  · refine Eq.trans (b := [(((o8 a.toNat 7).toNat : Nat) : Int), (((o8 a.toNat 6).toNat : Nat) : Int), (((o8 a.toNat 5).toNat : Nat) : Int), (((o8 a.toNat 4).toNat : Nat) : Int), (((o8 a.toNat 3).toNat : Nat) : Int), (((o8 a.toNat 2).toNat : Nat) : Int), (((o8 a.toNat 1).toNat : Nat) : Int), (((o8 a.toNat 0).toNat : Nat) : Int)]) (by kernel_rfl) ?_
    refine Eq.trans ?_ ((congrArg (oct 8) (Int.toNat_of_nonneg h0).symm).trans (oct_nat 8 a.toNat)).symm
    generalize a.toNat = n
    simp only [o8_int]
    kernel_rfl
  · exact Nat.le_trans (Nat.le_of_eq (by kernel_rfl : _ = 8)) (by decide)
theorem pack_B (a : Int) (t u : Tok) (h0 : 0 ≤ a) (h1 : a < 256)
    (h : ∀ b t' tk, KBw.bInts b = [a] → Q (.bytes b t') { s with toks := tk }) :
    wpAny (model prog w) A (call (.builtin "_struct.pack") [.str (Str.ofString "B") t, .int a u]) Q E s := by
  refine Calls.call_function_entry pk_kind pk_plain pk_entry (pk_args _ _) ?_
  unfold Builtin.«_struct.pack»
  refine wpAny_bind (wpAny_of_eq (a := ()) rfl ?_)
  dsimp only
  refine wpAny_bind (wpAny_of_eq (mod_B t) ?_)
  unfold Struct.packed
  simp only [List.length_cons, List.length_nil]
  have e0 : ((0 + 1 != fmtB.items) : Bool) = false := by decide
  simp only [e0, Bool.false_eq_true, if_false]
  refine wpAny_ite ?_
  rw [if_neg (by decide +kernel)]
  refine wpAny_bind (pack_each_B a u _ _ h0 h1 (wpAny_pure ?_))
  have key : ∀ n : Nat, (Builtin.Memoryview.toLittleEndian 1 n) = #[o8 n 0] := by
    intro n
    kernel_rfl
  have e2 : intBytes false 1 a = #[o8 a.toNat 0] := by
    unfold intBytes
    have e3 : (a % 2 ^ (8 * 1)).toNat = a.toNat := by
      have : (2 : Int) ^ (8 * 1) = 256 := by decide
      rw [this, Int.emod_eq_of_lt h0 (by omega)]
    rw [e3, if_neg Bool.false_ne_true]
    exact key _
  rw [e2]
  refine wpAny_bind ?_
  refine wpAny_mkBytes ?_ ?_
  refine wpAny_pure ?_
  refine ⟨_, rfl, h _ _ _ ?_⟩
  · refine Eq.trans (b := [(((o8 a.toNat 0).toNat : Nat) : Int)]) (by kernel_rfl) ?_
    rw [o8_int, Nat.pow_zero, Nat.div_one]
    congr 1
    omega
  · exact Nat.le_trans (Nat.le_of_eq (by kernel_rfl : _ = 1)) (by decide)
end
end Mine
end
section
open PySem PySem.W PyProof.Rows PySem.Calls
set_option maxRecDepth 100000
namespace Mine
/-- a call of the def at f hands back what Out says, on a ledger that has grown by tl -/
def Does (w : World) (f : Addr) (k : Nat) (news : List (Addr × Obj)) (vs : List Value) (Out : Value → List (Addr × Obj) → Prop) : Prop :=
  ∀ (p : Program) (loose : List Str) (mean : ExcName → Option Value) (mg mb : Str → Option Value)
    (dp un : Nat) (cn : Str) (cs : Scope) (a : Addr) (ccd : Value) (cl : List (Str × Addr)) (outer : List Env) (A₀ : Around) (base h₀ : Heap) (L : Addr) (m : Str → Option Value) (s : Shared) (Q E : Value → Shared → Prop),
    Below A₀ base outer h₀ → Fr h₀ L s.heap m → (Mine.hd.heap_39 w.params).In h₀ → News h₀ L s.heap news → Top p loose mean mg mb h₀ → cs.kind = .function →
    dp + k < recursionLimit → un + 10 * k < cLine →
    (∀ r tl h' tk', Fr h₀ L h' m → News h₀ L h' (tl ++ news) → (∀ q ∈ news, ∀ p ∈ tl, q.1 < p.1) → Out r tl → Q r { s with heap := h', toks := tk' }) →
    wpAny (model PySem.Challenge.rw_fe0335_01.row.prog w) (ktrTop dp un (some []) cn cs L a ccd cl outer) (call (.ref f) vs) Q E s
theorem Does.use {w : World} {f : Addr} {k : Nat} {news : List (Addr × Obj)} {vs : List Value} {Out : Value → List (Addr × Obj) → Prop} (D : Does w f k news vs Out)
    {p : Program} {loose : List Str} {mean : ExcName → Option Value} {mg mb : Str → Option Value}
    {dp un : Nat} {cn : Str} {cs : Scope} {a : Addr} {ccd : Value} {cl : List (Str × Addr)} {outer : List Env} {A₀ : Around} {base h₀ : Heap} {L : Addr} {m : Str → Option Value} {s : Shared} {Q E : Value → Shared → Prop}
    (B : Below A₀ base outer h₀) (F : Fr h₀ L s.heap m) (X : (Mine.hd.heap_39 w.params).In h₀) (N : News h₀ L s.heap news) (T : Top p loose mean mg mb h₀) (hk : cs.kind = .function)
    (hd : dp + k < recursionLimit) (hu : un + 10 * k < cLine)
    (ret : ∀ r tl h' tk', Fr h₀ L h' m → News h₀ L h' (tl ++ news) → (∀ q ∈ news, ∀ p ∈ tl, q.1 < p.1) → Out r tl → Q r { s with heap := h', toks := tk' }) :
    wpAny (model PySem.Challenge.rw_fe0335_01.row.prog w) (ktrTop dp un (some []) cn cs L a ccd cl outer) (call (.ref f) vs) Q E s :=
  D p loose mean mg mb dp un cn cs a ccd cl outer A₀ base h₀ L m s Q E B F X N T hk hd hu ret
/-- the same, called from the law's own frame, the lowest of all: for a def that catches -/
def Does0 (w : World) (f : Addr) (k : Nat) (news : List (Addr × Obj)) (vs : List Value) (Out : Value → List (Addr × Obj) → Prop) : Prop :=
  ∀ (p : Program) (loose : List Str) (mean : ExcName → Option Value) (mg mb : Str → Option Value)
    (dp un : Nat) (cn : Str) (cs : Scope) (a : Addr) (ccd : Value) (A₀ : Around) (base h₀ : Heap) (L : Addr) (m : Str → Option Value) (s : Shared) (Q E : Value → Shared → Prop),
    Below A₀ base [] h₀ → (Mine.hd.heap_39 w.params).In base → Top p loose mean mg mb base → Fr h₀ L s.heap m → (Mine.hd.heap_39 w.params).In h₀ → News h₀ L s.heap news → Top p loose mean mg mb h₀ → cs.kind = .function →
    dp + k < recursionLimit → un + 10 * k < cLine →
    (∀ r tl h' tk', Fr h₀ L h' m → News h₀ L h' (tl ++ news) → (∀ q ∈ news, ∀ p ∈ tl, q.1 < p.1) → Out r tl → Q r { s with heap := h', toks := tk' }) →
    wpAny (model PySem.Challenge.rw_fe0335_01.row.prog w) (ktrTop dp un (some []) cn cs L a ccd [] []) (call (.ref f) vs) Q E s
theorem Does0.use {w : World} {f : Addr} {k : Nat} {news : List (Addr × Obj)} {vs : List Value} {Out : Value → List (Addr × Obj) → Prop} (D : Does0 w f k news vs Out)
    {p : Program} {loose : List Str} {mean : ExcName → Option Value} {mg mb : Str → Option Value}
    {dp un : Nat} {cn : Str} {cs : Scope} {a : Addr} {ccd : Value} {A₀ : Around} {base h₀ : Heap} {L : Addr} {m : Str → Option Value} {s : Shared} {Q E : Value → Shared → Prop}
    (B : Below A₀ base [] h₀) (XB : (Mine.hd.heap_39 w.params).In base) (TB : Top p loose mean mg mb base) (F : Fr h₀ L s.heap m) (X : (Mine.hd.heap_39 w.params).In h₀) (N : News h₀ L s.heap news) (T : Top p loose mean mg mb h₀) (hk : cs.kind = .function)
    (hd : dp + k < recursionLimit) (hu : un + 10 * k < cLine)
    (ret : ∀ r tl h' tk', Fr h₀ L h' m → News h₀ L h' (tl ++ news) → (∀ q ∈ news, ∀ p ∈ tl, q.1 < p.1) → Out r tl → Q r { s with heap := h', toks := tk' }) :
    wpAny (model PySem.Challenge.rw_fe0335_01.row.prog w) (ktrTop dp un (some []) cn cs L a ccd [] []) (call (.ref f) vs) Q E s :=
  D p loose mean mg mb dp un cn cs a ccd A₀ base h₀ L m s Q E B XB TB F X N T hk hd hu ret
theorem fillK : (PySem.Challenge.rw_fe0335_01, Mine.hd.heap_39) = (PySem.Challenge.rw_fe0335_01, Mine.hd.heap_39) := by
  k_fill
  rfl
end Mine
end
section
open PySem PySem.W PyProof.Rows PySem.Calls
set_option Elab.async false
set_option maxRecDepth 100000
set_option maxHeartbeats 8000000
namespace Mine
theorem fillK1 : (PySem.Challenge.rw_fe0335_01, Mine.hd.heap_39) = (PySem.Challenge.rw_fe0335_01, Mine.hd.heap_39) := by
  k_fill
  rfl
theorem eval_two63 {prog : Program} {w : World} {A : Around} {E : Value → Shared → Prop} {s : Shared} {env : Env} {k k' : Nat} {p p' p'' : Pos} {Q : Value → Shared → Prop}
    (h : ∀ t tk, Q (.int 9223372036854775808 t) { s with toks := tk }) :
    wpAny (model prog w) A (eval (.BinOp (.Constant (.int 2) k p) .Pow (.Constant (.int 63) k' p') p'') env) Q E s :=
  wpAny_BinOp (wpAny_Constant_int (wpAny_Constant_int (pow_int_small (by decide) (by decide) (by decide) (by
    have e : (2 : Int) ^ (63 : Int).toNat = 9223372036854775808 := by decide
    rw [e]; exact h _ _))))
local macro_rules | `(tactic| walk_at "eval BinOp Constant Pow Constant") => `(tactic| (refine eval_two63 ?_; intro _ _))
local macro_rules | `(tactic| walk_at "binaryOp Mod int int") => `(tactic| (with_reducible refine mod_int' (by decide) ?_))
local macro_rules | `(tactic| k_steps) => `(tactic| repeat' (first | (k_unfold; (try dsimp only)) | walk1 | (dsimp only; walk1) | (leave1; walk_say "STEP leave1"; (try dsimp only)) | fail "no step"))
theorem worth_does (w : World) (news : List (Addr × Obj)) (n : Int) (t : Tok) : Does w 243 1 news [.int n t] (fun r tl => tl = [] ∧ ∃ v t', r = .int v t' ∧ 0 ≤ v ∧ v < 9223372036854775808) := by
  unfold Does
  intro p loose mean mg mb dp un cn cs a ccd cl outer A₀ base h₀ L m s Q E B F X N T hk hd hu hret
  refine wpAny_call ?_
  k_dflt cell_enter
  k_steps
  refine hret _ [] _ _ (by k_asm) (by k_asm) (fun _ _ _ h9 => nomatch h9) ⟨rfl, _, _, rfl, ?_, ?_⟩
  · exact Int.fmod_nonneg_of_pos _ (by decide)
  · exact Int.fmod_lt_of_pos _ (by decide)
end Mine
end
section
open PySem PySem.W PyProof.Rows PySem.Calls
set_option Elab.async false
set_option maxRecDepth 100000
set_option maxHeartbeats 8000000
namespace Mine
theorem fillK2 : (PySem.Challenge.rw_fe0335_01, Mine.hd.heap_39) = (PySem.Challenge.rw_fe0335_01, Mine.hd.heap_39) := by
  k_fill
  rfl
local macro_rules | `(tactic| k_steps) => `(tactic| repeat' (first | (k_unfold; (try dsimp only)) | walk1 | (dsimp only; walk1) | (leave1; walk_say "STEP leave1"; (try dsimp only)) | fail "no step"))
theorem low_one {news : List (Addr × Obj)} {l : Addr} {o : Obj} (h : ∀ p ∈ news, p.1 < l) : ∀ q ∈ news, ∀ p ∈ [(l, o)], q.1 < p.1 := fun q hq p hp => by
  rw [List.mem_singleton.mp hp]
  exact h q hq
theorem formats_does (w : World) (news : List (Addr × Obj)) : Does w 229 1 news [] (fun r tl => ∃ l vs, r = .ref l ∧ tl = [(l, listOf (List.toArray vs) 0)] ∧ vs.length = 13 ∧ ∀ v ∈ vs, v = .none ∨ ∃ f t, v = .int f t) := by
  unfold Does
  intro p loose mean mg mb dp un cn cs a ccd cl outer A₀ base h₀ L m s Q E B F X N T hk hd hu hret
  refine wpAny_call ?_
  k_dflt cell_enter
  k_steps
  refine hret _ [_] _ _ (by k_asm) (by k_asm) ?_ ⟨_, _, rfl, rfl, rfl, ?_⟩
  · exact low_one (by assumption)
  · simp
theorem eight_does (w : World) (news : List (Addr × Obj)) : Does w 236 1 news [] (fun r tl => ∃ l vs, r = .ref l ∧ tl = [(l, listOf (List.toArray vs) 0)] ∧ IntsAre vs [8, 16, 24, 32, 40, 48, 56, 64]) := by
  unfold Does
  intro p loose mean mg mb dp un cn cs a ccd cl outer A₀ base h₀ L m s Q E B F X N T hk hd hu hret
  refine wpAny_call ?_
  k_dflt cell_enter
  k_steps
  refine hret _ [_] _ _ (by k_asm) (by k_asm) (low_one (by assumption)) ⟨_, _, rfl, rfl, ?_⟩
  repeat constructor
local macro_rules | `(tactic| walk_at "call ref") => `(tactic| (k_here; (with_reducible show wpAny _ _ (call (Value.ref 236) _) _ _ _); k_dflt (refine' Does.use (eight_does _ _) ?k1 ?k2 ?k3 ?k4 ?k5 ?kK ?kd ?ku ?_); (case k1 => k_asm); (case k2 => k_asm); (case k3 => k_asm); (case k4 => k_asm); (case k5 => k_asm); (case kK => first | exact rfl | assumption); (case kd => ktr_room); (case ku => ktr_units); intro r9 tl9 h9 tk9 F9 N9 hl9 ho9; obtain ⟨l9, vs9, e9, e9', hi9⟩ := ho9; subst e9; subst e9'; (try simp only [List.cons_append, List.nil_append] at N9); (try dsimp only); (try k_fold)))
/-- the width that a told format stands for -/
def toldW (f : Int) : Int := if ([8, 16, 24, 32, 40, 48, 56, 64] : List Int).any (fun x => x == f) = true then f.fdiv 8 else 0
theorem width_told (w : World) (news : List (Addr × Obj)) (f x : Int) (t u : Tok) : Does w 250 2 news [.int f t, .int x u] (fun r tl => tl = [] ∧ ∃ t', r = .int (toldW f) t') := by
  unfold Does
  intro p loose mean mg mb dp un cn cs a ccd cl outer A₀ base h₀ L m s Q E B F X N T hk hd hu hret
  refine wpAny_call ?_
  k_dflt cell_enter
  k_steps
  · rename (List.any _ _ = _) => hq
    have e : f.fdiv 8 = toldW f := by unfold toldW; rw [if_pos hq]
    rw [e]
    exact hret _ [] _ _ (by k_asm) (cb_drop (by k_asm) fun p hp => List.mem_cons_of_mem _ hp) (fun _ _ _ h9 => nomatch h9) ⟨rfl, _, rfl⟩
  · rename (List.any _ _ = _) => hq
    have e : (0 : Int) = toldW f := by unfold toldW; rw [if_neg (by rw [hq]; exact Bool.false_ne_true)]
    rw [e]
    exact hret _ [] _ _ (by k_asm) (cb_drop (by k_asm) fun p hp => List.mem_cons_of_mem _ hp) (fun _ _ _ h9 => nomatch h9) ⟨rfl, _, rfl⟩
/-- how many octets a number has -/
def blen (n : Nat) : Nat := if h : n = 0 then 0 else blen (n / 256) + 1
theorem blen_zero : blen 0 = 0 := by unfold blen; simp
theorem blen_pos {n : Nat} (h : 0 < n) : blen n = blen (n / 256) + 1 := by
  rw [blen, dif_neg (by omega)]
theorem width_none (w : World) (news : List (Addr × Obj)) (x : Int) (u : Tok) (hx : 0 ≤ x) : Does w 250 1 news [.none, .int x u] (fun r tl => tl = [] ∧ ∃ t', r = .int (blen x.toNat : Int) t') := by
  unfold Does
  intro p loose mean mg mb dp un cn cs a ccd cl outer A₀ base h₀ L m s Q E B F X N T hk hd hu hret
  refine wpAny_call ?_
  k_dflt cell_enter
  iterate 15 (first | (k_unfold; (try dsimp only)) | walk1 | (dsimp only; walk1))
  rename Fr _ _ _ (fun y => if y = "width" then _ else _) => F1
  rename News _ _ _ _ => N1
  with_unfolding_all refine' ksw_while (σ := Int × Tok × Int × Tok) (fun _ => news) (fun c => [(Str.ofString "number", Value.int c.1 c.2.1), (Str.ofString "width", Value.int c.2.2.1 c.2.2.2)]) (fun _ => True) [] (fun c => 0 ≤ c.1 ∧ c.2.2.1 + (blen c.1.toNat : Int) = (blen x.toNat : Int)) (fun c => c.1.toNat) (x, _, 0, _) F1 N1 trivial ?hk ?hp ?turn
  case hk =>
    intro p hp
    simp only [List.mem_cons, List.not_mem_nil, or_false] at hp
    rcases hp with rfl | rfl <;> rfl
  case hp => exact ⟨hx, by simp⟩
  intro c v h tk _ hP F2 N2
  obtain ⟨y, ty, k, tk2⟩ := c
  clear F1 N1
  dsimp only at hP
  k_steps
  · rename (0 < _) => hy
    dsimp only at hy
    refine' ksw_end (y.fdiv 256, _, k + 1, _) (by k_asm) (by k_asm) (fun p hp => hp) trivial ?hk ?hr ?hp ?hm
    case hk =>
      intro p hp
      simp only [List.mem_cons, List.not_mem_nil, or_false] at hp
      rcases hp with rfl | rfl <;> rfl
    case hr =>
      intro z h2 _
      have n1 : z ≠ (Str.ofString "number") := h2 _ (.head _)
      have n2 : z ≠ (Str.ofString "width") := h2 _ (.tail _ (.head _))
      dsimp only [kstB]
      rw [if_neg n2, if_neg n1, if_neg n1, if_neg n2]
      rfl
    case hp =>
      dsimp only
      have e1 : y.fdiv 256 = y / 256 := Int.fdiv_eq_ediv_of_nonneg y (by decide)
      have e2 : (y / 256).toNat = y.toNat / 256 := by omega
      have e3 := blen_pos (n := y.toNat) (by omega)
      rw [e1, e2]
      refine ⟨by omega, ?_⟩
      have := hP.2
      omega
    case hm =>
      dsimp only
      have e1 : y.fdiv 256 = y / 256 := Int.fdiv_eq_ediv_of_nonneg y (by decide)
      rw [e1]
      omega
  · rename (¬ 0 < _) => hy
    dsimp only at hy
    have e0 : y = 0 := by omega
    subst e0
    have e1 := hP.2
    rw [Int.toNat_zero, blen_zero] at e1
    have e2 : k = (blen x.toNat : Int) := by omega
    subst e2
    exact hret _ [] _ _ (by k_asm) (by k_asm) (fun _ _ _ h9 => nomatch h9) ⟨rfl, _, rfl⟩
end Mine
end
section
open PySem PySem.W PyProof.Rows PySem.Calls
set_option maxRecDepth 100000
namespace Mine
theorem log2_256 {n : Nat} (h : 256 ≤ n) : n.log2 = (n / 256).log2 + 8 := by
  have step : ∀ m : Nat, 2 ≤ m → m.log2 = (m / 2).log2 + 1 := fun m hm => by rw [Nat.log2_def, if_pos hm]
  rw [step n (by omega), step (n / 2) (by omega), step (n / 2 / 2) (by omega), step (n / 2 / 2 / 2) (by omega), step (n / 2 / 2 / 2 / 2) (by omega), step (n / 2 / 2 / 2 / 2 / 2) (by omega),
    step (n / 2 / 2 / 2 / 2 / 2 / 2) (by omega), step (n / 2 / 2 / 2 / 2 / 2 / 2 / 2) (by omega)]
  have e : n / 2 / 2 / 2 / 2 / 2 / 2 / 2 / 2 = n / 256 := by omega
  rw [e]
theorem log2_small {n : Nat} (h0 : n ≠ 0) (h : n < 256) : n.log2 < 8 := (Nat.log2_lt h0).mpr (by omega)
theorem blen_log : ∀ n : Nat, n ≠ 0 → blen n = n.log2 / 8 + 1 := by
  intro n
  induction n using Nat.strongRecOn with
  | _ n ih =>
    intro h0
    rw [blen_pos (by omega)]
    by_cases h : n < 256
    · have e : n / 256 = 0 := by omega
      have := log2_small h0 h
      rw [e, blen_zero]
      omega
    · rw [ih (n / 256) (by omega) (by omega), log2_256 (n := n) (by omega)]
      omega
theorem blen_le {n : Nat} (h : n < 9223372036854775808) : blen n ≤ 8 := by
  by_cases h0 : n = 0
  · rw [h0, blen_zero]; omega
  · have h1 : n.log2 < 63 := (Nat.log2_lt h0).mpr (by omega)
    rw [blen_log n h0]
    omega
theorem bits_fmt {x : Int} (hx : 0 ≤ x) : Int.fdiv ((Builtin.Int.intBits x : Int) + 7) 8 * 8 = 8 * (blen x.toNat : Int) := by
  rw [Int.fdiv_eq_ediv_of_nonneg _ (by decide)]
  unfold Builtin.Int.intBits
  by_cases h0 : x = 0
  · subst h0
    simp [blen_zero]
  · have e1 : (x == 0) = false := by simpa using h0
    have e2 : x.natAbs = x.toNat := by omega
    rw [e1, e2, if_neg Bool.false_ne_true, blen_log x.toNat (by omega)]
    omega
theorem fmt_le {x : Int} (hx : 0 ≤ x) (hx2 : x < 9223372036854775808) : Int.fdiv ((Builtin.Int.intBits x : Int) + 7) 8 * 8 ≤ 64 := by
  have := blen_le (n := x.toNat) (by omega)
  rw [bits_fmt hx]
  omega
end Mine
end
section
open PySem PySem.W PyProof.Rows PySem.Calls
set_option maxRecDepth 100000
set_option Elab.async false
namespace Mine
section
open PySem.Builtin PySem.Builtin.Str
theorem fills_list_mod : fillsNumberSlot (.type "list") "mod" = pure false := by
  have a : typeLookup (.type "list") (PySem.dunder "mod") = pure none := by rw [typeLookup_type, builtinLookup_eq_fast]; kernel_rfl
  have b : typeLookup (.type "list") (PySem.dunderR "mod") = pure none := by rw [typeLookup_type, builtinLookup_eq_fast]; kernel_rfl
  unfold fillsNumberSlot
  simp [a, b]
theorem fills_list_ref {M : Model} {A : Around} {E : Value → Shared → Prop} {s : Shared} {a : Addr} {Q : Bool → Shared → Prop} (hT : s.TypeIs (.ref a) "list") (h : ∀ b, Q b s) : wpAny M A (fillsMappingSlot (.ref a)) Q E s := by
  unfold fillsMappingSlot
  refine wpAny_bind (wpAny_specialOf hT F.slot_list_getitem.lookup ?_)
  exact wpAny_pure (h _)
abbrev eightD : List PyData := [.int 8, .int 16, .int 24, .int 32, .int 40, .int 48, .int 56, .int 64]
section
variable {prog : Program} {w : World} {A : Around} {E : Value → Shared → Prop} {s : Shared} {h₀ : Heap} {L b : Addr} {m : PySem.Str → Option Value} {news : List (Addr × Obj)} {n : Nat} {t : Tok} {Q : Value → Shared → Prop} {vs : List Value}
theorem mod_list_any {X : PySem.Str} (hT : s.TypeIs (.ref b) "list") (hc : wpAny (model prog w) A.in1 (percentFormat (.str X t) X (.ref b)) (fun fin s' => ∃ x t', fin = .done (.ret (.str x t')) ∧ Q (.str x t') s') E s) :
    wpAny (model prog w) A (binaryOp .Mod (.str X t) (.ref b)) Q E s := by
  refine KPt.bin_left (T := "str") (U := "list") (op := .Mod) (by decide) (typeIs_str s X t) hT F.fills_str_mod fills_list_mod F.slot_str_mod
    (wpAny_call_entry F.slot_str_mod (typeIs_str s X t) F.entry_str_mod ?_ (F.args_str_mod_2 _ _))
  rw [KPt.entry_is_r]
  refine wpAny_mono hc (fun fin s' h => ?_) fun _ _ e => e
  obtain ⟨x, t', rfl, hq⟩ := h
  exact ⟨_, rfl, (fun e => nomatch e), hq⟩
theorem mod_list1 (FF : Fr h₀ L s.heap m) (N : News h₀ L s.heap news) (hb : (b, listOf vs.toArray n) ∈ news) (hr : ReadsAll s.heap vs eightD []) (hg : A.guards = some []) (hu : A.units + 10 < cLine)
    (h : ∀ x t' h' tk, Fr h₀ L h' m → News h₀ L h' news → Q (.str x t') { s with heap := h', toks := tk }) :
    wpAny (model prog w) A (binaryOp .Mod (.str (Str.ofString "address_format must be an integer selected from : %s ") t) (.ref b)) Q E s := by
  have ho := (N _ hb).1
  have hT : s.TypeIs (.ref b) "list" := ⟨_, ho, rfl⟩
  have hR : Reads s.heap (.ref b) (.list eightD) [b] := reads_list_at ho rfl rfl (by simpa using hr)
  refine mod_list_any hT ?_
  rw [show Str.ofString "address_format must be an integer selected from : %s " = PySem.Str.mk #[97, 100, 100, 114, 101, 115, 115, 95, 102, 111, 114, 109, 97, 116, 32, 109, 117, 115, 116, 32, 98, 101, 32, 97, 110, 32, 105, 110, 116, 101, 103, 101, 114, 32, 115, 101, 108, 101, 99, 116, 101, 100, 32, 102, 114, 111, 109, 32, 58, 32, 37, 115, 32] from by decide +kernel]
  unfold percentFormat
  refine wpAny_bind (wpAny_isInstance (T := "list") hT F.sub_list_tuple ?_)
  refine wpAny_bind (KPt.asStr_ref (n := n) ho rfl ?_)
  refine wpAny_bind (fills_list_ref hT ?_)
  intro b9
  kpc_if
  refine wpAny_bind (wpAny_pure ?_)
  refine wpAny_bind ?_
  rw [KPc.range_list]
  refine KPc.start ?_
  intro w9 g9
  refine KPc.turn ?_
  kpc_check
  (repeat kpc_if)
  refine wpAny_pure ?_
  kpc_piece
  refine KPc.turn ?_
  kpc_check
  (repeat kpc_if)
  refine wpAny_bind ?_
  refine wpAny_holding ?_
  (repeat kpc_if)
  refine wpAny_bind ?_
  refine strOf_of_reads (d := .list eightD) hR (by decide +kernel) (fun e => nomatch e) hg (Nat.lt_of_le_of_lt (by show A.units + 1 + _ ≤ A.units + 10; have : (PyData.list eightD).depth = 1 := (by decide +kernel); omega) hu) (fun _ _ e => e) (fun h' u tk hk => ?_) (by decide +kernel)
  refine wpAny_bind (wpAny_of_eq (a := some _) rfl ?_)
  refine wpAny_pure ?_
  refine wpAny_pure ?_
  kpc_piece
  have hfin : ∀ x t' k, ∃ y t2, (Fin.done (Flow.ret (Value.str x t')) : Fin) = .done (.ret (.str y t2)) ∧ Q (.str y t2) { s with heap := h', toks := k } := fun x t' k => ⟨_, _, rfl, h _ _ _ _ (FF.keptAll hk) (N.grown hk)⟩
  refine KPc.turn ?_
  kpc_check
  (repeat kpc_if)
  refine wpAny_pure ?_
  kpc_piece
  refine KPc.turn ?_
  kpc_check
  (repeat kpc_if)
  refine wpAny_pure ?_
  kpc_if
  exact KPc.finish_ok (by kpc_g) (by decide +kernel) rfl (fun t' k => hfin _ t' k)
theorem mod_list2 (FF : Fr h₀ L s.heap m) (N : News h₀ L s.heap news) (hb : (b, listOf vs.toArray n) ∈ news) (hr : ReadsAll s.heap vs eightD []) (hg : A.guards = some []) (hu : A.units + 10 < cLine)
    (h : ∀ x t' h' tk, Fr h₀ L h' m → News h₀ L h' news → Q (.str x t') { s with heap := h', toks := tk }) :
    wpAny (model prog w) A (binaryOp .Mod (.str (Str.ofString "memorysize_format must be an integer selected from : %s") t) (.ref b)) Q E s := by
  have ho := (N _ hb).1
  have hT : s.TypeIs (.ref b) "list" := ⟨_, ho, rfl⟩
  have hR : Reads s.heap (.ref b) (.list eightD) [b] := reads_list_at ho rfl rfl (by simpa using hr)
  refine mod_list_any hT ?_
  rw [show Str.ofString "memorysize_format must be an integer selected from : %s" = PySem.Str.mk #[109, 101, 109, 111, 114, 121, 115, 105, 122, 101, 95, 102, 111, 114, 109, 97, 116, 32, 109, 117, 115, 116, 32, 98, 101, 32, 97, 110, 32, 105, 110, 116, 101, 103, 101, 114, 32, 115, 101, 108, 101, 99, 116, 101, 100, 32, 102, 114, 111, 109, 32, 58, 32, 37, 115] from by decide +kernel]
  unfold percentFormat
  refine wpAny_bind (wpAny_isInstance (T := "list") hT F.sub_list_tuple ?_)
  refine wpAny_bind (KPt.asStr_ref (n := n) ho rfl ?_)
  refine wpAny_bind (fills_list_ref hT ?_)
  intro b9
  kpc_if
  refine wpAny_bind (wpAny_pure ?_)
  refine wpAny_bind ?_
  rw [KPc.range_list]
  refine KPc.start ?_
  intro w9 g9
  refine KPc.turn ?_
  kpc_check
  (repeat kpc_if)
  refine wpAny_pure ?_
  kpc_piece
  refine KPc.turn ?_
  kpc_check
  (repeat kpc_if)
  refine wpAny_bind ?_
  refine wpAny_holding ?_
  (repeat kpc_if)
  refine wpAny_bind ?_
  refine strOf_of_reads (d := .list eightD) hR (by decide +kernel) (fun e => nomatch e) hg (Nat.lt_of_le_of_lt (by show A.units + 1 + _ ≤ A.units + 10; have : (PyData.list eightD).depth = 1 := (by decide +kernel); omega) hu) (fun _ _ e => e) (fun h' u tk hk => ?_) (by decide +kernel)
  refine wpAny_bind (wpAny_of_eq (a := some _) rfl ?_)
  refine wpAny_pure ?_
  refine wpAny_pure ?_
  kpc_piece
  have hfin : ∀ x t' k, ∃ y t2, (Fin.done (Flow.ret (Value.str x t')) : Fin) = .done (.ret (.str y t2)) ∧ Q (.str y t2) { s with heap := h', toks := k } := fun x t' k => ⟨_, _, rfl, h _ _ _ _ (FF.keptAll hk) (N.grown hk)⟩
  refine KPc.turn ?_
  kpc_check
  (repeat kpc_if)
  refine wpAny_pure ?_
  kpc_if
  exact KPc.finish_ok (by kpc_g) (by decide +kernel) rfl (fun t' k => hfin _ t' k)
end
end
end Mine
end
section
open PySem PySem.W PyProof.Rows PySem.Calls
set_option Elab.async false
set_option maxRecDepth 100000
set_option maxHeartbeats 8000000
namespace Mine
theorem fillK3 : (PySem.Challenge.rw_fe0335_01, Mine.hd.heap_39) = (PySem.Challenge.rw_fe0335_01, Mine.hd.heap_39) := by
  k_fill
  rfl
local macro_rules | `(tactic| k_steps) => `(tactic| repeat' (first | (k_unfold; (try dsimp only)) | walk1 | (dsimp only; walk1) | (leave1; walk_say "STEP leave1"; (try dsimp only)) | fail "no step"))
theorem units_make2 (A : Around) (args : Args) : (A.under (.builtin "type.__call__" args)).units = A.units + 1 := rfl
local macro_rules | `(tactic| k_room) => `(tactic| ((try simp only [depth_under_make, depth_under_kw, depth_in1, depth_deeper, depth_mark]); (try dsimp only [ktrTop]); omega))
local macro_rules | `(tactic| k_units) => `(tactic| ((try simp only [units_deeper, units_make2, units_in1, Around.mark_units]); (try dsimp only [ktrTop]); omega))
theorem item_mem {prog : Program} {w : World} {A : Around} {E : Value → Shared → Prop} {s : Shared} {h₀ : Heap} {L : Addr} {news : List (Addr × Obj)} {value slice : PySem.Expr} {l : Addr} {vs : List Value} {n : Nat} {k : Int} {u : Tok} {v : Value} {Q : Value → Shared → Prop}
    (N : News h₀ L s.heap news) (hm : (l, listOf vs.toArray n) ∈ news) (h0 : 0 ≤ k) (hhi : k < 2 ^ 63) (hx : vs[k.toNat]? = some v) (h : Q v s)
    (hs : subscripted slice false (.ref l) (.int k u) = operate [.ref l, .int k u] (getItem (.ref l) (.int k u)) := by with_unfolding_all rfl) :
    wpAny (model prog w) A (subscriptTail value slice (.ref l) (.int k u)) Q E s := by
  have hl : s.heap.IsList l vs.toArray := ⟨_, (N _ hm).1, rfl, n, rfl⟩
  exact tail_any hl.typeIs slot_list_getitem.lookup (wpAny_getItem_list hl h0 hhi (by simpa using hx) h) hs
local macro_rules | `(tactic| walk_at "subscriptTail") => `(tactic| (k_here; (with_reducible show wpAny _ _ (subscriptTail _ _ (Value.ref _) (Value.int _ _)) _ _ _); (with_unfolding_all refine' item_mem ?k1 ?k2 ?k3 ?k4 ?k5 ?_ ?k7; (case k1 => k_asm); (case k2 => k_mem); (case k3 => decide); (case k4 => decide); (case k5 => rfl); (case k7 => with_unfolding_all rfl); k_whole)))
local macro_rules | `(tactic| walk_at "InitBack") => `(tactic| (dsimp only [InitBack]))
theorem allLt_out {d : Addr} {l : List (Addr × Obj)} (h : AllLt d l) : ∀ p ∈ l, p.1 < d := by
  induction l with
  | nil => intro p hp; cases hp
  | cons q r ih =>
    intro p hp
    have h1 : (q.1 : Nat) < d := h.1
    have h2 : AllLt d r := h.2
    rcases List.mem_cons.mp hp with e | e
    · rw [e]; exact h1
    · exact ih h2 p e
/-- one of the eight formats -/
def inE (f : Int) : Bool := (decide (f = 8) || (decide (f = 16) || (decide (f = 24) || (decide (f = 32) || (decide (f = 40) || (decide (f = 48) || (decide (f = 56) || (decide (f = 64) || false))))))))
/-- the ledger bears a MemoryLocation at loc: its address, its size, the two formats that its identifier holds -/
def LocAt (P : Params) (news : List (Addr × Obj)) (loc : Addr) (x y f g : Int) : Prop :=
  ∃ (dx ya dy : Addr) (t1 t2 t3 t4 t5 t6 t7 tx ty tf tg : Tok) (v1 v2 : Value) (c1 c2 : Nat),
    (loc, instObj 157 dx) ∈ news ∧
    (dx, dictOf [⟨PyData.keyHash P (Str.ofString "address"), .str (Str.ofString "address") t1, .int x tx⟩, ⟨PyData.keyHash P (Str.ofString "memorysize"), .str (Str.ofString "memorysize") t2, .int y ty⟩,
      ⟨PyData.keyHash P (Str.ofString "address_format"), .str (Str.ofString "address_format") t3, v1⟩, ⟨PyData.keyHash P (Str.ofString "memorysize_format"), .str (Str.ofString "memorysize_format") t4, v2⟩,
      ⟨PyData.keyHash P (Str.ofString "alfid"), .str (Str.ofString "alfid") t5, .ref ya⟩] c1) ∈ news ∧
    (ya, instObj 82 dy) ∈ news ∧
    (dy, dictOf [⟨PyData.keyHash P (Str.ofString "memorysize_format"), .str (Str.ofString "memorysize_format") t6, .int g tg⟩, ⟨PyData.keyHash P (Str.ofString "address_format"), .str (Str.ofString "address_format") t7, .int f tf⟩] c2) ∈ news
def MadeOut (P : Params) (x y f g : Int) (r : Value) (tl : List (Addr × Obj)) : Prop :=
  (inE f = true ∧ inE g = true ∧ ∃ l loc, r = .ref l ∧ (l, listOf (List.toArray [.ref loc]) 0) ∈ tl ∧ LocAt P tl loc x y f g) ∨
  (¬ (inE f = true ∧ inE g = true) ∧ ∃ l, r = .ref l ∧ tl = [(l, listOf (List.toArray []) 0)])
abbrev mapD : List (Int × PyData) := [(8, .int 1), (16, .int 2), (24, .int 3), (32, .int 4), (40, .int 5), (48, .int 6), (56, .int 7), (64, .int 8)]
theorem ky57 {P : Params} {h : Heap} (X : (Mine.hd.heap_39 P).In h) : KTD.Keyed h 57 mapD := kt_keyed_in X (by kernel_rfl)
theorem ky58 {P : Params} {h : Heap} (X : (Mine.hd.heap_39 P).In h) : KTD.Keyed h 58 mapD := kt_keyed_in X (by kernel_rfl)
theorem guards_deeper (A : Around) (env : Env) : (A.deeper env).guards = A.guards := rfl
theorem guards_make (A : Around) (args : Args) : (A.under (.builtin "type.__call__" args)).guards = A.guards := by
  have e : (Code.builtin "type.__call__" args).guards = [] := by
    unfold Code.guards
    rw [if_neg (by show ¬ (guardIds.contains "type.__call__" = true); decide +kernel)]
  show pushGuards (Code.builtin "type.__call__" args).guards A.guards = A.guards
  rw [e]
  rfl
section
variable {prog : Program} {w : World} {A : Around} {E : Value → Shared → Prop} {s : Shared} {h₀ : Heap} {L a v : Addr} {m : Str → Option Value} {news : List (Addr × Obj)}
theorem keys_method {pl : Sem Bool} {Q : Value × List Value → Shared → Prop} (K : KTD.Keyed s.heap a mapD) (h : Q (.builtin "dict.keys", [.ref a]) s) : wpAny (model prog w) A (getMethod (.ref a) (Str.ofString "keys") pl) Q E s :=
  getMethod_tab PySem.F.slot_dict_keys PySem.F.type_dict_keys (K prog w) h
theorem keys_call {Q : Value → Shared → Prop} (K : KTD.Keyed s.heap a mapD) (F : Fr h₀ L s.heap m) (N : News h₀ L s.heap news)
    (h : ∀ (D : Addr) h', Fr h₀ L h' m → News h₀ L h' ((D, { cls := .type "dict_keys", data := .fields #[.ref a] }) :: news) → (∀ q ∈ news, q.1 < D) → Q (.ref D) { s with heap := h' }) :
    wpAny (model prog w) A (call (.builtin "dict.keys") [.ref a]) Q E s := by
  obtain ⟨lo, kvs, hD, _⟩ := K prog w
  exact call_meetsIn PySem.F.slot_dict_keys hD.typeIs PySem.F.entry_dict_keys (PySem.F.args_dict_keys_1 _) (kdl_meets_keys (intKind prog w) a lo) ⟨⟨kvs, hD⟩, h _ _ (F.push _) (News.push F N _) fun q hq => Heap.lt_size (N q hq).1⟩
theorem keys_list {Q : Value → Shared → Prop} (K : KTD.Keyed s.heap a mapD) (hh : A.handled = none) (F : Fr h₀ L s.heap m) (N : News h₀ L s.heap news) (hv : (v, { cls := .type "dict_keys", data := .fields #[.ref a] }) ∈ news)
    (h : ∀ (B : Addr) c h' tk vs, Fr h₀ L h' m → News h₀ L h' ((B, listOf (List.toArray vs) c) :: news) → ReadsAll h' vs eightD [] → Q (.ref B) { s with heap := h', toks := tk }) :
    wpAny (model prog w) A (call (.type "list") [.ref v]) Q E s := by
  refine kdl_list_viewD (knd := intKind prog w) (enc := PyData.int) (fun _ _ => kdl_flat_int) hh F N hv (K prog w) (by decide) fun B c h' tk => ?_
  dsimp only [KdlKeysD, List.map]
  intro v1 f1 v2 f2 v3 f3 v4 f4 v5 f5 v6 f6 v7 f7 v8 f8 F' N' _
  exact h B c h' tk _ F' N' (readsAll_cons_val (f1 _) (readsAll_cons_val (f2 _) (readsAll_cons_val (f3 _) (readsAll_cons_val (f4 _) (readsAll_cons_val (f5 _) (readsAll_cons_val (f6 _) (readsAll_cons_val (f7 _) (readsAll_cons_val (f8 _) .nil))))))))
end
local macro_rules | `(tactic| walk_at "getMethod ref") => `(tactic| (k_here; (with_reducible show wpAny _ _ (getMethod (Value.ref _) (Str.ofString "keys") _) _ _ _); k_dflt (first | refine keys_method (ky57 (by k_in)) ?_ | refine keys_method (ky58 (by k_in)) ?_)))
local macro_rules | `(tactic| walk_at "call builtin:dict.keys") => `(tactic| (k_here; k_dflt (first | refine keys_call (ky57 (by k_in)) (by k_asm) (by k_asm) ?_ | refine keys_call (ky58 (by k_in)) (by k_asm) (by k_asm) ?_); intro D' h' F' N' l1))
local macro_rules | `(tactic| walk_at "call type:list") => `(tactic| (k_here; (with_reducible show wpAny _ _ (call (Value.type "list") [Value.ref _]) _ _ _); k_dflt (first | refine keys_list (ky57 (by k_in)) (by rfl) (by k_asm) (by k_asm) (by k_mem) ?_ | refine keys_list (ky58 (by k_in)) (by rfl) (by k_asm) (by k_asm) (by k_mem) ?_); intro B' c' h' tk' vs' F' N' rA'))
local macro_rules | `(tactic| walk_at "binaryOp Mod str ref") => `(tactic| (k_here; (with_reducible show wpAny _ _ (binaryOp _ (Value.str (Str.ofString "address_format must be an integer selected from : %s ") _) _) _ _ _); k_dflt (refine mod_list1 (by k_asm) (by k_asm) (by k_mem) (by assumption) (by simp only [guards_deeper, guards_make]) (by k_units) ?_); intro x' t' h' tk' F' N'))
local macro_rules | `(tactic| walk_at "binaryOp Mod str ref") => `(tactic| (k_here; (with_reducible show wpAny _ _ (binaryOp _ (Value.str (Str.ofString "memorysize_format must be an integer selected from : %s") _) _) _ _ _); k_dflt (refine mod_list2 (by k_asm) (by k_asm) (by k_mem) (by assumption) (by simp only [guards_deeper, guards_make]) (by k_units) ?_); intro x' t' h' tk' F' N'))
theorem made_int_int (w : World) (news : List (Addr × Obj)) (x y : Int) (tx ty : Tok) (sh : Addr) (c : Nat) (f g : Int) (tf tg : Tok) (hs : (sh, listOf (List.toArray [Value.int f tf, Value.int g tg]) c) ∈ news)
    (hx : 0 ≤ x) (hx2 : x < 9223372036854775808) (hy : 0 ≤ y) (hy2 : y < 9223372036854775808) : Does0 w 264 6 news [.int x tx, .int y ty, .ref sh] (MadeOut w.params x y (f) (g)) := by
  unfold Does0
  intro p loose mean mg mb dp un cn cs a ccd A₀ base h₀ L m s Q E B XB TB F X N T hk hd hu hret
  refine wpAny_call ?_
  refine' code_defS0 ?k1 ?k2 ?k3 ?k4 ?k5 ?kA ?k6 ?k7 ?k8 ?k9 ?kB ?_ ?cK ?c2 ?c3 ?c4 ?c5
  case kA => exact rfl
  case k2 => k_asm
  case k1 => k_asm
  case k3 => k_asm
  case k4 => k_asm
  case k5 => k_asm
  case k6 => k_is
  case k7 => k_is
  case k8 => k_room
  case k9 => exact BindsTo.of_eq rfl
  case kB => exact locs rfl
  case cK => assumption
  case c2 => exact rfl
  case c3 => exact rfl
  case c4 => exact rfl
  case c5 => decide
  k_whole
  intro g' L' h' FG' F' N' B' X' T' D'
  (try dsimp only)
  (try k_lift B')
  (try k_fold)
  k_steps
  · refine hret _ [_, _, _, _, _] _ _ (by k_asm) (by k_asm) ?_ (Or.inl ⟨by assumption, by assumption, _, _, rfl, List.Mem.head _, _, _, _, _, _, _, _, _, _, _, _, _, _, _, _, _, _, _, .tail _ (.tail _ (.tail _ (.head _))), .tail _ (.tail _ (.tail _ (.tail _ (.head _)))), .tail _ (.head _), .tail _ (.tail _ (.head _))⟩)
    intro q hq p hp
    have h1 := ltN ((‹∀ p ∈ news, p.1 < _›) q hq)
    simp only [List.mem_cons, List.not_mem_nil, or_false] at hp
    rcases hp with rfl | rfl | rfl | rfl | rfl <;> (dsimp only; refine ltN ?_; omega)
  · refine hret _ [_] _ _ (by k_asm) (cb_drop (by k_asm) ?_) (low_one fun q hq => ?_) (Or.inr ⟨?_, _, rfl, rfl⟩)
    · intro p hp
      rcases List.mem_append.mp hp with hp | hp
      · rw [List.mem_singleton.mp hp]; exact .head _
      · exact .tail _ (.tail _ (.tail _ (.tail _ (.tail _ (.tail _ (.tail _ hp))))))
    · have h1 := ltN ((‹∀ p ∈ news, p.1 < _›) q hq)
      refine ltN ?_
      omega
    · intro h
      have h2 : inE (g) = false := by assumption
      rw [h2] at h
      exact Bool.false_ne_true h.2
  · refine hret _ [_] _ _ (by k_asm) (cb_drop (by k_asm) ?_) (low_one fun q hq => ?_) (Or.inr ⟨?_, _, rfl, rfl⟩)
    · intro p hp
      rcases List.mem_append.mp hp with hp | hp
      · rw [List.mem_singleton.mp hp]; exact .head _
      · exact .tail _ (.tail _ (.tail _ (.tail _ (.tail _ (.tail _ (.tail _ hp))))))
    · have h1 := ltN ((‹∀ p ∈ news, p.1 < _›) q hq)
      refine ltN ?_
      omega
    · intro h
      have h2 : inE (f) = false := by assumption
      rw [h2] at h
      exact Bool.false_ne_true h.1
end Mine
end
section
open PySem PySem.W PyProof.Rows PySem.Calls
set_option Elab.async false
set_option maxRecDepth 100000
set_option maxHeartbeats 8000000
namespace Mine
theorem fillK3n : (PySem.Challenge.rw_fe0335_01, Mine.hd.heap_39) = (PySem.Challenge.rw_fe0335_01, Mine.hd.heap_39) := by
  k_fill
  rfl
local macro_rules | `(tactic| k_steps) => `(tactic| repeat' (first | (k_unfold; (try dsimp only)) | walk1 | (dsimp only; walk1) | (leave1; walk_say "STEP leave1"; (try dsimp only)) | fail "no step"))
local macro_rules | `(tactic| k_room) => `(tactic| ((try simp only [depth_under_make, depth_under_kw, depth_in1, depth_deeper, depth_mark]); (try dsimp only [ktrTop]); omega))
local macro_rules | `(tactic| k_units) => `(tactic| ((try simp only [units_deeper, units_make2, units_in1, Around.mark_units]); (try dsimp only [ktrTop]); omega))
local macro_rules | `(tactic| walk_at "subscriptTail") => `(tactic| (k_here; (with_reducible show wpAny _ _ (subscriptTail _ _ (Value.ref _) (Value.int _ _)) _ _ _); (with_unfolding_all refine' item_mem ?k1 ?k2 ?k3 ?k4 ?k5 ?_ ?k7; (case k1 => k_asm); (case k2 => k_mem); (case k3 => decide); (case k4 => decide); (case k5 => rfl); (case k7 => with_unfolding_all rfl); k_whole)))
local macro_rules | `(tactic| walk_at "InitBack") => `(tactic| (dsimp only [InitBack]))
local macro_rules | `(tactic| walk_at "getMethod ref") => `(tactic| (k_here; (with_reducible show wpAny _ _ (getMethod (Value.ref _) (Str.ofString "keys") _) _ _ _); k_dflt (first | refine keys_method (ky57 (by k_in)) ?_ | refine keys_method (ky58 (by k_in)) ?_)))
local macro_rules | `(tactic| walk_at "call builtin:dict.keys") => `(tactic| (k_here; k_dflt (first | refine keys_call (ky57 (by k_in)) (by k_asm) (by k_asm) ?_ | refine keys_call (ky58 (by k_in)) (by k_asm) (by k_asm) ?_); intro D' h' F' N' l1))
local macro_rules | `(tactic| walk_at "call type:list") => `(tactic| (k_here; (with_reducible show wpAny _ _ (call (Value.type "list") [Value.ref _]) _ _ _); k_dflt (first | refine keys_list (ky57 (by k_in)) (by rfl) (by k_asm) (by k_asm) (by k_mem) ?_ | refine keys_list (ky58 (by k_in)) (by rfl) (by k_asm) (by k_asm) (by k_mem) ?_); intro B' c' h' tk' vs' F' N' rA'))
local macro_rules | `(tactic| walk_at "binaryOp Mod str ref") => `(tactic| (k_here; (with_reducible show wpAny _ _ (binaryOp _ (Value.str (Str.ofString "address_format must be an integer selected from : %s ") _) _) _ _ _); k_dflt (refine mod_list1 (by k_asm) (by k_asm) (by k_mem) (by assumption) (by simp only [guards_deeper, guards_make]) (by k_units) ?_); intro x' t' h' tk' F' N'))
local macro_rules | `(tactic| walk_at "binaryOp Mod str ref") => `(tactic| (k_here; (with_reducible show wpAny _ _ (binaryOp _ (Value.str (Str.ofString "memorysize_format must be an integer selected from : %s") _) _) _ _ _); k_dflt (refine mod_list2 (by k_asm) (by k_asm) (by k_mem) (by assumption) (by simp only [guards_deeper, guards_make]) (by k_units) ?_); intro x' t' h' tk' F' N'))
theorem made_none_int (w : World) (news : List (Addr × Obj)) (x y : Int) (tx ty : Tok) (sh : Addr) (c : Nat) (g : Int) (tg : Tok) (hs : (sh, listOf (List.toArray [Value.none, Value.int g tg]) c) ∈ news)
    (hx : 0 ≤ x) (hx2 : x < 9223372036854775808) (hy : 0 ≤ y) (hy2 : y < 9223372036854775808) : Does0 w 264 6 news [.int x tx, .int y ty, .ref sh] (MadeOut w.params x y (Int.fdiv ((Builtin.Int.intBits x : Int) + 7) 8 * 8) (g)) := by
  have hbx := fmt_le hx hx2
  have hby := fmt_le hy hy2
  unfold Does0
  intro p loose mean mg mb dp un cn cs a ccd A₀ base h₀ L m s Q E B XB TB F X N T hk hd hu hret
  refine wpAny_call ?_
  refine' code_defS0 ?k1 ?k2 ?k3 ?k4 ?k5 ?kA ?k6 ?k7 ?k8 ?k9 ?kB ?_ ?cK ?c2 ?c3 ?c4 ?c5
  case kA => exact rfl
  case k2 => k_asm
  case k1 => k_asm
  case k3 => k_asm
  case k4 => k_asm
  case k5 => k_asm
  case k6 => k_is
  case k7 => k_is
  case k8 => k_room
  case k9 => exact BindsTo.of_eq rfl
  case kB => exact locs rfl
  case cK => assumption
  case c2 => exact rfl
  case c3 => exact rfl
  case c4 => exact rfl
  case c5 => decide
  k_whole
  intro g' L' h' FG' F' N' B' X' T' D'
  (try dsimp only)
  (try k_lift B')
  (try k_fold)
  k_steps
  · refine hret _ [_, _, _, _, _] _ _ (by k_asm) (by k_asm) ?_ (Or.inl ⟨by assumption, by assumption, _, _, rfl, List.Mem.head _, _, _, _, _, _, _, _, _, _, _, _, _, _, _, _, _, _, _, .tail _ (.tail _ (.tail _ (.head _))), .tail _ (.tail _ (.tail _ (.tail _ (.head _)))), .tail _ (.head _), .tail _ (.tail _ (.head _))⟩)
    intro q hq p hp
    have h1 := ltN ((‹∀ p ∈ news, p.1 < _›) q hq)
    simp only [List.mem_cons, List.not_mem_nil, or_false] at hp
    rcases hp with rfl | rfl | rfl | rfl | rfl <;> (dsimp only; refine ltN ?_; omega)
  · refine hret _ [_] _ _ (by k_asm) (cb_drop (by k_asm) ?_) (low_one fun q hq => ?_) (Or.inr ⟨?_, _, rfl, rfl⟩)
    · intro p hp
      rcases List.mem_append.mp hp with hp | hp
      · rw [List.mem_singleton.mp hp]; exact .head _
      · exact .tail _ (.tail _ (.tail _ (.tail _ (.tail _ (.tail _ (.tail _ hp))))))
    · have h1 := ltN ((‹∀ p ∈ news, p.1 < _›) q hq)
      refine ltN ?_
      omega
    · intro h
      have h2 : inE (g) = false := by assumption
      rw [h2] at h
      exact Bool.false_ne_true h.2
  · refine hret _ [_] _ _ (by k_asm) (cb_drop (by k_asm) ?_) (low_one fun q hq => ?_) (Or.inr ⟨?_, _, rfl, rfl⟩)
    · intro p hp
      rcases List.mem_append.mp hp with hp | hp
      · rw [List.mem_singleton.mp hp]; exact .head _
      · exact .tail _ (.tail _ (.tail _ (.tail _ (.tail _ (.tail _ (.tail _ hp))))))
    · have h1 := ltN ((‹∀ p ∈ news, p.1 < _›) q hq)
      refine ltN ?_
      omega
    · intro h
      have h2 : inE (Int.fdiv ((Builtin.Int.intBits x : Int) + 7) 8 * 8) = false := by assumption
      rw [h2] at h
      exact Bool.false_ne_true h.1
theorem made_int_none (w : World) (news : List (Addr × Obj)) (x y : Int) (tx ty : Tok) (sh : Addr) (c : Nat) (f : Int) (tf : Tok) (hs : (sh, listOf (List.toArray [Value.int f tf, Value.none]) c) ∈ news)
    (hx : 0 ≤ x) (hx2 : x < 9223372036854775808) (hy : 0 ≤ y) (hy2 : y < 9223372036854775808) : Does0 w 264 6 news [.int x tx, .int y ty, .ref sh] (MadeOut w.params x y (f) (Int.fdiv ((Builtin.Int.intBits y : Int) + 7) 8 * 8)) := by
  have hbx := fmt_le hx hx2
  have hby := fmt_le hy hy2
  unfold Does0
  intro p loose mean mg mb dp un cn cs a ccd A₀ base h₀ L m s Q E B XB TB F X N T hk hd hu hret
  refine wpAny_call ?_
  refine' code_defS0 ?k1 ?k2 ?k3 ?k4 ?k5 ?kA ?k6 ?k7 ?k8 ?k9 ?kB ?_ ?cK ?c2 ?c3 ?c4 ?c5
  case kA => exact rfl
  case k2 => k_asm
  case k1 => k_asm
  case k3 => k_asm
  case k4 => k_asm
  case k5 => k_asm
  case k6 => k_is
  case k7 => k_is
  case k8 => k_room
  case k9 => exact BindsTo.of_eq rfl
  case kB => exact locs rfl
  case cK => assumption
  case c2 => exact rfl
  case c3 => exact rfl
  case c4 => exact rfl
  case c5 => decide
  k_whole
  intro g' L' h' FG' F' N' B' X' T' D'
  (try dsimp only)
  (try k_lift B')
  (try k_fold)
  k_steps
  · refine hret _ [_, _, _, _, _] _ _ (by k_asm) (by k_asm) ?_ (Or.inl ⟨by assumption, by assumption, _, _, rfl, List.Mem.head _, _, _, _, _, _, _, _, _, _, _, _, _, _, _, _, _, _, _, .tail _ (.tail _ (.tail _ (.head _))), .tail _ (.tail _ (.tail _ (.tail _ (.head _)))), .tail _ (.head _), .tail _ (.tail _ (.head _))⟩)
    intro q hq p hp
    have h1 := ltN ((‹∀ p ∈ news, p.1 < _›) q hq)
    simp only [List.mem_cons, List.not_mem_nil, or_false] at hp
    rcases hp with rfl | rfl | rfl | rfl | rfl <;> (dsimp only; refine ltN ?_; omega)
  · refine hret _ [_] _ _ (by k_asm) (cb_drop (by k_asm) ?_) (low_one fun q hq => ?_) (Or.inr ⟨?_, _, rfl, rfl⟩)
    · intro p hp
      rcases List.mem_append.mp hp with hp | hp
      · rw [List.mem_singleton.mp hp]; exact .head _
      · exact .tail _ (.tail _ (.tail _ (.tail _ (.tail _ (.tail _ (.tail _ hp))))))
    · have h1 := ltN ((‹∀ p ∈ news, p.1 < _›) q hq)
      refine ltN ?_
      omega
    · intro h
      have h2 : inE (Int.fdiv ((Builtin.Int.intBits y : Int) + 7) 8 * 8) = false := by assumption
      rw [h2] at h
      exact Bool.false_ne_true h.2
  · refine hret _ [_] _ _ (by k_asm) (cb_drop (by k_asm) ?_) (low_one fun q hq => ?_) (Or.inr ⟨?_, _, rfl, rfl⟩)
    · intro p hp
      rcases List.mem_append.mp hp with hp | hp
      · rw [List.mem_singleton.mp hp]; exact .head _
      · exact .tail _ (.tail _ (.tail _ (.tail _ (.tail _ (.tail _ (.tail _ hp))))))
    · have h1 := ltN ((‹∀ p ∈ news, p.1 < _›) q hq)
      refine ltN ?_
      omega
    · intro h
      have h2 : inE (f) = false := by assumption
      rw [h2] at h
      exact Bool.false_ne_true h.1
theorem made_none_none (w : World) (news : List (Addr × Obj)) (x y : Int) (tx ty : Tok) (sh : Addr) (c : Nat) (hs : (sh, listOf (List.toArray [Value.none, Value.none]) c) ∈ news)
    (hx : 0 ≤ x) (hx2 : x < 9223372036854775808) (hy : 0 ≤ y) (hy2 : y < 9223372036854775808) : Does0 w 264 6 news [.int x tx, .int y ty, .ref sh] (MadeOut w.params x y (Int.fdiv ((Builtin.Int.intBits x : Int) + 7) 8 * 8) (Int.fdiv ((Builtin.Int.intBits y : Int) + 7) 8 * 8)) := by
  have hbx := fmt_le hx hx2
  have hby := fmt_le hy hy2
  unfold Does0
  intro p loose mean mg mb dp un cn cs a ccd A₀ base h₀ L m s Q E B XB TB F X N T hk hd hu hret
  refine wpAny_call ?_
  refine' code_defS0 ?k1 ?k2 ?k3 ?k4 ?k5 ?kA ?k6 ?k7 ?k8 ?k9 ?kB ?_ ?cK ?c2 ?c3 ?c4 ?c5
  case kA => exact rfl
  case k2 => k_asm
  case k1 => k_asm
  case k3 => k_asm
  case k4 => k_asm
  case k5 => k_asm
  case k6 => k_is
  case k7 => k_is
  case k8 => k_room
  case k9 => exact BindsTo.of_eq rfl
  case kB => exact locs rfl
  case cK => assumption
  case c2 => exact rfl
  case c3 => exact rfl
  case c4 => exact rfl
  case c5 => decide
  k_whole
  intro g' L' h' FG' F' N' B' X' T' D'
  (try dsimp only)
  (try k_lift B')
  (try k_fold)
  k_steps
  · refine hret _ [_, _, _, _, _] _ _ (by k_asm) (by k_asm) ?_ (Or.inl ⟨by assumption, by assumption, _, _, rfl, List.Mem.head _, _, _, _, _, _, _, _, _, _, _, _, _, _, _, _, _, _, _, .tail _ (.tail _ (.tail _ (.head _))), .tail _ (.tail _ (.tail _ (.tail _ (.head _)))), .tail _ (.head _), .tail _ (.tail _ (.head _))⟩)
    intro q hq p hp
    have h1 := ltN ((‹∀ p ∈ news, p.1 < _›) q hq)
    simp only [List.mem_cons, List.not_mem_nil, or_false] at hp
    rcases hp with rfl | rfl | rfl | rfl | rfl <;> (dsimp only; refine ltN ?_; omega)
  · refine hret _ [_] _ _ (by k_asm) (cb_drop (by k_asm) ?_) (low_one fun q hq => ?_) (Or.inr ⟨?_, _, rfl, rfl⟩)
    · intro p hp
      rcases List.mem_append.mp hp with hp | hp
      · rw [List.mem_singleton.mp hp]; exact .head _
      · exact .tail _ (.tail _ (.tail _ (.tail _ (.tail _ (.tail _ (.tail _ hp))))))
    · have h1 := ltN ((‹∀ p ∈ news, p.1 < _›) q hq)
      refine ltN ?_
      omega
    · intro h
      have h2 : inE (Int.fdiv ((Builtin.Int.intBits y : Int) + 7) 8 * 8) = false := by assumption
      rw [h2] at h
      exact Bool.false_ne_true h.2
  · refine hret _ [_] _ _ (by k_asm) (cb_drop (by k_asm) ?_) (low_one fun q hq => ?_) (Or.inr ⟨?_, _, rfl, rfl⟩)
    · intro p hp
      rcases List.mem_append.mp hp with hp | hp
      · rw [List.mem_singleton.mp hp]; exact .head _
      · exact .tail _ (.tail _ (.tail _ (.tail _ (.tail _ (.tail _ (.tail _ hp))))))
    · have h1 := ltN ((‹∀ p ∈ news, p.1 < _›) q hq)
      refine ltN ?_
      omega
    · intro h
      have h2 : inE (Int.fdiv ((Builtin.Int.intBits x : Int) + 7) 8 * 8) = false := by assumption
      rw [h2] at h
      exact Bool.false_ne_true h.1
end Mine
end
section
open PySem PySem.W PyProof.Rows PySem.Calls
set_option maxRecDepth 100000
set_option Elab.async false
namespace Mine
theorem ints_app {vs ws : List Value} {ns ks : List Int} (h : IntsAre vs ns) (k : IntsAre ws ks) : IntsAre (vs ++ ws) (ns ++ ks) := by
  induction h with
  | nil => exact k
  | cons n t _ ih => exact .cons n t ih
theorem ints_one (n : Int) (t : Tok) : IntsAre [.int n t] [n] := .cons n t .nil
section
variable {prog : Program} {w : World} {A : Around}
theorem flat_inner {R : Result → Shared → Prop} {s : Shared} {g0 : Comprehension} {y : Str} {py p5 : Pos} {it1 : Expr} {scope : Scope} {pos : Pos} {cenv : Env} {b : Array UInt8} {tb : Tok} {J D : Addr} {ys : Array Value} {m : Str → Option Value}
    (hh : A.handled = none) (hy : cenv.kindOf y = some .local) (hkind : cenv.scope.kind = .function)
    (hd : (y == ("__debug__" : Str)) = false)
    (hJD : J ≠ D) (hJC : J ≠ cenv.locals) (hDC : D ≠ cenv.locals)
    (hit : KBw.IsBytesIter s.heap J b tb 0) (hacc : s.heap.PlainList D ys) (hn : s.heap.Ns cenv.locals m) (hsz : ys.size + b.size ≤ sizeLine)
    (hR : ∀ h' tk m' vs, h'.PlainList D (ys ++ List.toArray vs) → IntsAre vs (KBw.bInts b) → h'.Ns cenv.locals m' → (∀ z, z ≠ y → m' z = m z) → (∀ a o, a ≠ cenv.locals → a ≠ J → a ≠ D → s.heap.get? a = some o → h'.get? a = some o) → R (.ok .next) { s with heap := h', toks := tk }) :
    codeAny (model prog w) A (.compLoop (.ListComp (.Name y p5) [g0, ⟨.Name y py, it1, [], 0⟩] scope pos) 1 (.ref J) (.ref D) cenv) R s := by
  have hp : (cenv.scope.kind == .class || (cenv.scope.kind == .module && cenv.locals != cenv.globals)) = false := by rw [hkind]; rfl
  refine codeAny_loop rfl (fun n s' => ∃ h' tk m', ∃ vs : List Value, s' = { s with heap := h', toks := tk } ∧ KBw.IsBytesIter h' J b tb vs.length ∧ h'.PlainList D (ys ++ List.toArray vs) ∧ h'.Ns cenv.locals m' ∧ IntsAre vs ((KBw.bInts b).take vs.length) ∧ vs.length ≤ b.size ∧ n = b.size - vs.length ∧ (∀ z, z ≠ y → m' z = m z) ∧
      (∀ a o, a ≠ cenv.locals → a ≠ J → a ≠ D → s.heap.get? a = some o → h'.get? a = some o)) (fun n s' hI => ?_) b.size ⟨s.heap, s.toks, m, [], rfl, hit, by simpa using hacc, hn, .nil, Nat.zero_le _, rfl, fun _ _ => rfl, fun _ _ _ _ _ e => e⟩
  obtain ⟨h', tk, m', vs, rfl, hit', hacc', hn', hi, hle, rfl, hm, hk⟩ := hI
  show wpAny _ A ((compTurn (.ListComp (.Name y p5) [g0, ⟨.Name y py, it1, [], 0⟩] scope pos) 1 (.ref J) (.ref D) cenv).onRaise (fun x => do noteFrame x cenv; theTreesLotGoes x)) _ _ _
  refine wpAny_noted ?_
  unfold compTurn
  dsimp only [List.getElem?_cons_succ, List.getElem?_cons_zero]
  refine wpAny_bind (wpAny_standAt ?_)
  refine wpAny_bind ?_
  by_cases hlt : vs.length < b.size
  · refine KBw.next_item hit' (c := b[vs.length]) (by simp [hlt]) fun h₁ hit₁ hs₁ => ?_
    dsimp only
    refine wpAny_bind (wpAny_of_eq (a := ()) rfl ?_)
    refine wpAny_bind (wpAny_assign_Name (wpAny_storeName_local hy (hn'.at' fun o e => hs₁.extBut _ o (Ne.symm hJC) e) (fun h₂ hn₂ hs₂ => ?_) hp))
    refine wpAny_bind (wpAny_pure ?_)
    dsimp only [List.getElem?_nil]
    simp only [if_true]
    refine wpAny_bind (wpAny_bind (wpAny_Name (wpAny_loadName_local (v := .int (b[vs.length].toNat : Int) tk) hkind hy hn₂ (if_pos rfl) ?_) hd))
    have hJ₂ : KBw.IsBytesIter h₂ J b tb (vs.length + 1) := by
      obtain ⟨o, ho, r⟩ := hit₁
      exact ⟨o, hs₂.extBut _ _ hJC ho, r⟩
    have hD₂ : h₂.PlainList D (ys ++ List.toArray vs) := (hacc'.extBut hs₁.extBut (Ne.symm hJD)).extBut hs₂.extBut hDC
    have hsz2 : (ys ++ List.toArray vs).size ≤ sizeLine := by
      have e9 : (ys ++ List.toArray vs).size = ys.size + vs.length := by simp
      omega
    refine wpAny_bind (wpAny_list_append_plain (hsz := hsz2) hD₂ fun h₃ hD₃ hs₃ => wpAny_pure (wpAny_pure ⟨rfl, b.size - (vs.length + 1), by omega, h₃, _, (fun z => if z = y then some (.int (b[vs.length].toNat : Int) tk) else m' z), vs ++ [.int (b[vs.length].toNat : Int) tk], rfl, ?_, ?_, ?_, ?_, ?_, ?_, ?_, ?_⟩))
    · obtain ⟨o, ho, r⟩ := hJ₂
      rw [List.length_append]
      exact ⟨o, hs₃.extBut _ _ hJD ho, r⟩
    · have e : ys ++ List.toArray (vs ++ [Value.int (b[vs.length].toNat : Int) tk]) = (ys ++ List.toArray vs).push (Value.int (b[vs.length].toNat : Int) tk) := by simp
      rw [e]
      exact hD₃
    · exact hn₂.sameBut hs₃ (Ne.symm hDC)
    · have e : (KBw.bInts b).take (vs ++ [Value.int (b[vs.length].toNat : Int) tk]).length = (KBw.bInts b).take vs.length ++ [(b[vs.length].toNat : Int)] := by
        rw [List.length_append, List.length_singleton, List.take_add_one, KBw.ints_get (c := b[vs.length]) (by simp [hlt])]
        rfl
      rw [e]
      exact ints_app hi (ints_one _ _)
    · rw [List.length_append, List.length_singleton]; omega
    · rw [List.length_append, List.length_singleton]
    · intro z hz
      show (if z = y then _ else m' z) = m z
      rw [if_neg hz]
      exact hm z hz
    · intro a o ha1 ha2 ha3 e
      exact hs₃.extBut _ _ ha3 (hs₂.extBut _ _ ha1 (hs₁.extBut _ _ ha2 (hk a o ha1 ha2 ha3 e)))
  · have hin : vs.length = b.size := by omega
    refine KBw.next_end hh hit' (by simp [hin]) fun h₁ hs₁ => ?_
    refine wpAny_pure (hR h₁ _ m' vs (hacc'.extBut hs₁ (Ne.symm hJD)) ?_ (hn'.at' fun o e => hs₁ _ o (Ne.symm hJC) e) hm fun a o ha1 ha2 ha3 e => hs₁ _ _ ha2 (hk a o ha1 ha2 ha3 e))
    rw [List.take_of_length_le (by rw [KBw.ints_length]; omega)] at hi
    exact hi
theorem flat_start {R : Result → Shared → Prop} {s : Shared} {elt : Expr} {g0 g1 : Comprehension} {scope : Scope} {pos : Pos} {cenv : Env} {b : Array UInt8} {tb : Tok} {J D : Addr} (hg : g1.is_async = 0)
    (hit : KBw.IsBytesIter s.heap J b tb 0)
    (h : codeAny (model prog w) A (.compLoop (.ListComp elt [g0, g1] scope pos) 1 (.ref J) (.ref D) cenv) R s) :
    codeAny (model prog w) A (.compStart (.ListComp elt [g0, g1] scope pos) 1 (.ref J) (.ref D) cenv) R s := by
  obtain ⟨t1, i1, f1, as1⟩ := g1
  dsimp only at hg
  subst hg
  refine codeAny_of_tree ?_
  show wpAny _ A ((compStart (.ListComp elt [g0, ⟨t1, i1, f1, 0⟩] scope pos) 1 (.ref J) (.ref D) cenv).onRaise (fun x => do noteFrame x cenv; standAt theWindowsPlace)) _ _ s
  refine wpAny_notedAt ?_
  unfold compStart
  show wpAny _ _ (ask >>= _) _ _ s
  refine wpAny_bind (wpAny_askSetting (wpAny_ite ?_))
  split
  · exact wpAny_bind (wpAny_pure (wpAny_pure (And.intro rfl h)))
  · refine wpAny_bind (wpAny_rule ?_)
    show wpAny _ _ (standAt i1.pos >>= _) _ _ s
    exact wpAny_bind (wpAny_standAt (wpAny_bind (KBw.pyIter_self hit (wpAny_pure (And.intro rfl h)))))

theorem ns_lt {h : Heap} {a : Addr} {m : Str → Option Value} (n : h.Ns a m) : a < h.objs.size := by
  obtain ⟨o, _, _, ho, _⟩ := n
  exact Heap.lt_size ho
theorem plain_lt {h : Heap} {a : Addr} {ys : Array Value} (n : h.PlainList a ys) : a < h.objs.size := by
  obtain ⟨_, ho⟩ := n
  exact Heap.lt_size ho
abbrev itemsOf (its : List (Array UInt8 × Tok)) : List Value := its.map fun p => Value.bytes p.1 p.2
abbrev octetsOf (its : List (Array UInt8 × Tok)) : List Int := its.flatMap fun p => KBw.bInts p.1
theorem octets_take {its : List (Array UInt8 × Tok)} {i : Nat} (h : i < its.length) : octetsOf (its.take (i + 1)) = octetsOf (its.take i) ++ KBw.bInts its[i].1 := by
  have e : its.take (i + 1) = its.take i ++ [its[i]] := by rw [List.take_add_one, List.getElem?_eq_getElem h]; rfl
  rw [e]
  unfold octetsOf
  rw [List.flatMap_append]
  simp
theorem octets_room {its : List (Array UInt8 × Tok)} {i : Nat} (h : i < its.length) : (octetsOf (its.take i)).length + its[i].1.size ≤ (octetsOf its).length := by
  have e1 : octetsOf its = octetsOf (its.take (i + 1)) ++ octetsOf (its.drop (i + 1)) := by
    unfold octetsOf
    rw [← List.flatMap_append, List.take_append_drop]
  have e2 := congrArg List.length e1
  rw [List.length_append, octets_take h, List.length_append, KBw.ints_length] at e2
  omega
theorem ints_len {vs : List Value} {ns : List Int} (h : IntsAre vs ns) : vs.length = ns.length := h.length
set_option maxHeartbeats 8000000 in
theorem flat_outer {R : Result → Shared → Prop} {s : Shared} {x y : Str} {px px2 py p5 : Pos} {it0 : Expr} {scope : Scope} {pos : Pos} {cenv : Env} {its : List (Array UInt8 × Tok)} {I ax D : Addr} {m : Str → Option Value}
    (hh : A.handled = none) (hx : cenv.kindOf x = some .local) (hy : cenv.kindOf y = some .local) (hkind : cenv.scope.kind = .function)
    (hdx : (x == ("__debug__" : Str)) = false) (hdy : (y == ("__debug__" : Str)) = false)
    (hID : I ≠ D) (hIC : I ≠ cenv.locals) (hDC : D ≠ cenv.locals) (hxI : ax ≠ I) (hxD : ax ≠ D) (hxC : ax ≠ cenv.locals)
    (hit : s.heap.IsListIter I ax 0) (hl : s.heap.IsList ax (List.toArray (itemsOf its))) (hacc : s.heap.PlainList D #[]) (hn : s.heap.Ns cenv.locals m) (hsz : (octetsOf its).length ≤ sizeLine)
    (hR : ∀ h' tk m' vs, h'.PlainList D (List.toArray vs) → IntsAre vs (octetsOf its) → h'.Ns cenv.locals m' → (∀ a o, a ≠ cenv.locals → a ≠ I → a ≠ D → s.heap.get? a = some o → h'.get? a = some o) → R (.ok .next) { s with heap := h', toks := tk }) :
    codeAny (model prog w) A (.compLoop (.ListComp (.Name y p5) [⟨.Name x px, it0, [], 0⟩, ⟨.Name y py, .Name x px2, [], 0⟩] scope pos) 0 (.ref I) (.ref D) cenv) R s := by
  have hp : (cenv.scope.kind == .class || (cenv.scope.kind == .module && cenv.locals != cenv.globals)) = false := by rw [hkind]; rfl
  refine codeAny_loop rfl (fun n s' => ∃ h' tk m', ∃ (vs : List Value) (i : Nat), s' = { s with heap := h', toks := tk } ∧ h'.IsListIter I ax i ∧ h'.IsList ax (List.toArray (itemsOf its)) ∧ h'.PlainList D (List.toArray vs) ∧ h'.Ns cenv.locals m' ∧ IntsAre vs (octetsOf (its.take i)) ∧ i ≤ its.length ∧ n = its.length - i ∧
      (∀ a o, a ≠ cenv.locals → a ≠ I → a ≠ D → s.heap.get? a = some o → h'.get? a = some o)) (fun n s' hI => ?_) its.length ⟨s.heap, s.toks, m, [], 0, rfl, hit, hl, hacc, hn, .nil, Nat.zero_le _, rfl, fun _ _ _ _ _ e => e⟩
  obtain ⟨h', tk, m', vs, i, rfl, hit', hl', hacc', hn', hi, hle, rfl, hk⟩ := hI
  show wpAny _ A ((compTurn (.ListComp (.Name y p5) [⟨.Name x px, it0, [], 0⟩, ⟨.Name y py, .Name x px2, [], 0⟩] scope pos) 0 (.ref I) (.ref D) cenv).onRaise (fun x => do noteFrame x cenv; theTreesLotGoes x)) _ _ _
  refine wpAny_noted ?_
  unfold compTurn
  dsimp only [List.getElem?_cons_succ, List.getElem?_cons_zero]
  refine wpAny_bind (wpAny_standAt ?_)
  refine wpAny_bind ?_
  by_cases hlt : i < its.length
  · refine wpAny_pyNext_list_item hit' hl' (x := .bytes its[i].1 its[i].2) (by simp [hlt]) fun h₁ hit₁ hs₁ => ?_
    dsimp only
    refine wpAny_bind (wpAny_of_eq (a := ()) rfl ?_)
    refine wpAny_bind (wpAny_assign_Name (wpAny_storeName_local hx (hn'.at' fun o e => hs₁.extBut _ o (Ne.symm hIC) e) (fun h₂ hn₂ hs₂ => ?_) hp))
    refine wpAny_bind (wpAny_pure ?_)
    dsimp only [List.getElem?_cons_zero]
    simp only [if_true]
    refine wpAny_bind (wpAny_Name (wpAny_loadName_local (v := .bytes its[i].1 its[i].2) hkind hx hn₂ (if_pos rfl) ?_) hdx)
    refine wpAny_bind (wpAny_standAt ?_)
    refine wpAny_ite ?_
    rw [if_neg (by decide)]
    refine wpAny_bind (wpAny_of_eq (a := .bytes its[i].1 its[i].2) rfl ?_)
    refine wpAny_bind ?_
    have hD₂ : h₂.PlainList D (List.toArray vs) := (hacc'.extBut hs₁.extBut (Ne.symm hID)).extBut hs₂.extBut hDC
    have hl₂ : h₂.IsList ax (List.toArray (itemsOf its)) := (hl'.extBut hs₁.extBut hxI).extBut hs₂.extBut hxC
    have hit₂ : h₂.IsListIter I ax (i + 1) := by
      obtain ⟨o, ho, r⟩ := hit₁
      exact ⟨o, hs₂.extBut _ _ hIC ho, r⟩
    refine wpAny_holding ?_
    refine wpAny_ite ?_
    rw [if_neg (by decide)]
    refine KBw.pyIter_bytes ?_
    dsimp only
    have up : ∀ a o, h₂.get? a = some o → (h₂.push { cls := .type "bytes_iterator", data := .fields #[.bytes its[i].1 its[i].2, .int 0 0] }).get? a = some o := fun a o e => Heap.get?_push_of_some _ e
    have hlen : vs.length = (octetsOf (its.take i)).length := hi.length
    have hoct : octetsOf (its.take (i + 1)) = octetsOf (its.take i) ++ KBw.bInts its[i].1 := octets_take hlt
    have hroom : (List.toArray vs).size + its[i].1.size ≤ sizeLine := by
      have e2 := octets_room hlt
      rw [List.size_toArray, hlen]
      omega
    refine wpAny_bind (wpAny_runOwn ?_)
    show codeAny (model prog w) A _ _ _
    refine flat_start rfl ⟨_, Heap.get?_push_size _ rfl, rfl, rfl⟩ (flat_inner (m := fun z => if z = x then some (.bytes its[i].1 its[i].2) else m' z) hh hy hkind hdy (Nat.ne_of_gt (plain_lt hD₂)) (Nat.ne_of_gt (ns_lt hn₂)) hDC ⟨_, Heap.get?_push_size _ rfl, rfl, rfl⟩ (hD₂.at fun o e => up _ o e) (hn₂.at' fun o e => up _ o e) hroom ?_)
    intro h₃ tk₃ m₃ ws hD₃ hws hn₃ hm₃ hk₃
    have lt_I : I < h₂.objs.size := by
      obtain ⟨o, ho, _⟩ := hit₂
      exact Heap.lt_size ho
    have lt_a : ax < h₂.objs.size := by
      obtain ⟨o, ho, _⟩ := hl₂
      exact Heap.lt_size ho
    refine wpAny_pure ⟨rfl, its.length - (i + 1), by omega, h₃, _, m₃, vs ++ ws, i + 1, rfl, ?_, ?_, ?_, hn₃, ?_, by omega, rfl, ?_⟩
    · obtain ⟨o, ho, r⟩ := hit₂
      exact ⟨o, hk₃ _ _ hIC (Nat.ne_of_lt lt_I) hID (up _ _ ho), r⟩
    · obtain ⟨o, ho, r⟩ := hl₂
      exact ⟨o, hk₃ _ _ hxC (Nat.ne_of_lt lt_a) hxD (up _ _ ho), r⟩
    · have e : List.toArray (vs ++ ws) = List.toArray vs ++ List.toArray ws := by simp
      rw [e]
      exact hD₃
    · rw [hoct]
      exact ints_app hi hws
    · intro a o ha1 ha2 ha3 e
      have e2 := hs₂.extBut _ _ ha1 (hs₁.extBut _ _ ha2 (hk a o ha1 ha2 ha3 e))
      exact hk₃ _ _ ha1 (Nat.ne_of_lt (Heap.lt_size e2)) ha3 (up _ _ e2)
  · have hin : i = its.length := by omega
    refine wpAny_pyNext_list_end hh hit' hl' (by simp [hin]) fun h₁ hs₁ => ?_
    refine wpAny_pure (hR h₁ _ m' vs (hacc'.extBut hs₁ (Ne.symm hID)) ?_ (hn'.at' fun o e => hs₁ _ o (Ne.symm hIC) e) fun a o ha1 ha2 ha3 e => hs₁ _ _ ha2 (hk a o ha1 ha2 ha3 e))
    rw [List.take_of_length_le (by omega)] at hi
    exact hi
def FlatSrc (A : Around) (h₀ : Heap) (L : Addr) (m : Str → Option Value) (Q : Value → Shared → Prop) (xv : Value) (s₁ : Shared) : Prop :=
  ∃ (ax : Addr) (its : List (Array UInt8 × Tok)) (k : Nat) (news : List (Addr × Obj)), xv = .ref ax ∧ A.handled = none ∧ Fr h₀ L s₁.heap m ∧ News h₀ L s₁.heap news ∧ (ax, listOf (List.toArray (itemsOf its)) k) ∈ news ∧ (octetsOf its).length ≤ sizeLine ∧
    ∀ (D : Addr) h' tk vs n, Fr h₀ L h' m → News h₀ L h' ((D, listOf (List.toArray vs) n) :: news) → (∀ q ∈ news, q.1 < D) → IntsAre vs (octetsOf its) → Q (.ref D) { s₁ with heap := h', toks := tk }
set_option maxHeartbeats 8000000 in
theorem flat_comp {E : Value → Shared → Prop} {s : Shared} {x y : Str} {px px2 py p5 : Pos} {iter : Expr} {scope : Scope} {pos : Pos} {env : Env} {h₀ : Heap} {L : Addr} {m : Str → Option Value} {Q : Value → Shared → Prop}
    (_F : Fr h₀ L s.heap m) (hfree : ∀ y ∈ scope.names, y.2 ≠ .free) (hcell : ∀ y ∈ scope.names, y.2 ≠ .cell) (hkind : scope.kind = .function)
    (hnames : ∀ z ∈ scope.names, z.2 = .local → scope.names.lookup z.1 = some .local) (hx : scope.names.lookup x = some .local) (hy : scope.names.lookup y = some .local)
    (hdx : (x == ("__debug__" : Str)) = false) (hdy : (y == ("__debug__" : Str)) = false)
    (h : wpAny (model prog w) A (eval iter env) (FlatSrc A h₀ L m Q) E s)
    (hs : ∀ x, foldedSetIterable iter env x = pure x := by intro _; rfl) :
    wpAny (model prog w) A (eval (.ListComp (.Name y p5) [⟨.Name x px, iter, [], 0⟩, ⟨.Name y py, .Name x px2, [], 0⟩] scope pos) env) Q E s := by
  refine wpAny_ListComp hfree hkind hnames (wpAny_mono h (fun xv s₁ h₁ => ?_) fun _ _ e => e) hs
  obtain ⟨ax, its, k, news, rfl, hh, F, N, hm, hsz, ret⟩ := h₁
  have hl : s₁.heap.IsList ax (List.toArray (itemsOf its)) := ⟨_, (N _ hm).1, rfl, k, rfl⟩
  have hlt : ax < s₁.heap.objs.size := Heap.lt_size (N _ hm).1
  have hLlt : L < s₁.heap.objs.size := ns_lt F.ns
  refine wpAny_pyIter_list hl ?_
  generalize hH1 : s₁.heap.push { cls := .type "list_iterator", data := .fields #[.ref ax, .int 0 0] } = H1
  have hI : H1.objs.size = s₁.heap.objs.size + 1 := by rw [← hH1, Heap.size_push]
  have hit1 : H1.IsListIter s₁.heap.objs.size ax 0 := ⟨_, hH1 ▸ Heap.get?_push_size _ rfl, rfl, rfl⟩
  refine wpAny_newObj_type (wpAny_newFunctionEnv hcell (by intro y hy; simp at hy) (fun h₁ hns₁ hsb₁ => ?_) hkind)
  dsimp only at hns₁ hsb₁ ⊢
  generalize hH2 : H1.push { cls := .type "list", dict := none, data := .seq ([] : List Value).toArray } = H2 at hns₁ hsb₁ ⊢
  have hC : H2.objs.size = s₁.heap.objs.size + 2 := by rw [← hH2, Heap.size_push, hI]
  have hDC : H1.objs.size ≠ H2.objs.size := by rw [hC, hI]; omega
  have o1 : ∀ a o, s₁.heap.get? a = some o → H1.get? a = some o := fun a o e => hH1 ▸ Heap.get?_push_of_some _ e
  have o2 : ∀ a o, H1.get? a = some o → h₁.get? a = some o := fun a o e => hsb₁.extBut _ _ (Nat.ne_of_lt (Nat.lt_trans (Heap.lt_size e) (by rw [hC, hI]; exact Nat.lt_succ_self _))) (Heap.get?_push_of_some _ (hH2 ▸ Heap.get?_push_of_some _ e))
  have hacc : h₁.PlainList H1.objs.size #[] := ⟨_, hsb₁.extBut _ _ hDC (Heap.get?_push_of_some _ (hH2 ▸ Heap.get?_push_size _ rfl))⟩
  have hit : h₁.IsListIter s₁.heap.objs.size ax 0 := by
    obtain ⟨o, ho, r⟩ := hit1
    exact ⟨o, o2 _ _ ho, r⟩
  have hl2 : h₁.IsList ax (List.toArray (itemsOf its)) := ⟨_, o2 _ _ (o1 _ _ (N _ hm).1), rfl, k, rfl⟩
  have loop : ∀ s₃ : Shared, s₃ = { s₁ with heap := h₁, toks := s₁.toks + ([] : List (Str × Value)).length } →
      codeAny (model prog w) A (.compLoop (.ListComp (.Name y p5) [⟨.Name x px, iter, [], 0⟩, ⟨.Name y py, .Name x px2, [], 0⟩] scope pos) 0 (.ref s₁.heap.objs.size) (.ref H1.objs.size) (compEnv scope H2.objs.size env))
        (fun r s' => ∃ m, s'.heap.Ns H2.objs.size m ∧ ∀ h', Heap.SameBut H2.objs.size s'.heap h' →
            match r with | .ok _ => Q (.ref H1.objs.size) { s' with heap := h' } | .error x => wpAny (model prog w) A (PySem.passOn "comprehension.variables-let-go" x (compEnv scope H2.objs.size env)) Q E { s' with heap := h' }) s₃ := by
    rintro s₃ rfl
    refine flat_outer (its := its) (ax := ax) (m := _) hh hx hy (by simp [compEnv, hkind]) hdx hdy (by rw [hI]; exact Nat.ne_of_lt (Nat.lt_succ_self _)) (by show s₁.heap.objs.size ≠ H2.objs.size; rw [hC]; omega) hDC (Nat.ne_of_lt hlt) (by rw [hI]; exact Nat.ne_of_lt (Nat.lt_succ_of_lt hlt)) (by show ax ≠ H2.objs.size; rw [hC]; exact Nat.ne_of_lt (Nat.lt_succ_of_lt (Nat.lt_succ_of_lt hlt))) hit hl2 hacc hns₁ hsz ?_
    intro h' tk m' vs hD hv hn hk
    refine ⟨m', hn, fun h'' hs'' => ?_⟩
    have up : ∀ a o, s₁.heap.get? a = some o → h''.get? a = some o := fun a o e => by
      have hlt := Heap.lt_size e
      have n1 : a ≠ H2.objs.size := by rw [hC]; exact Nat.ne_of_lt (Nat.lt_succ_of_lt (Nat.lt_succ_of_lt hlt))
      exact hs''.extBut _ _ n1 (hk a o n1 (Nat.ne_of_lt hlt) (by rw [hI]; exact Nat.ne_of_lt (Nat.lt_succ_of_lt hlt)) (o2 _ _ (o1 _ _ e)))
    obtain ⟨n, hD'⟩ := hD.extBut hs''.extBut hDC
    refine ret H1.objs.size h'' tk vs n (F.keptAll up) ?_ ?_ hv
    · intro p hp
      rcases List.mem_cons.mp hp with rfl | hp
      · refine ⟨hD', ?_, ?_⟩
        · show H1.objs.size ≠ L
          rw [hI]; exact Nat.ne_of_gt (Nat.lt_succ_of_lt hLlt)
        · show h₀.get? H1.objs.size = none
          cases e : h₀.get? H1.objs.size with
          | none => rfl
          | some o' =>
            have := Heap.lt_size (F.keep _ _ e)
            rw [hI] at this
            exact absurd this (Nat.not_lt.mpr (Nat.le_succ _))
      · exact ⟨up _ _ (N p hp).1, (N p hp).2⟩
    · intro q hq
      rw [hI]
      exact Nat.lt_succ_of_lt (Heap.lt_size (N q hq).1)
  exact codeAny_compStart_list (loop _ rfl) (wpAny_pyIter_listiter hit (loop _ rfl))
end
end Mine
end
section
open PySem PySem.W PyProof.Rows PySem.Calls
set_option Elab.async false
set_option maxRecDepth 100000
set_option maxHeartbeats 8000000
namespace Mine
theorem fillK4 : (PySem.Challenge.rw_fe0335_01, Mine.hd.heap_39) = (PySem.Challenge.rw_fe0335_01, Mine.hd.heap_39) := by
  k_fill
  rfl
local macro_rules | `(tactic| k_steps) => `(tactic| repeat' (first | (k_unfold; (try dsimp only)) | walk1 | (dsimp only; walk1) | (leave1; walk_say "STEP leave1"; (try dsimp only)) | fail "no step"))
local macro_rules | `(tactic| k_room) => `(tactic| ((try simp only [depth_under_make, depth_under_kw, depth_in1, depth_deeper, depth_mark]); (try dsimp only [ktrTop]); omega))
local macro_rules | `(tactic| k_units) => `(tactic| ((try simp only [units_deeper, units_make2, units_in1, Around.mark_units]); (try dsimp only [ktrTop]); omega))
theorem inE_cases {f : Int} (h : inE f = true) : f = 8 ∨ f = 16 ∨ f = 24 ∨ f = 32 ∨ f = 40 ∨ f = 48 ∨ f = 56 ∨ f = 64 := by
  simpa [inE, Bool.or_eq_true, decide_eq_true_eq] using h
theorem inE_range {f : Int} (h : inE f = true) : 1 ≤ f / 8 ∧ f / 8 ≤ 8 := by
  rcases inE_cases h with rfl | rfl | rfl | rfl | rfl | rfl | rfl | rfl <;> decide
section
variable {prog : Program} {w : World} {A : Around} {E : Value → Shared → Prop} {s : Shared} {Q : Value → Shared → Prop} {a b : Int} {t u : Tok}
theorem item_map {value slice : PySem.Expr} {d : Addr} {f : Int} (K : KTD.Keyed s.heap d mapD) (hf : inE f = true) (h : ∀ t', Q (.int (f / 8) t') { s with toks := s.toks + 1 })
    (hs : subscripted slice false (.ref d) (.int f t) = operate [.ref d, .int f t] (getItem (.ref d) (.int f t)) := by with_unfolding_all rfl) (hg : ∀ r, letTemporaryGo value (.ref d) r = pure () := by intro _; with_unfolding_all rfl) :
    wpAny (model prog w) A (subscriptTail value slice (.ref d) (.int f t)) Q E s := by
  refine item_intTab (dv := .int (f / 8)) (K prog w) (by
    rw [KTD.lookup_keyed]
    rcases inE_cases hf with rfl | rfl | rfl | rfl | rfl | rfl | rfl | rfl <;> rfl) (fun v hv => ?_) hs hg
  obtain ⟨t', rfl⟩ := hv.int_inv
  exact h t'
theorem lsh4 (h0 : 0 ≤ a) (h1 : a < 16) (h : ∀ t' k, Q (.int (a * 16) t') { s with toks := k }) : wpAny (model prog w) A (binaryOp .LShift (.int a t) (.int 4 u)) Q E s :=
  lshift_int_small (by decide) (by decide) (by omega) (by
    have e : a * 2 ^ (4 : Int).toNat = a * 16 := rfl
    rw [e]; exact h _ _)
theorem or_small : ∀ x y : Fin 16, Builtin.bitOr (((x.val : Nat) : Int) * 16) ((y.val : Nat) : Int) = ((x.val : Nat) : Int) * 16 + ((y.val : Nat) : Int) := by decide +kernel
theorem or16 (h0 : 0 ≤ a) (h1 : a < 16) (h2 : 0 ≤ b) (h3 : b < 16) (h : ∀ t' k, Q (.int (a * 16 + b) t') { s with toks := k }) : wpAny (model prog w) A (binaryOp .BitOr (.int (a * 16) t) (.int b u)) Q E s :=
  or_int (by
    have e := or_small ⟨a.toNat, by omega⟩ ⟨b.toNat, by omega⟩
    dsimp only at e
    rw [Int.toNat_of_nonneg h0, Int.toNat_of_nonneg h2] at e
    rw [e]; exact h _ _)
theorem and15 (h0 : 0 ≤ a) (h1 : a < 16) (h : ∀ t' k, Q (.int a t') { s with toks := k }) : wpAny (model prog w) A (binaryOp .BitAnd (.int a t) (.int 15 u)) Q E s :=
  and_int (by rw [bitAnd_m4, Int.emod_eq_of_lt h0 h1]; exact h _ _)
theorem and255 (h0 : 0 ≤ a) (h1 : a < 256) (h : ∀ t' k, Q (.int a t') { s with toks := k }) : wpAny (model prog w) A (binaryOp .BitAnd (.int a t) (.int 255 u)) Q E s :=
  and_int (by rw [bitAnd_m8, Int.emod_eq_of_lt h0 h1]; exact h _ _)
end
theorem oct_length (n : Nat) : ∀ a : Int, (oct n a).length = n := by
  induction n with
  | zero => intro a; rfl
  | succ n ih => intro a; rw [oct, List.length_append, ih]; rfl
theorem oct_drop (j m : Nat) : ∀ a : Int, (oct (j + m) a).drop j = oct m a := by
  induction m with
  | zero => intro a; exact List.drop_of_length_le (by rw [oct_length]; omega)
  | succ m ih =>
    intro a
    show (oct (j + m) (a / 256) ++ [a % 256]).drop j = oct m (a / 256) ++ [a % 256]
    rw [List.drop_append_of_le_length (by rw [oct_length]; omega), ih]
section
variable {prog : Program} {w : World} {A : Around} {E : Value → Shared → Prop} {s : Shared} {value slice : PySem.Expr} {b : Array UInt8} {t tn : Tok} {h₀ : Heap} {L : Addr} {m : PySem.Str → Option Value} {news : List (Addr × Obj)} {Q : Value → Shared → Prop} {n a : Int}
theorem slice_oct (hF : Fr h₀ L s.heap m) (hN : News h₀ L s.heap news) (hk : KBw.bInts b = oct 8 a) (h1 : 1 ≤ n) (h8 : n ≤ 8)
    (h : ∀ h' b' t' k, Fr h₀ L h' m → News h₀ L h' news → KBw.bInts b' = oct n.toNat a → Q (.bytes b' t') { s with heap := h', toks := k })
    (hs : subscripted slice false (.bytes b t) (.ref s.heap.objs.size) = operate [.ref s.heap.objs.size, .bytes b t] (getItem (.bytes b t) (.ref s.heap.objs.size)) := by with_unfolding_all rfl)
    (ht : ∀ r, letTemporaryGo value (.bytes b t) r = pure () := by intro _; with_unfolding_all rfl) :
    wpAny (model prog w) A (subscriptTail value slice (.bytes b t) (.ref s.heap.objs.size)) Q E { s with heap := s.heap.push { cls := .type "slice", data := .fields #[.int (-n) tn, .none, .none] } } := by
  refine KBc.slice_K hF hN hk (.int (-n) tn) .none (by rw [oct_length]; omega) (fun h' t' k F' N' e => h h' _ t' k F' N' ?_) hs ht
  have c : clipAt 8 (-n) = 8 - n.toNat := by
    have := clipAt_cast 8 (-n)
    rw [if_pos (by omega)] at this
    omega
  rw [e, oct_length]
  dsimp only [Option.elim]
  rw [c, List.take_of_length_le (by rw [List.length_drop, oct_length]; omega)]
  obtain ⟨k9, hk9⟩ : ∃ k9, n.toNat = k9 := ⟨_, rfl⟩
  rw [hk9]
  have := oct_drop (8 - k9) k9 a
  rw [show 8 - k9 + k9 = 8 by omega] at this
  exact this
end
local macro_rules | `(tactic| walk_at "subscriptTail") => `(tactic| (k_here; (with_reducible show wpAny _ _ (subscriptTail _ (Expr.Slice _ _ none _) (Value.bytes _ _) (Value.ref _)) _ _ _); (with_reducible rename Fr _ _ _ _ => F'); (with_reducible rename News _ _ _ _ => N'); (refine slice_oct (s := ⟨_, _, _, _, _⟩) F' N' (by assumption) (by omega) (by omega) ?_); intro h' b' t' k' F' N' hb'))
local macro_rules | `(tactic| walk_at "binaryOp LShift int int") => `(tactic| (k_here; (refine lsh4 (by omega) (by omega) ?_); intro t' k'))
local macro_rules | `(tactic| walk_at "binaryOp BitOr int int") => `(tactic| (k_here; (refine or16 (by omega) (by omega) (by omega) (by omega) ?_); intro t' k'))
local macro_rules | `(tactic| walk_at "binaryOp BitAnd int int") => `(tactic| (k_here; (with_reducible show wpAny _ _ (binaryOp _ _ (Value.int 15 _)) _ _ _); (refine and15 (by omega) (by omega) ?_); intro t' k'))
local macro_rules | `(tactic| walk_at "binaryOp BitAnd int int") => `(tactic| (k_here; (with_reducible show wpAny _ _ (binaryOp _ _ (Value.int 255 _)) _ _ _); (refine and255 (by omega) (by omega) ?_); intro t' k'))
local macro_rules | `(tactic| walk_at "call builtin:_struct.pack") => `(tactic| (k_here; (with_reducible show wpAny _ _ (call _ [Value.str (Str.ofString "B") _, Value.int _ _]) _ _ _); (refine pack_B _ _ _ (by omega) (by omega) ?_); intro b' t' k' hb'))
local macro_rules | `(tactic| walk_at "call builtin:_struct.pack") => `(tactic| (k_here; (with_reducible show wpAny _ _ (call _ [Value.str (Str.ofString ">q") _, Value.int _ _]) _ _ _); (refine pack_q _ _ _ (by omega) (by omega) ?_); intro b' t' k' hb'))
local macro_rules | `(tactic| walk_at "subscriptTail") => `(tactic| (k_here; (with_reducible show wpAny _ _ (subscriptTail _ _ (Value.ref _) (Value.int _ _)) _ _ _); k_dflt (first | refine item_map (ky57 (by k_in)) (by assumption) ?_ | refine item_map (ky58 (by k_in)) (by assumption) ?_); intro t'))
local macro_rules | `(tactic| walk_at "CompSrcT") => `(tactic| (k_here; k_dflt (refine LCt.CompSrcT.ledger (by rfl) (by k_asm) (by k_asm) (by k_mem) (by first | size_fits | exact Nat.le_of_ble_eq_true rfl) ?_; intro g'; (with_unfolding_all (show LCt.CompRestT _ _ _ _ _ _ _ _ _ _ _ _ _ _ _ _ 4 0 [] _)))))
local macro_rules | `(tactic| walk_at "CompEnd") => `(tactic| (k_dflt (refine' LCg.CompEnd.intro ?kF ?kN _ (fun p hp => hp) ?kO ?kS ?_; (case kF => k_asm); (case kN => k_asm); (case kO => assumption); (case kS => exact Or.inr ⟨_, by k_mem, rfl, _, rfl⟩))))
theorem ne_nil {prog : Program} {w : World} {A : Around} {E : Value → Shared → Prop} {s : Shared} {h₀ : Heap} {L a b : Addr} {news : List (Addr × Obj)} {Q : Value → Shared → Prop} {ka kb : Nat}
    (N : News h₀ L s.heap news) (ma : (a, listOf (List.toArray []) ka) ∈ news) (mb : (b, listOf (List.toArray []) kb) ∈ news) (hu : A.units + 64 < cLine) (h : Q (.bool false) s) : wpAny (model prog w) A (compareOp .NotEq (.ref a) (.ref b)) Q E s :=
  kqd_ne (ds := []) (es := []) (n₁ := []) (n₂ := []) (xs := []) (ys := []) N ma rfl rfl .nil (fun _ h => nomatch h) mb rfl rfl .nil (fun _ h => nomatch h) (fun _ h => nomatch h) (fun _ h => nomatch h) hu (by simpa using h)
/-- the ledger bears a DataFormatIdentifier at kd -/
def KindAt (P : Params) (news : List (Addr × Obj)) (kd : Addr) (p q : Int) : Prop :=
  ∃ (dx : Addr) (t1 t2 tp tq : Tok) (c : Nat), (kd, instObj 218 dx) ∈ news ∧
    (dx, dictOf [⟨PyData.keyHash P (Str.ofString "compression"), .str (Str.ofString "compression") t1, .int p tp⟩, ⟨PyData.keyHash P (Str.ofString "encryption"), .str (Str.ofString "encryption") t2, .int q tq⟩] c) ∈ news
/-- what a block is to hold -/
def laid (x y f g p q : Int) : List Int := [p * 16 + q, g / 8 * 16 + f / 8] ++ oct (f / 8).toNat x ++ oct (g / 8).toNat y
def LaidOut (x y f g p q : Int) (r : Value) (tl : List (Addr × Obj)) : Prop := ∃ l vs n, r = .ref l ∧ tl = [(l, listOf (List.toArray vs) n)] ∧ IntsAre vs (laid x y f g p q)
local macro_rules | `(tactic| walk_at "compareOp NotEq ref ref") => `(tactic| (k_here; k_dflt (refine ne_nil (by k_asm) (by k_mem) (by k_mem) (by k_units) ?_)))
local macro_rules | `(tactic| walk_at "eval ListComp") => `(tactic| (k_here; (with_reducible show wpAny _ _ (eval (.ListComp (.Name _ _) [⟨.Name _ _, _, [], 0⟩, ⟨.Name _ _, .Name _ _, [], 0⟩] _ _) _) _ _ _); k_dflt (refine flat_comp (by k_asm) (by decide) (by decide) (by rfl) (by decide) (by rfl) (by rfl) (by decide) (by decide) ?_)))
theorem flat_laid {A : Around} {h₀ : Heap} {L : Addr} {m : PySem.Str → Option Value} {Q : Value → Shared → Prop} {s₁ : Shared} {ax : Addr} {b1 b2 b3 b4 : Array UInt8} {t1 t2 t3 t4 : Tok} {k : Nat} {news : List (Addr × Obj)} {x y f g p q : Int}
    (hh : A.handled = none) (F : Fr h₀ L s₁.heap m) (N : News h₀ L s₁.heap news) (hm : (ax, listOf #[.bytes b1 t1, .bytes b2 t2, .bytes b3 t3, .bytes b4 t4] k) ∈ news)
    (h1 : KBw.bInts b1 = [p * 16 + q]) (h2 : KBw.bInts b2 = [g / 8 * 16 + f / 8]) (h3 : KBw.bInts b3 = oct (f / 8).toNat x) (h4 : KBw.bInts b4 = oct (g / 8).toNat y) (hf : f / 8 ≤ 8) (hg : g / 8 ≤ 8)
    (ret : ∀ (D : Addr) h' tk vs n, Fr h₀ L h' m → News h₀ L h' ((D, listOf (List.toArray vs) n) :: news) → (∀ q ∈ news, q.1 < D) → IntsAre vs (laid x y f g p q) → Q (.ref D) { s₁ with heap := h', toks := tk }) :
    FlatSrc A h₀ L m Q (.ref ax) s₁ := by
  have e : octetsOf [(b1, t1), (b2, t2), (b3, t3), (b4, t4)] = laid x y f g p q := by
    show KBw.bInts b1 ++ (KBw.bInts b2 ++ (KBw.bInts b3 ++ (KBw.bInts b4 ++ []))) = _
    rw [h1, h2, h3, h4]
    unfold laid
    simp
  refine ⟨ax, [(b1, t1), (b2, t2), (b3, t3), (b4, t4)], k, news, rfl, hh, F, N, hm, ?_, ?_⟩
  · rw [e]
    unfold laid
    rw [List.length_append, List.length_append, oct_length, oct_length, PySem.sizeLine_eq]
    simp only [List.length_cons, List.length_nil]
    omega
  · rw [e]; exact ret
local macro_rules | `(tactic| walk_at "FlatSrc ref") => `(tactic| (k_here; k_dflt (refine flat_laid (by rfl) (by k_asm) (by k_asm) (by k_mem) (by assumption) (by assumption) (by assumption) (by assumption) (by omega) (by omega) ?_); intro D' h' tk' vs' n' F' N' l1' hi'))
theorem laid_does (w : World) (news : List (Addr × Obj)) (loc kd : Addr) (x y f g p q : Int) (hL : LocAt w.params news loc x y f g) (hK : KindAt w.params news kd p q)
    (hx : 0 ≤ x) (hx2 : x < 9223372036854775808) (hy : 0 ≤ y) (hy2 : y < 9223372036854775808) (hf : inE f = true) (hg : inE g = true) (hp : 0 ≤ p) (hp2 : p < 16) (hq : 0 ≤ q) (hq2 : q < 16) :
    Does w 269 9 news [.ref loc, .ref kd] (LaidOut x y f g p q) := by
  unfold Does
  intro pg loose mean mg mb dp un cn cs a ccd cl outer A₀ base h₀ L m s Q E B F X N T hk hd hu hret
  obtain ⟨dx, ya, dy, t1, t2, t3, t4, t5, t6, t7, tx, ty, tf, tg, v1, v2, c1, c2, m1, m2, m3, m4⟩ := hL
  obtain ⟨kx, t8, t9, tp, tq, c3, m5, m6⟩ := hK
  have hfr := inE_range hf
  have hgr := inE_range hg
  refine wpAny_call ?_
  k_dflt cell_enter
  iterate 225 (first | (k_unfold; (try dsimp only)) | walk1 | (dsimp only; walk1))
  k_steps
  rename Nat => n9
  refine hret _ [(_, listOf (List.toArray _) n9)] _ _ (by k_asm) (cb_drop (by k_asm) ?_) (low_one fun q hq => ?_) ⟨_, _, _, rfl, rfl, by assumption⟩
  · intro p hp
    rcases List.mem_append.mp hp with hp | hp
    · rw [List.mem_singleton.mp hp]; exact .head _
    · exact .tail _ (.tail _ (.tail _ (.tail _ hp)))
  · rename (∀ q ∈ ((_ :: _) : List (Addr × Obj)), q.1 < (_ : Addr)) => l9
    exact l9 q (.tail _ (.tail _ (.tail _ hq)))
end Mine
end
section
open PySem PySem.W PyProof.Rows PySem.Calls
set_option maxRecDepth 100000
set_option Elab.async false
namespace Mine
/-- how a turn of a loop over a ledger's list ends -/
def OwnPost (h₀ : Heap) (L I : Addr) (oI : Obj) (Jn : (PySem.Str → Option Value) → List (Addr × Obj) → Prop) (s₁ : Shared) (Q : Flow → Shared → Prop) (f : Flow) (s₂ : Shared) : Prop :=
  match f with
  | .ret v => Q (.ret v) s₂
  | .brk => Q .next s₂
  | _ => ∃ h' tk m' nx, s₂ = { s₁ with heap := h', toks := tk } ∧ Fr h₀ L h' m' ∧ News h₀ L h' ((I, oI) :: nx) ∧ (∀ p ∈ nx, p.1 ≠ I) ∧ Jn m' nx
section
variable {prog : Program} {w : World} {A : Around} {E : Value → Shared → Prop} {s : Shared} {env : Env} {h₀ : Heap} {x : PySem.Str} {body : List Stmt} {Q : Flow → Shared → Prop}
theorem own_end {L I : Addr} {oI : Obj} {Jn : (PySem.Str → Option Value) → List (Addr × Obj) → Prop} {s₁ : Shared} {h' : Heap} {tk : Nat} {m' : PySem.Str → Option Value} (nx : List (Addr × Obj))
    (F : Fr h₀ L h' m') (N : News h₀ L h' ((I, oI) :: nx)) (ha : ∀ p ∈ nx, p.1 ≠ I) (hj : Jn m' nx) : OwnPost h₀ L I oI Jn s₁ Q .next { s₁ with heap := h', toks := tk } :=
  ⟨h', tk, m', nx, rfl, F, N, ha, hj⟩
/-- a loop over a list that the ledger bears, by an invariant over the turn's number, the frame's map and the ledger -/
theorem own_list {ax : Addr} {vs : List Value} {k : Nat} {m₀ : PySem.Str → Option Value} {news : List (Addr × Obj)} (J : Nat → (PySem.Str → Option Value) → List (Addr × Obj) → Prop)
    (hh : A.handled = none) (F : Fr h₀ env.locals s.heap m₀) (N : News h₀ env.locals s.heap news) (hm : (ax, listOf vs.toArray k) ∈ news) (hj : J 0 m₀ news)
    (hJ : ∀ i m nx, J i m nx → (ax, listOf vs.toArray k) ∈ nx)
    (turn : ∀ i v m₁ nx h tk I oI, vs[i]? = some v → J i m₁ nx → (∀ p ∈ nx, p.1 ≠ I) → Fr h₀ env.locals h (fun y => if y = x then some v else m₁ y) → News h₀ env.locals h ((I, oI) :: nx) →
      wpAny (model prog w) A (execs body env) (OwnPost h₀ env.locals I oI (J (i + 1)) { s with heap := h, toks := tk } Q) E { s with heap := h, toks := tk })
    (done : ∀ m₁ nx h tk, J vs.length m₁ nx → Fr h₀ env.locals h m₁ → News h₀ env.locals h nx → Q .next { s with heap := h, toks := tk }) :
    wpAny (model prog w) A (pyIter (.ref ax)) (fun it s₂ => LoopAtV prog w A h₀ env x body Q E it s₂) E s := by
  have hls : s.heap.IsList ax vs.toArray := ⟨_, (N _ hm).1, rfl, k, rfl⟩
  have hlt : ax < s.heap.objs.size := Heap.lt_size (N _ hm).1
  have hne : ax ≠ s.heap.objs.size := Nat.ne_of_lt hlt
  refine wpAny_pyIter_list hls ?_
  have W := Walks.list (prog := prog) (w := w) hh s.heap.objs.size ax hne vs.toArray
  refine ⟨s.heap.objs.size, _, _, _, _, _, m₀, news, J, rfl, W, ?_, ?_, ?_, ⟨⟨_, Heap.get?_push_size _ rfl, rfl, rfl⟩, hls.at fun o e => Heap.get?_push_of_some _ e⟩, F.push _, (fun p hp => ⟨Heap.get?_push_of_some _ (N p hp).1, (N p hp).2⟩), hj, ?_, ?_⟩
  · intro h
    rcases List.mem_cons.mp h with e | h
    · exact absurd F.ns.lt (e ▸ Nat.lt_irrefl _)
    · exact (N _ hm).2.1 (List.mem_singleton.mp h).symm
  · intro b hb
    rw [List.mem_singleton.mp hb]
    exact next_is_new F
  · intro p hp hI
    exact absurd (Heap.lt_size (N p hp).1) ((List.mem_singleton.mp hI) ▸ Nat.lt_irrefl _)
  · rintro i v m₁ news₁ s₁ own ⟨hh', tk', rfl⟩ hin hP hJ1 hoff h5 _ h7 hs F₁ N₁
    obtain ⟨oI, hoI, _⟩ := hs.1
    have hax := hJ i _ _ hJ1
    have own1 : ∀ p ∈ own, p = (s.heap.objs.size, oI) ∨ p = (ax, listOf vs.toArray k) := fun p hp => by
      have a := N₁ p (List.mem_append.mpr (.inl hp))
      have c := a.1
      rcases List.mem_cons.mp (h5 p hp) with b | b
      · rw [b] at c
        exact .inl (Prod.ext b (Option.some.inj (c.symm.trans hoI)))
      · have b := List.mem_singleton.mp b
        have d := (N₁ _ (List.mem_append.mpr (.inr hax))).1
        rw [b] at c
        exact .inr (Prod.ext b (Option.some.inj (c.symm.trans d)))
    have NI : News h₀ env.locals hh' ((s.heap.objs.size, oI) :: news₁) := fun p hp => by
      rcases List.mem_cons.mp hp with rfl | hp
      · exact N₁ _ (List.mem_append.mpr (.inl (h7 _ List.mem_cons_self (next_is_new F) oI hoI)))
      · exact N₁ p (List.mem_append.mpr (.inr hp))
    refine wpAny_mono (turn i v m₁ news₁ hh' tk' s.heap.objs.size oI (by simpa using hP) hJ1 (fun p hp e => hoff p hp (List.mem_singleton.mpr e)) F₁ NI) (fun f s₂ p => ?_) fun _ _ e => e
    have fin : (∃ h' tk m' nx, s₂ = { s with heap := h', toks := tk } ∧ Fr h₀ env.locals h' m' ∧ News h₀ env.locals h' ((s.heap.objs.size, oI) :: nx) ∧ (∀ p ∈ nx, p.1 ≠ s.heap.objs.size) ∧ J (i + 1) m' nx) → LoopStepU h₀ env.locals [s.heap.objs.size] own (J (i + 1)) { s with heap := hh', toks := tk' } .next s₂ := by
      rintro ⟨h', tk, m', nx, e, F', N', hn, hj'⟩
      refine ⟨rfl, h', tk, m', nx, e, F', fun p hp => ?_, fun p hp e => hn p hp (List.mem_singleton.mp e), hj'⟩
      rcases List.mem_append.mp hp with hp | hp
      · rcases own1 p hp with rfl | rfl
        · exact N' _ List.mem_cons_self
        · exact N' _ (List.mem_cons_of_mem _ (hJ _ _ _ hj'))
      · exact N' p (List.mem_cons_of_mem _ hp)
    cases f with
    | ret v => exact .ret p
    | brk => exact .brk p
    | next => exact .next (fin p)
    | cont => exact .cont (fin p)
  · rintro h' tk m' news' F' N' _ hj'
    refine done m' news' h' tk ?_ F' N'
    simpa using hj'
theorem own_range {r : Addr} {b : Int} {t₀ u₀ v₀ : Tok} {n : Nat} {m₀ : PySem.Str → Option Value} {news : List (Addr × Obj)} (J : Nat → (PySem.Str → Option Value) → List (Addr × Obj) → Prop)
    (hh : A.handled = none) (hr : IsRange s.heap r 0 b 1 t₀ u₀ v₀) (hb : b = (n : Int)) (hb2 : n ≤ 1000) (F : Fr h₀ env.locals s.heap m₀) (N : News h₀ env.locals s.heap news) (hj : J 0 m₀ news)
    (turn : ∀ (i : Nat) t m₁ nx h tk I oI, i < n → J i m₁ nx → (∀ p ∈ nx, p.1 ≠ I) → Fr h₀ env.locals h (fun y => if y = x then some (.int (i : Int) t) else m₁ y) → News h₀ env.locals h ((I, oI) :: nx) →
      wpAny (model prog w) A (execs body env) (OwnPost h₀ env.locals I oI (J (i + 1)) { s with heap := h, toks := tk } Q) E { s with heap := h, toks := tk })
    (done : ∀ m₁ nx h tk, J n m₁ nx → Fr h₀ env.locals h m₁ → News h₀ env.locals h nx → Q .next { s with heap := h, toks := tk }) :
    wpAny (model prog w) A (pyIter (.ref r)) (fun it s₂ => LoopAtV prog w A h₀ env x body Q E it s₂) E s := by
  have hsz : Builtin.Range.rangeSize 0 b 1 = (n : Int) := by rw [rangeSize_nat, hb]; omega
  refine wpAny_pyIter_range hr (small_one (by decide) (by decide) (by omega) (by omega)) ?_
  have W : Walks prog w A s.heap.objs.size [s.heap.objs.size] [s.heap.objs.size] n (fun i v => i < n ∧ ∃ t, v = .int (0 + i * 1) t)
      (fun i h => IsRangeIter h s.heap.objs.size (0 + (i : Nat) * 1) ((n : Int) - (i : Nat)) 1) := (Walks.range hh _ 0 1 n).bound
  refine ⟨s.heap.objs.size, _, _, _, _, _, m₀, news, J, rfl, W, ?_, ?_, ?_, (by show IsRangeIter _ _ _ _ _; rw [hsz]; simpa using Heap.get?_push_size _ rfl), F.push _, (fun p hp => ⟨Heap.get?_push_of_some _ (N p hp).1, (N p hp).2⟩), hj, ?_, ?_⟩
  · intro hm
    exact absurd F.ns.lt ((List.mem_singleton.mp hm) ▸ Nat.lt_irrefl _)
  · intro b hb
    rw [List.mem_singleton.mp hb]
    exact next_is_new F
  · intro p hp hI
    exact absurd (Heap.lt_size (N p hp).1) ((List.mem_singleton.mp hI) ▸ Nat.lt_irrefl _)
  · rintro i v m₁ news₁ s₁ own ⟨hh', tk', rfl⟩ hin ⟨_, t, rfl⟩ hJ1 hoff h5 _ h7 hs F₁ N₁
    have hoI : ∃ oI, hh'.get? s.heap.objs.size = some oI := ⟨_, hs⟩
    obtain ⟨oI, hoI⟩ := hoI
    have own1 : ∀ p ∈ own, p = (s.heap.objs.size, oI) := fun p hp => by
      have a := (N₁ p (List.mem_append.mpr (.inl hp))).1
      have b := List.mem_singleton.mp (h5 p hp)
      rw [b] at a
      exact Prod.ext b (Option.some.inj (a.symm.trans hoI))
    have NI : News h₀ env.locals hh' ((s.heap.objs.size, oI) :: news₁) := fun p hp => by
      rcases List.mem_cons.mp hp with rfl | hp
      · exact N₁ _ (List.mem_append.mpr (.inl (h7 _ List.mem_cons_self (next_is_new F) oI hoI)))
      · exact N₁ p (List.mem_append.mpr (.inr hp))
    have e9 : (0 : Int) + (i : Int) * 1 = (i : Int) := by omega
    rw [e9] at F₁
    refine wpAny_mono (turn i t m₁ news₁ hh' tk' s.heap.objs.size oI hin hJ1 (fun p hp e => hoff p hp (List.mem_singleton.mpr e)) F₁ NI) (fun f s₂ p => ?_) fun _ _ e => e
    have fin : (∃ h' tk m' nx, s₂ = { s with heap := h', toks := tk } ∧ Fr h₀ env.locals h' m' ∧ News h₀ env.locals h' ((s.heap.objs.size, oI) :: nx) ∧ (∀ p ∈ nx, p.1 ≠ s.heap.objs.size) ∧ J (i + 1) m' nx) → LoopStepU h₀ env.locals [s.heap.objs.size] own (J (i + 1)) { s with heap := hh', toks := tk' } .next s₂ := by
      rintro ⟨h', tk, m', nx, e, F', N', hn, hj'⟩
      refine ⟨rfl, h', tk, m', nx, e, F', fun p hp => ?_, fun p hp e => hn p hp (List.mem_singleton.mp e), hj'⟩
      rcases List.mem_append.mp hp with hp | hp
      · rw [own1 p hp]; exact N' _ List.mem_cons_self
      · exact N' p (List.mem_cons_of_mem _ hp)
    cases f with
    | ret v => exact .ret p
    | brk => exact .brk p
    | next => exact .next (fin p)
    | cont => exact .cont (fin p)
  · rintro h' tk m' news' F' N' _ hj'
    exact done m' news' h' tk hj' F' N'
theorem zero_turn {ax : Addr} {k : Nat} {m₀ : PySem.Str → Option Value} {news : List (Addr × Obj)}
    (hh : A.handled = none) (F : Fr h₀ env.locals s.heap m₀) (N : News h₀ env.locals s.heap news) (hm : (ax, listOf (List.toArray []) k) ∈ news)
    (done : ∀ h tk, Fr h₀ env.locals h m₀ → News h₀ env.locals h news → Q .next { s with heap := h, toks := tk }) :
    wpAny (model prog w) A (pyIter (.ref ax)) (fun it s₂ => LoopAtV prog w A h₀ env x body Q E it s₂) E s := by
  refine own_list (vs := []) (k := k) (fun _ m nx => m = m₀ ∧ nx = news) hh F N hm ⟨rfl, rfl⟩ (fun _ _ _ h => by rw [h.2]; exact hm) ?_ ?_
  · intro i v m₁ nx h tk I oI hv
    cases hv
  · rintro m₁ nx h tk ⟨rfl, rfl⟩ F₁ N₁
    exact done h tk F₁ N₁
theorem one_turn {ax : Addr} {v : Value} {k : Nat} {m₀ : PySem.Str → Option Value} {news : List (Addr × Obj)} (J1 : (PySem.Str → Option Value) → List (Addr × Obj) → Prop)
    (hh : A.handled = none) (F : Fr h₀ env.locals s.heap m₀) (N : News h₀ env.locals s.heap news) (hm : (ax, listOf (List.toArray [v]) k) ∈ news) (hJ : ∀ m nx, J1 m nx → (ax, listOf (List.toArray [v]) k) ∈ nx)
    (turn : ∀ h tk I oI, (∀ p ∈ news, p.1 ≠ I) → Fr h₀ env.locals h (fun y => if y = x then some v else m₀ y) → News h₀ env.locals h ((I, oI) :: news) →
      wpAny (model prog w) A (execs body env) (OwnPost h₀ env.locals I oI J1 { s with heap := h, toks := tk } Q) E { s with heap := h, toks := tk })
    (done : ∀ m₁ nx h tk, J1 m₁ nx → Fr h₀ env.locals h m₁ → News h₀ env.locals h nx → Q .next { s with heap := h, toks := tk }) :
    wpAny (model prog w) A (pyIter (.ref ax)) (fun it s₂ => LoopAtV prog w A h₀ env x body Q E it s₂) E s := by
  refine own_list (vs := [v]) (k := k) (fun i m nx => (i = 0 ∧ m = m₀ ∧ nx = news) ∨ (i = 1 ∧ J1 m nx)) hh F N hm (.inl ⟨rfl, rfl, rfl⟩) ?_ ?_ ?_
  · rintro i m nx (⟨_, _, rfl⟩ | ⟨_, h⟩)
    · exact hm
    · exact hJ m nx h
  · rintro i u m₁ nx h tk I oI hv (⟨rfl, rfl, rfl⟩ | ⟨rfl, _⟩) hI F₁ N₁
    · obtain rfl : v = u := Option.some.inj hv
      refine wpAny_mono (turn h tk I oI hI F₁ N₁) (fun f s₂ p => ?_) fun _ _ e => e
      cases f with
      | ret v => exact p
      | brk => exact p
      | next =>
        obtain ⟨h', tk', m', nx', e, F', N', hn, hj⟩ := p
        exact ⟨h', tk', m', nx', e, F', N', hn, .inr ⟨rfl, hj⟩⟩
      | cont =>
        obtain ⟨h', tk', m', nx', e, F', N', hn, hj⟩ := p
        exact ⟨h', tk', m', nx', e, F', N', hn, .inr ⟨rfl, hj⟩⟩
    · cases hv
  · rintro m₁ nx h tk (⟨h0, _⟩ | ⟨_, hj⟩) F₁ N₁
    · cases h0
    · exact done m₁ nx h tk hj F₁ N₁
end
end Mine
end
section
open PySem PySem.W PyProof.Rows PySem.Calls
set_option Elab.async false
set_option maxRecDepth 100000
set_option maxHeartbeats 8000000
namespace Mine
theorem fillK5 : (PySem.Challenge.rw_fe0335_01, Mine.hd.heap_39) = (PySem.Challenge.rw_fe0335_01, Mine.hd.heap_39) := by
  k_fill
  rfl
local macro_rules | `(tactic| k_steps) => `(tactic| repeat' (first | (k_unfold; (try dsimp only)) | walk1 | (dsimp only; walk1) | (leave1; walk_say "STEP leave1"; (try dsimp only)) | fail "no step"))
local macro_rules | `(tactic| k_room) => `(tactic| ((try simp only [depth_under_make, depth_under_kw, depth_in1, depth_deeper, depth_mark]); (try dsimp only [ktrTop]); omega))
local macro_rules | `(tactic| k_units) => `(tactic| ((try simp only [units_deeper, units_make2, units_in1, Around.mark_units]); (try dsimp only [ktrTop]); omega))
/-- the number that octets write -/
def num (ns : List Int) : Int := ns.foldl (fun a b => a * 256 + b) 0
theorem num_app (ns : List Int) (b : Int) : num (ns ++ [b]) = num ns * 256 + b := by
  unfold num
  rw [List.foldl_append]
  rfl
/-- all octets -/
def Octs (ns : List Int) : Prop := ∀ n ∈ ns, 0 ≤ n ∧ n < 256
theorem num_range (j : Nat) : ∀ ns : List Int, Octs ns → ns.length = j → 0 ≤ num ns ∧ num ns < 256 ^ j := by
  induction j with
  | zero =>
    intro ns _ h
    rw [List.length_eq_zero_iff.mp h]
    exact ⟨by decide, by decide⟩
  | succ j ih =>
    intro ns ho h
    have hne : ns ≠ [] := by intro e; rw [e] at h; exact Nat.noConfusion h
    have e := List.dropLast_concat_getLast hne
    have h1 := ih ns.dropLast (fun n hn => ho n (List.dropLast_subset ns hn)) (by rw [List.length_dropLast, h]; rfl)
    have h2 := ho _ (List.getLast_mem hne)
    rw [← e, num_app, Int.pow_succ]
    omega
theorem pow_le8 : ∀ j : Fin 9, (256 : Int) ^ j.val ≤ 18446744073709551616 := by decide
theorem num_small {ns : List Int} (ho : Octs ns) (h : ns.length ≤ 8) : 0 ≤ num ns ∧ num ns < 18446744073709551616 := by
  have h1 := num_range ns.length ns ho rfl
  refine ⟨h1.1, Int.lt_of_lt_of_le h1.2 ?_⟩
  exact pow_le8 ⟨ns.length, by omega⟩
theorem map_at {h₀ h : Heap} {L : Addr} {m : PySem.Str → Option Value} {y z : PySem.Str} {v u : Value} (F : Fr h₀ L h (fun a => if a = y then some v else m a)) (hz : m z = some u) : Fr h₀ L h (fun a => if a = y then some v else if a = z then some u else m a) := by
  have e : (fun a => if a = y then some v else if a = z then some u else m a) = fun a => if a = y then some v else m a := by
    funext a
    by_cases h1 : a = y
    · simp [h1]
    · simp only [if_neg h1]
      by_cases h2 : a = z
      · rw [if_pos h2, h2, hz]
      · rw [if_neg h2]
  rw [e]; exact F
theorem map_one {h₀ h : Heap} {L : Addr} {m : PySem.Str → Option Value} {z : PySem.Str} {u : Value} (F : Fr h₀ L h m) (hz : m z = some u) : Fr h₀ L h (fun a => if a = z then some u else m a) := by
  have e : (fun a => if a = z then some u else m a) = m := by
    funext a
    by_cases h2 : a = z
    · rw [if_pos h2, h2, hz]
    · rw [if_neg h2]
  rw [e]; exact F
theorem number_does (w : World) (news : List (Addr × Obj)) (l : Addr) (vs : List Value) (k : Nat) (ns : List Int) (hm : (l, listOf (List.toArray vs) k) ∈ news) (hi : IntsAre vs ns) (ho : Octs ns) (hl : ns.length ≤ 8) :
    Does w 257 3 news [.ref l] (fun r tl => tl = [] ∧ ∃ t', r = .int (num ns) t') := by
  unfold Does
  intro p loose mean mg mb dp un cn cs a ccd cl outer A₀ base h₀ L m s Q E B F X N T hk hd hu hret
  refine wpAny_call ?_
  k_dflt cell_enter
  iterate 6 (first | (k_unfold; (try dsimp only)) | walk1 | (dsimp only; walk1))
  rename Fr _ _ _ (fun y => if y = "number" then _ else _) => F1
  rename News _ _ _ _ => N1
  with_unfolding_all refine' For_invVF F1 ?k1 ?k2 ?_
  case k1 => exact rfl
  case k2 => exact rfl
  k_whole
  walk1
  refine own_list (vs := vs) (k := k) (fun i m nx => nx = news ∧ ∃ t, m (Str.ofString "number") = some (.int (num (ns.take i)) t)) (by rfl) F1 N1 hm ⟨rfl, _, rfl⟩ (fun i m nx h => by rw [h.1]; exact hm) ?_ ?_
  · rintro i v m₁ nx h' tk' I oI hv ⟨rfl, t9, hn9⟩ hI F2 N2
    have hil : i < ns.length := by
      rw [← hi.length]
      exact (List.getElem?_eq_some_iff.mp hv).1
    obtain ⟨t8, hx⟩ := hi.get i ns[i] (by simp [hil])
    have e8 : v = .int ns[i] t8 := Option.some.inj (hv.symm.trans hx)
    subst e8
    have hb := ho _ (List.getElem_mem hil)
    have htk : ns.take (i + 1) = ns.take i ++ [ns[i]] := by rw [List.take_add_one, List.getElem?_eq_getElem hil]; rfl
    have hs9 := num_small (ns := ns.take i) (fun n hn => ho n (List.mem_of_mem_take hn)) (by rw [List.length_take]; omega)
    have F3 := map_at F2 (y := Str.ofString "octet") (z := Str.ofString "number") hn9
    clear F2 F1 N1 N F
    have hfin : num (ns.take (i + 1)) = num (ns.take i) * 256 + ns[i] := by rw [htk, num_app]
    rw [hfin]
    clear hfin
    generalize num (ns.take i) = q9 at hs9 F3 hn9
    k_steps
    exact own_end nx (by k_asm) (by k_asm) hI ⟨rfl, _, rfl⟩
  · rintro m₁ nx h' tk' ⟨rfl, t9, hn9⟩ F2 N2
    have F3 := map_one F2 hn9
    rw [show ns.take vs.length = ns by rw [hi.length, List.take_length]] at F3
    clear F2 F1 N1 N F hn9
    k_steps
    exact hret _ [] _ _ (by k_asm) (by k_asm) (fun _ _ _ h9 => nomatch h9) ⟨rfl, _, rfl⟩
end Mine
end
section
open PySem PySem.W PyProof.Rows PySem.Calls
set_option Elab.async false
set_option maxRecDepth 100000
set_option maxHeartbeats 8000000
namespace Mine
theorem fillK6 : (PySem.Challenge.rw_fe0335_01, Mine.hd.heap_39) = (PySem.Challenge.rw_fe0335_01, Mine.hd.heap_39) := by
  k_fill
  rfl
local macro_rules | `(tactic| k_steps) => `(tactic| repeat' (first | (k_unfold; (try dsimp only)) | walk1 | (dsimp only; walk1) | (leave1; walk_say "STEP leave1"; (try dsimp only)) | fail "no step"))
local macro_rules | `(tactic| k_room) => `(tactic| ((try simp only [depth_under_make, depth_under_kw, depth_in1, depth_deeper, depth_mark]); (try dsimp only [ktrTop]); omega))
local macro_rules | `(tactic| k_units) => `(tactic| ((try simp only [units_deeper, units_make2, units_in1, Around.mark_units]); (try dsimp only [ktrTop]); omega))
/-- a block: two nibbles, an address's octets, a size's octets -/
structure Blk where
  p : Int
  q : Int
  A : List Int
  B : List Int
def Blk.Ok (b : Blk) : Prop := (0 ≤ b.p ∧ b.p < 16 ∧ 0 ≤ b.q ∧ b.q < 16) ∧ (Octs b.A ∧ 1 ≤ b.A.length ∧ b.A.length ≤ 8) ∧ (Octs b.B ∧ 1 ≤ b.B.length ∧ b.B.length ≤ 8)
def Blk.wire (b : Blk) : List Int := [b.p * 16 + b.q, (b.B.length : Int) * 16 + (b.A.length : Int)] ++ b.A ++ b.B
def Blk.row (b : Blk) : W.Dat := .list [.int b.p, .int b.q, .int (b.A.length : Int), .int (b.B.length : Int), .int (num b.A), .int (num b.B)]
def wires (bs : List Blk) : List Int := bs.flatMap Blk.wire
theorem wires_mid (ds : List Blk) (b : Blk) (es : List Blk) : wires (ds ++ b :: es) = wires ds ++ (b.wire ++ wires es) := by
  unfold wires
  rw [List.flatMap_append, List.flatMap_cons]
theorem wires_len (ds : List Blk) : ds.length ≤ (wires ds).length := by
  induction ds with
  | nil => exact Nat.le_refl _
  | cons b ds ih =>
    unfold wires at ih ⊢
    rw [List.flatMap_cons, List.length_append, List.length_cons]
    have : 1 ≤ b.wire.length := by
      unfold Blk.wire
      simp
    omega
theorem dint {news : List (Addr × Obj)} {a b : Int} {t : Tok} (h : a = b) : DatIn news (.int a t) (.int b) := h ▸ .int a t
structure Rd where
  ds : List Blk
  es : List Blk
  pl : Int
  tp : Tok
  vs : List Value
  k : Nat
  tl : List (Addr × Obj)
theorem blk_facts (bs ds : List Blk) (b : Blk) (es : List Blk) (hbs : bs = ds ++ b :: es) (pl : Int) (hpl : pl = ((wires ds).length : Int)) :
    (wires bs)[pl.toNat]? = some (b.p * 16 + b.q) ∧ (wires bs)[(pl + 1).toNat]? = some ((b.B.length : Int) * 16 + (b.A.length : Int)) ∧
    ((wires bs).drop (pl + 2).toNat).take (min (pl + 2 + (b.A.length : Int)).toNat (wires bs).length - (pl + 2).toNat) = b.A ∧
    ((wires bs).drop (pl + 2 + (b.A.length : Int)).toNat).take (min (pl + 2 + (b.A.length : Int) + (b.B.length : Int)).toNat (wires bs).length - (pl + 2 + (b.A.length : Int)).toNat) = b.B ∧
    (wires (ds ++ [b])).length = (wires ds).length + 2 + b.A.length + b.B.length ∧ (wires bs).length = (wires ds).length + 2 + b.A.length + b.B.length + (wires es).length := by
  subst hbs
  rw [wires_mid]
  generalize hw : wires ds = u at *
  generalize wires es = v
  have e1 : wires (ds ++ [b]) = u ++ b.wire := by
    rw [wires_mid, hw]
    show u ++ (b.wire ++ []) = _
    rw [List.append_nil]
  have e2 : u ++ (b.wire ++ v) = u ++ ([b.p * 16 + b.q, (b.B.length : Int) * 16 + (b.A.length : Int)] ++ (b.A ++ (b.B ++ v))) := by
    unfold Blk.wire
    simp
  have l1 : b.wire.length = 2 + b.A.length + b.B.length := by
    unfold Blk.wire
    simp
    omega
  rw [e1, List.length_append, List.length_append, List.length_append, l1, e2]
  have p0 : pl.toNat = u.length := by omega
  have p1 : (pl + 1).toNat = u.length + 1 := by omega
  have p2 : (pl + 2).toNat = u.length + 2 := by omega
  have p3 : (pl + 2 + (b.A.length : Int)).toNat = u.length + 2 + b.A.length := by omega
  have p4 : (pl + 2 + (b.A.length : Int) + (b.B.length : Int)).toNat = u.length + 2 + b.A.length + b.B.length := by omega
  rw [p0, p1, p2, p3, p4]
  refine ⟨?_, ?_, ?_, ?_, by omega, by omega⟩
  · rw [List.getElem?_append_right (Nat.le_refl _), Nat.sub_self]; rfl
  · rw [List.getElem?_append_right (by omega), show u.length + 1 - u.length = 1 by omega]; rfl
  · have ed : (u ++ ([b.p * 16 + b.q, (b.B.length : Int) * 16 + (b.A.length : Int)] ++ (b.A ++ (b.B ++ v)))).drop (u.length + 2) = b.A ++ (b.B ++ v) := by
      rw [← List.append_assoc]
      exact List.drop_left' (by simp)
    rw [ed]
    refine List.take_left' ?_
    omega
  · have ed : (u ++ ([b.p * 16 + b.q, (b.B.length : Int) * 16 + (b.A.length : Int)] ++ (b.A ++ (b.B ++ v)))).drop (u.length + 2 + b.A.length) = b.B ++ v := by
      rw [← List.append_assoc, ← List.append_assoc]
      refine List.drop_left' ?_
      rw [List.length_append, List.length_append]
      rfl
    rw [ed]
    refine List.take_left' ?_
    omega
section
variable {prog : Program} {w : World} {A : Around} {E : Value → Shared → Prop} {s : Shared} {Q : Value → Shared → Prop} {h₀ : Heap} {L l : Addr} {m : PySem.Str → Option Value} {news : List (Addr × Obj)} {value slice : PySem.Expr} {vs : List Value} {ns ms : List Int} {n : Nat} {k a b : Int} {t u : Tok}
theorem item_known {x : Int} (N : News h₀ L s.heap news) (hm : (l, listOf vs.toArray n) ∈ news) (hi : IntsAre vs ns) (h0 : 0 ≤ k) (hfit : k < 2 ^ 63) (hx : ns[k.toNat]? = some x) (h : ∀ t, Q (.int x t) s)
    (hs : subscripted slice false (.ref l) (.int k u) = operate [.ref l, .int k u] (getItem (.ref l) (.int k u)) := by with_unfolding_all rfl) :
    wpAny (model prog w) A (subscriptTail value slice (.ref l) (.int k u)) Q E s := by
  have hlt : k.toNat < ns.length := (List.getElem?_eq_some_iff.mp hx).1
  refine ksa_sub N hm hi h0 (by omega) hfit (fun t => ?_) hs
  rw [List.getD_eq_getElem?_getD, hx]
  exact h t
theorem append_led {D : Addr} {v : Value} (keep : List (Addr × Obj)) (F : Fr h₀ L s.heap m) (N : News h₀ L s.heap news) (hm : (D, listOf vs.toArray n) ∈ news) (hk : ∀ p ∈ keep, p ∈ news ∧ p.1 ≠ D) (hsz : vs.length ≤ 1000)
    (h : ∀ h' n', Fr h₀ L h' m → News h₀ L h' ((D, listOf (vs ++ [v]).toArray n') :: keep) → Q .none { s with heap := h' }) :
    wpAny (model prog w) A (call (.builtin "list.append") [.ref D, v]) Q E s := by
  have hD := N _ hm
  refine wpAny_list_append_plain (hsz := by rw [List.size_toArray, PySem.sizeLine_eq]; omega) ⟨n, hD.1⟩ fun h' hp hs => ?_
  obtain ⟨n', ho⟩ := hp
  have e : vs.toArray.push v = (vs ++ [v]).toArray := by simp
  rw [e] at ho
  refine h h' n' ⟨F.ns.sameBut hs (fun e => hD.2.1 e.symm), fun b o eb => hs.extBut b o ?_ (F.keep b o eb), F.above⟩ ?_
  · intro e
    rw [e, hD.2.2] at eb
    cases eb
  · intro p hp
    rcases List.mem_cons.mp hp with rfl | hp
    · exact ⟨ho, hD.2⟩
    · have := hk p hp
      exact ⟨hs.extBut _ _ this.2 (N p this.1).1, (N p this.1).2⟩
theorem head_of {h₀ h : Heap} {L a : Addr} {o : Obj} {l : List (Addr × Obj)} (_ : News h₀ L h ((a, o) :: l)) : ∃ d, d = a := ⟨_, rfl⟩
theorem append_row {D R : Addr} {oR : Obj} {p1 p2 : Addr × Obj} {rest : List (Addr × Obj)} {v : Value} (F : Fr h₀ L s.heap m) (N : News h₀ L s.heap ((R, oR) :: p1 :: p2 :: (D, listOf vs.toArray n) :: rest)) (hR : D < R) (hne : ∀ p ∈ rest, p.1 ≠ D) (hsz : vs.length ≤ 1000)
    (h : ∀ h' n' o', o' = oR → Fr h₀ L h' m → News h₀ L h' ((D, listOf (vs ++ [v]).toArray n') :: (R, o') :: rest) → Q .none { s with heap := h' }) :
    wpAny (model prog w) A (call (.builtin "list.append") [.ref D, v]) Q E s := by
  refine append_led ((R, oR) :: rest) F N (.tail _ (.tail _ (.tail _ (.head _)))) (fun p hp => ?_) hsz fun h' n' => h h' n' _ rfl
  rcases List.mem_cons.mp hp with rfl | hp
  · exact ⟨.head _, Nat.ne_of_gt hR⟩
  · exact ⟨.tail _ (.tail _ (.tail _ (.tail _ hp))), hne p hp⟩
theorem mod16 {p q : Int} (h0 : 0 ≤ q) (h1 : q < 16) (h : ∀ t' k, Q (.int q t') { s with toks := k }) : wpAny (model prog w) A (binaryOp .Mod (.int (p * 16 + q) t) (.int 16 u)) Q E s :=
  mod_int' (by decide) (by
    rw [show (p * 16 + q).fmod 16 = q by rw [Int.fmod_eq_emod_of_nonneg _ (by decide)]; omega]
    exact h _ _)
theorem div16 {p q : Int} (h0 : 0 ≤ q) (h1 : q < 16) (h : ∀ t' k, Q (.int p t') { s with toks := k }) : wpAny (model prog w) A (binaryOp .FloorDiv (.int (p * 16 + q) t) (.int 16 u)) Q E s :=
  floordiv_int (by decide) (by
    rw [show (p * 16 + q).fdiv 16 = p by rw [Int.fdiv_eq_ediv_of_nonneg _ (by decide)]; omega]
    exact h _ _)
theorem slice_known {x y : Int} {tx ty : Tok} (F : Fr h₀ L s.heap m) (N : News h₀ L s.heap news) (hm : (l, listOf vs.toArray n) ∈ news) (hi : IntsAre vs ns) (h0 : 0 ≤ x) (h1 : 0 ≤ y) (hl : ns.length ≤ 1000)
    (he : (ns.drop x.toNat).take (min y.toNat ns.length - x.toNat) = ms)
    (h : ∀ D ws h', Fr h₀ L h' m → News h₀ L h' ((D, listOf (List.toArray ws) 0) :: news) → (∀ p ∈ news, p.1 < D) → IntsAre ws ms → Q (.ref D) { s with heap := h' })
    (hs : subscripted slice false (.ref l) (.ref s.heap.objs.size) = operate [.ref s.heap.objs.size, .ref l] (getItem (.ref l) (.ref s.heap.objs.size)) := by with_unfolding_all rfl) (ht : ∀ r, letTemporaryGo value (.ref l) r = pure () := by intro _; with_unfolding_all rfl) :
    wpAny (model prog w) A (subscriptTail value slice (.ref l) (.ref s.heap.objs.size)) Q E { s with heap := s.heap.push { cls := .type "slice", data := .fields #[.int x tx, .int y ty, .none] } } := by
  subst he
  exact kmk_slice_ints F N (PySem.IsL.isList (n := n) (N _ hm).1) (IsPart.int _ _) (IsPart.int _ _) hi (kmk_run hi h0 h1) rfl (fun D ws h' F' N' l1 hw _ _ => h D ws h' F' N' l1 hw) hs ht (by rw [List.size_toArray, hi.length, PySem.sizeLine_eq]; omega)
end
local macro_rules | `(tactic| k_mem) => `(tactic| first | (with_reducible assumption) | (with_reducible exact List.mem_cons_self) | ((with_reducible refine List.mem_append_right _ ?_); k_mem) | ((with_reducible refine List.mem_cons_of_mem _ ?_); k_mem))
local macro_rules | `(tactic| walk_at "call builtin:len") => `(tactic| (k_here; (with_reducible show wpAny _ _ (call _ [Value.ref _]) _ _ _); (refine kst_len (by k_asm) (by k_mem) (IntsAre.length (by assumption)) (by omega) ?_)))
local macro_rules | `(tactic| walk_at "subscriptTail") => `(tactic| (k_here; (with_reducible show wpAny _ _ (subscriptTail _ _ (Value.ref _) (Value.int _ _)) _ _ _); (refine item_known (by k_asm) (by k_mem) (by assumption) (by omega) (by omega) (by assumption) ?_); intro _))
local macro_rules | `(tactic| walk_at "subscriptTail Name Slice ref ref") => `(tactic| (k_here; (with_reducible show wpAny _ _ (subscriptTail _ (PySem.Expr.Slice _ _ none _) (Value.ref _) (Value.ref _)) _ _ _); (k_dflt (refine slice_known (by k_asm) (by k_asm) (by k_mem) (by assumption) (by omega) (by omega) (by omega) (by assumption) ?_)); intro D' ws' h' F' N' l1' hi'))
local macro_rules | `(tactic| walk_at "binaryOp Mod int int") => `(tactic| (k_here; (with_reducible show wpAny _ _ (binaryOp _ _ (Value.int 16 _)) _ _ _); (refine mod16 (by omega) (by omega) ?_); intro _ _))
local macro_rules | `(tactic| walk_at "binaryOp FloorDiv int int") => `(tactic| (k_here; (with_reducible show wpAny _ _ (binaryOp _ _ (Value.int 16 _)) _ _ _); (refine div16 (by omega) (by omega) ?_); intro _ _))
local macro_rules | `(tactic| walk_at "call ref") => `(tactic| (k_here; (with_reducible show wpAny _ _ (call (Value.ref 257) _) _ _ _); k_dflt (refine' Does.use (number_does _ _ _ _ _ _ ?n1 ?n2 ?n3 ?n4) ?k1 ?k2 ?k3 ?k4 ?k5 ?kK ?kd ?ku ?_); (case k1 => k_asm); (case k2 => k_asm); (case k3 => k_asm); (case k4 => k_asm); (case n1 => k_mem); (case n2 => assumption); (case n3 => assumption); (case n4 => omega); (case k5 => k_asm); (case kK => first | exact rfl | assumption); (case kd => k_room); (case ku => k_units); intro r9 tl9 h9 tk9 F9 N9 hl9 ho9; obtain ⟨e9', t9, e9⟩ := ho9; subst e9; subst e9'; (try simp only [List.nil_append] at N9); (try dsimp only); (try k_fold)))
theorem read_does (w : World) (news : List (Addr × Obj)) (l : Addr) (vs : List Value) (k : Nat) (bs : List Blk) (hm : (l, listOf (List.toArray vs) k) ∈ news) (hi : IntsAre vs (wires bs)) (ho : ∀ b ∈ bs, b.Ok) (hl : (wires bs).length ≤ 1000) :
    Does w 276 6 news [.ref l] (fun r tl => ∃ a vs, r = .ref a ∧ (∃ n, (a, listOf (List.toArray vs) n) ∈ tl) ∧ DatAll tl vs (bs.map Blk.row)) := by
  unfold Does
  intro p loose mean mg mb dp un cn cs a ccd cl outer A₀ base h₀ L m s Q E B F X N T hk hd hu hret
  refine wpAny_call ?_
  k_dflt cell_enter
  iterate 13 (first | (with_reducible show wpAny _ _ (exec (Stmt.While _ _ _ _) _) _ _ _) | (k_unfold; (try dsimp only)) | walk1 | (dsimp only; walk1))
  rename Fr _ _ _ (fun y => if y = "place" then _ else _) => F1
  rename News _ _ _ _ => N1
  rename (∀ q ∈ news, q.1 < (_ : Addr)) => l9
  obtain ⟨D9, e9⟩ := head_of N1
  subst e9
  with_unfolding_all refine' ksw_while (σ := Rd) (fun c => (D9, listOf (List.toArray c.vs) c.k) :: (c.tl ++ news)) (fun c => [(Str.ofString "place", Value.int c.pl c.tp)]) (fun _ => True) [Str.ofString "near", Str.ofString "far"] (fun c => bs = c.ds ++ c.es ∧ c.pl = ((wires c.ds).length : Int) ∧ DatAll c.tl c.vs (c.ds.map Blk.row) ∧ (∀ p ∈ c.tl ++ news, p.1 ≠ D9) ∧ (∀ q ∈ news, ∀ p ∈ c.tl, q.1 < p.1)) (fun c => c.es.length) ⟨[], bs, 0, _, [], 0, []⟩ F1 N1 trivial ?hk ?hp ?turn
  case hk =>
    intro p hp
    rw [List.mem_singleton.mp hp]
    rfl
  case hp => exact ⟨rfl, rfl, .nil, fun p hp => Nat.ne_of_lt (l9 p hp), fun _ _ _ h => nomatch h⟩
  rintro ⟨ds, es, pl, tp, vs', k', tl⟩ u9 h' tk' - ⟨hbs, hpl, hD, hne, hlow⟩ F2 N2
  dsimp only at hbs hpl hD hne hlow F2 N2
  clear F1 N1
  cases es with
  | nil =>
    have hpe : pl = ((wires bs).length : Int) := by rw [hpl, hbs, List.append_nil]
    k_steps
    refine hret _ ((D9, listOf (List.toArray vs') k') :: tl) _ _ (by k_asm) (by k_asm) ?_ ⟨D9, vs', rfl, ⟨k', .head _⟩, ?_⟩
    · intro q hq p hp
      rcases List.mem_cons.mp hp with rfl | hp
      · exact l9 q hq
      · exact hlow q hq p hp
    · rw [hbs, List.append_nil]
      exact hD.mono fun p hp => .tail _ hp
  | cons b es =>
    obtain ⟨f1, f2, f3, f4, f5, f6⟩ := blk_facts bs ds b es hbs pl hpl
    obtain ⟨⟨b1, b2, b3, b4⟩, ⟨b5, b6, b7⟩, ⟨b8, b9, b10⟩⟩ := ho b (by rw [hbs]; simp)
    have hlen : vs'.length ≤ 1000 := by
      have := hD.length
      rw [List.length_map] at this
      have := wires_len ds
      omega
    iterate 127 (first | (k_unfold; (try dsimp only)) | walk1 | (dsimp only; walk1))
    rename (_ ∧ _ ∧ _ ∧ AllLt _ _) => l8
    obtain ⟨q1, q2, q3, q4⟩ := l8
    have q5 := allLt_out q4
    rename News _ _ _ ((_, _) :: (_, _) :: (_, _) :: (_, _) :: _) => Nx
    obtain ⟨R9, e9⟩ := head_of Nx
    subst e9
    refine append_row (by k_asm) (by k_asm) q3 hne hlen ?_
    intro h' n' o9 eo F' N'
    k_steps
    refine' ksw_end ⟨ds ++ [b], es, pl + 2 + (b.A.length : Int) + (b.B.length : Int), _, vs' ++ [.ref R9], n', (R9, o9) :: tl⟩ ?kF ?kN ?hn trivial ?hk ?hr ?hp ?hm
    case kF => k_asm
    case kN => k_asm
    case hn =>
      dsimp only
      exact fun p hp => hp
    case hk =>
      intro p hp
      rw [List.mem_singleton.mp hp]
      rfl
    case hr =>
      intro z h2 h3
      have n1 : z ≠ (Str.ofString "place") := h2 _ (.head _)
      have n2 : z ≠ (Str.ofString "near") := fun e => by rw [e] at h3; exact absurd h3 (by decide)
      have n3 : z ≠ (Str.ofString "far") := fun e => by rw [e] at h3; exact absurd h3 (by decide)
      dsimp only [kstB]
      rw [if_neg n1, if_neg n3, if_neg n2, if_neg n1, h3, if_neg n1]
      rfl
    case hp =>
      dsimp only
      refine ⟨by rw [hbs, List.append_assoc]; rfl, by rw [f5]; omega, ?_, ?_, ?_⟩
      · rw [List.map_append]
        refine DatAll.append (hD.mono fun p hp => .tail _ hp) (.one (.list (vs := [_, _, _, _, _, _]) (n := 0) (by rw [eo]; exact .head _) (.cons (dint rfl) (.cons (dint rfl) (.cons (dint (by omega)) (.cons (dint (by omega)) (.cons (dint rfl) (.cons (dint rfl) .nil))))))))
      · intro p hp
        rcases List.mem_cons.mp hp with rfl | hp
        · exact Nat.ne_of_gt q3
        · exact hne p hp
      · intro q hq p hp
        rcases List.mem_cons.mp hp with rfl | hp
        · exact q5 q (List.mem_append_right _ hq)
        · exact hlow q hq p hp
    case hm => exact Nat.lt_succ_self _
end Mine
end
section
open PySem PySem.W PyProof.Rows PySem.Calls
set_option Elab.async false
set_option maxRecDepth 100000
set_option maxHeartbeats 8000000
namespace Mine
theorem Does.up {w : World} {f : Addr} {k k' : Nat} {news : List (Addr × Obj)} {vs : List Value} {Out : Value → List (Addr × Obj) → Prop} (D : Does w f k news vs Out) (h : k ≤ k') : Does w f k' news vs Out :=
  fun p loose mean mg mb dp un cn cs a ccd cl outer A₀ base h₀ L m s Q E B F X N T hk hd hu hret => D p loose mean mg mb dp un cn cs a ccd cl outer A₀ base h₀ L m s Q E B F X N T hk (by omega) (by omega) hret
/-- a format: none, or an int -/
def Fmt (v : Value) : Prop := v = .none ∨ ∃ f t, v = .int f t
/-- the width that a format stands for at a number -/
def wid (v : Value) (x : Int) : Int := match v with
  | .int f _ => toldW f
  | _ => (blen x.toNat : Int)
/-- the bits that a format stands for at a number -/
def fm (v : Value) (x : Int) : Int := match v with
  | .int f _ => f
  | _ => Int.fdiv ((Builtin.Int.intBits x : Int) + 7) 8 * 8
theorem width_does (w : World) (news : List (Addr × Obj)) (v : Value) (x : Int) (u : Tok) (hv : Fmt v) (hx : 0 ≤ x) : Does w 250 2 news [v, .int x u] (fun r tl => tl = [] ∧ ∃ t', r = .int (wid v x) t') := by
  rcases hv with rfl | ⟨f, t, rfl⟩
  · exact (width_none w news x u hx).up (by decide)
  · exact width_told w news f x t u
theorem made_does (w : World) (news : List (Addr × Obj)) (x y : Int) (tx ty : Tok) (sh : Addr) (c : Nat) (v1 v2 : Value) (h1 : Fmt v1) (h2 : Fmt v2) (hs : (sh, listOf (List.toArray [v1, v2]) c) ∈ news)
    (hx : 0 ≤ x) (hx2 : x < 9223372036854775808) (hy : 0 ≤ y) (hy2 : y < 9223372036854775808) : Does0 w 264 6 news [.int x tx, .int y ty, .ref sh] (MadeOut w.params x y (fm v1 x) (fm v2 y)) := by
  rcases h1 with rfl | ⟨f, tf, rfl⟩ <;> rcases h2 with rfl | ⟨g, tg, rfl⟩
  · exact made_none_none w news x y tx ty sh c hs hx hx2 hy hy2
  · exact made_none_int w news x y tx ty sh c g tg hs hx hx2 hy hy2
  · exact made_int_none w news x y tx ty sh c f tf hs hx hx2 hy hy2
  · exact made_int_int w news x y tx ty sh c f g tf tg hs hx hx2 hy hy2
theorem toldW_in {f : Int} (h : inE f = true) : toldW f = f / 8 := by
  rcases inE_cases h with rfl | rfl | rfl | rfl | rfl | rfl | rfl | rfl <;> rfl
theorem toldW_out {f : Int} (h : ¬ inE f = true) : toldW f = 0 := by
  unfold toldW
  rw [if_neg]
  intro h2
  apply h
  simp only [List.any_cons, List.any_nil, Bool.or_eq_true, beq_iff_eq, Bool.or_false] at h2
  rcases h2 with rfl | rfl | rfl | rfl | rfl | rfl | rfl | rfl <;> rfl
theorem inE_blen : ∀ j : Fin 9, (inE (8 * (j.val : Int)) = true ↔ 0 < j.val) := by decide
theorem wid_in {v : Value} {x : Int} (hv : Fmt v) (hx : 0 ≤ x) (hx2 : x < 9223372036854775808) (h : inE (fm v x) = true) : wid v x = fm v x / 8 := by
  rcases hv with rfl | ⟨f, t, rfl⟩
  · show (blen x.toNat : Int) = (Int.fdiv ((Builtin.Int.intBits x : Int) + 7) 8 * 8) / 8
    rw [bits_fmt hx]
    omega
  · exact toldW_in h
theorem wid_out {v : Value} {x : Int} (hv : Fmt v) (hx : 0 ≤ x) (hx2 : x < 9223372036854775808) (h : ¬ inE (fm v x) = true) : wid v x = 0 := by
  rcases hv with rfl | ⟨f, t, rfl⟩
  · show (blen x.toNat : Int) = 0
    have h1 : ¬ inE (Int.fdiv ((Builtin.Int.intBits x : Int) + 7) 8 * 8) = true := h
    rw [bits_fmt hx] at h1
    have h8 : blen x.toNat ≤ 8 := blen_le (by omega)
    have h2 := inE_blen ⟨blen x.toNat, by omega⟩
    dsimp only at h2
    rw [h2] at h1
    omega
  · exact toldW_out h
end Mine
end
section
open PySem PySem.W PyProof.Rows PySem.Calls
set_option Elab.async false
set_option maxRecDepth 100000
set_option maxHeartbeats 8000000
namespace Mine
theorem fillK8 : (PySem.Challenge.rw_fe0335_01, Mine.hd.heap_39) = (PySem.Challenge.rw_fe0335_01, Mine.hd.heap_39) := by
  k_fill
  rfl
local macro_rules | `(tactic| k_steps) => `(tactic| repeat' (first | (k_unfold; (try dsimp only)) | walk1 | (dsimp only; walk1) | (leave1; walk_say "STEP leave1"; (try dsimp only)) | fail "no step"))
local macro_rules | `(tactic| k_room) => `(tactic| ((try simp only [depth_under_make, depth_under_kw, depth_in1, depth_deeper, depth_mark]); (try dsimp only [ktrTop]); omega))
local macro_rules | `(tactic| k_units) => `(tactic| ((try simp only [units_deeper, units_make2, units_in1, Around.mark_units]); (try dsimp only [ktrTop]); omega))
local macro_rules | `(tactic| walk_at "InitBack") => `(tactic| (dsimp only [InitBack]))
section
variable {prog : Program} {w : World} {A : Around} {E : Value → Shared → Prop} {s : Shared} {Q : Value → Shared → Prop} {h₀ : Heap} {L l : Addr} {m : PySem.Str → Option Value} {news : List (Addr × Obj)} {value slice : PySem.Expr} {vs : List Value} {ns : List Int} {n : Nat}
theorem slice_upto {y : Int} {ty : Tok} (F : Fr h₀ L s.heap m) (N : News h₀ L s.heap news) (hm : (l, listOf vs.toArray n) ∈ news) (hi : IntsAre vs ns) (h1 : 0 ≤ y) (hl : ns.length ≤ 1000)
    (h : ∀ D ws h', Fr h₀ L h' m → News h₀ L h' ((D, listOf (List.toArray ws) 0) :: news) → (∀ p ∈ news, p.1 < D) → IntsAre ws (ns.take y.toNat) → Q (.ref D) { s with heap := h' })
    (hs : subscripted slice false (.ref l) (.ref s.heap.objs.size) = operate [.ref s.heap.objs.size, .ref l] (getItem (.ref l) (.ref s.heap.objs.size)) := by with_unfolding_all rfl) (ht : ∀ r, letTemporaryGo value (.ref l) r = pure () := by intro _; with_unfolding_all rfl) :
    wpAny (model prog w) A (subscriptTail value slice (.ref l) (.ref s.heap.objs.size)) Q E { s with heap := s.heap.push { cls := .type "slice", data := .fields #[.none, .int y ty, .none] } } :=
  kmk_slice_ints F N (PySem.IsL.isList (n := n) (N _ hm).1) IsPart.none (IsPart.int _ _) hi (kmk_upto hi h1) rfl (fun D ws h' F' N' l1 hw _ _ => h D ws h' F' N' l1 hw) hs ht (by rw [List.size_toArray, hi.length, PySem.sizeLine_eq]; omega)
end
local macro_rules | `(tactic| walk_at "subscriptTail") => `(tactic| (k_here; (with_reducible show wpAny _ _ (subscriptTail _ (PySem.Expr.Slice none (some _) none _) (Value.ref _) (Value.ref _)) _ _ _); (k_dflt (refine slice_upto (by k_asm) (by k_asm) (by k_mem) (by assumption) (by decide) (by simp only [List.length_append, List.length_cons, List.length_nil]; omega) ?_)); intro D' ws' h' F' N' l1' hi'))
/-- a part of the walk that is still to come -/
structure Later (P : Prop) : Prop where
  out : P
def part1 : (P : Prop) ×' (Later P → PySem.Challenge.rw_fe0335_01.Holds) := ⟨_, fun hP => by
  refine Mine.hd ?_
  k_go0
  (all_goals try k_fold)
  iterate 52 (first | (k_unfold; (try dsimp only)) | walk1 | (dsimp only; walk1))
  repeat (rename _ => x; revert x)
  intro hP
  exact hP.out⟩
end Mine
end
section
open PySem PySem.W PyProof.Rows PySem.Calls
set_option Elab.async false
set_option maxRecDepth 100000
set_option maxHeartbeats 8000000
namespace Mine
theorem fillK9 : (PySem.Challenge.rw_fe0335_01, Mine.hd.heap_39) = (PySem.Challenge.rw_fe0335_01, Mine.hd.heap_39) := by
  k_fill
  rfl
local macro_rules | `(tactic| k_steps) => `(tactic| repeat' (first | (k_unfold; (try dsimp only)) | walk1 | (dsimp only; walk1) | (leave1; walk_say "STEP leave1"; (try dsimp only)) | fail "no step"))
local macro_rules | `(tactic| k_room) => `(tactic| ((try simp only [depth_under_make, depth_under_kw, depth_in1, depth_deeper, depth_mark]); (try dsimp only [ktrTop]); omega))
local macro_rules | `(tactic| k_units) => `(tactic| ((try simp only [units_deeper, units_make2, units_in1, Around.mark_units]); (try dsimp only [ktrTop]); omega))
local macro_rules | `(tactic| walk_at "InitBack") => `(tactic| (dsimp only [InitBack]))
local macro_rules | `(tactic| walk_at "call builtin:len") => `(tactic| (k_here; (with_reducible show wpAny _ _ (call _ [Value.ref _]) _ _ _); (refine kst_len (by k_asm) (by k_mem) (IntsAre.length (by assumption)) (by simp only [List.length_take, List.length_append, List.length_cons, List.length_nil]; omega) ?_)))
/-- what a turn whose location stands leaves behind -/
structure Gd where
  x : Int
  y : Int
  f : Int
  g : Int
  p : Int
  q : Int
def Gd.Ok (d : Gd) : Prop := (0 ≤ d.x ∧ d.x < 9223372036854775808) ∧ (0 ≤ d.y ∧ d.y < 9223372036854775808) ∧ (inE d.f = true ∧ inE d.g = true) ∧ (0 ≤ d.p ∧ d.p < 16) ∧ (0 ≤ d.q ∧ d.q < 16)
def Gd.row (d : Gd) : W.Dat := .list [.int d.p, .int d.q, .int (d.f / 8), .int (d.g / 8), .int (Int.fmod d.x (256 ^ (d.f / 8).toNat)), .int (Int.fmod d.y (256 ^ (d.g / 8).toNat))]
inductive Mades (P : Params) (led : List (Addr × Obj)) : List Value → List Gd → Prop
  | nil : Mades P led [] []
  | cons {a loc kd : Addr} {k : Nat} {d : Gd} {vs : List Value} {gs : List Gd} : (a, listOf (List.toArray [.ref loc, .ref kd]) k) ∈ led → LocAt P led loc d.x d.y d.f d.g → KindAt P led kd d.p d.q → Mades P led vs gs → Mades P led (.ref a :: vs) (d :: gs)
theorem LocAt.mono {P : Params} {l l' : List (Addr × Obj)} (h : ∀ p ∈ l, p ∈ l') {loc : Addr} {x y f g : Int} (H : LocAt P l loc x y f g) : LocAt P l' loc x y f g := by
  obtain ⟨dx, ya, dy, t1, t2, t3, t4, t5, t6, t7, tx, ty, tf, tg, v1, v2, c1, c2, m1, m2, m3, m4⟩ := H
  exact ⟨dx, ya, dy, t1, t2, t3, t4, t5, t6, t7, tx, ty, tf, tg, v1, v2, c1, c2, h _ m1, h _ m2, h _ m3, h _ m4⟩
theorem KindAt.mono {P : Params} {l l' : List (Addr × Obj)} (h : ∀ p ∈ l, p ∈ l') {kd : Addr} {p q : Int} (H : KindAt P l kd p q) : KindAt P l' kd p q := by
  obtain ⟨dx, t1, t2, tp, tq, c, m1, m2⟩ := H
  exact ⟨dx, t1, t2, tp, tq, c, h _ m1, h _ m2⟩
theorem Mades.mono {P : Params} {l l' : List (Addr × Obj)} (h : ∀ p ∈ l, p ∈ l') {vs : List Value} {gs : List Gd} (H : Mades P l vs gs) : Mades P l' vs gs := by
  induction H with
  | nil => exact .nil
  | cons a b c _ ih => exact .cons (h _ a) (b.mono h) (c.mono h) ih
theorem Mades.snoc {P : Params} {l : List (Addr × Obj)} {vs : List Value} {gs : List Gd} {a loc kd : Addr} {k : Nat} {d : Gd} (H : Mades P l vs gs) (h1 : (a, listOf (List.toArray [.ref loc, .ref kd]) k) ∈ l) (h2 : LocAt P l loc d.x d.y d.f d.g) (h3 : KindAt P l kd d.p d.q) : Mades P l (vs ++ [.ref a]) (gs ++ [d]) := by
  induction H with
  | nil => exact .cons h1 h2 h3 .nil
  | cons a b c _ ih => exact .cons a b c ih
theorem Mades.length {P : Params} {l : List (Addr × Obj)} {vs : List Value} {gs : List Gd} (H : Mades P l vs gs) : vs.length = gs.length := by
  induction H with
  | nil => rfl
  | cons a b c _ ih => rw [List.length_cons, List.length_cons, ih]
/-- the main loop's state -/
structure Ln where
  gs : List Gd
  es : List Int
  vw : List Value
  vm : List Value
  vd : List Value
  kw : Nat
  km : Nat
  kd : Nat
def pairD (e : Int) : W.Dat := .list [.int e, .int e]
structure LnFacts (P : Params) (led : List (Addr × Obj)) (c : Ln) : Prop where
  w : DatAll led c.vw (c.es.map pairD)
  d : DatAll led c.vd (c.gs.map Gd.row)
  m : Mades P led c.vm c.gs
def LJ (P : Params) (ld lm lw ln : Addr) (vsN : List Value) (kn : Nat) (i : Nat) (m : PySem.Str → Option Value) (nx : List (Addr × Obj)) : Prop :=
  ∃ (c : Ln) (tl : List (Addr × Obj)), nx = (ld, listOf (List.toArray c.vd) c.kd) :: (lm, listOf (List.toArray c.vm) c.km) :: (lw, listOf (List.toArray c.vw) c.kw) :: (ln, listOf (List.toArray vsN) kn) :: tl ∧
    LnFacts P tl c ∧ (∀ d ∈ c.gs, d.Ok) ∧ c.gs.length ≤ i ∧ c.es.length = i ∧ (∀ p ∈ tl, p.1 ≠ ld ∧ p.1 ≠ lm ∧ p.1 ≠ lw) ∧
    m (Str.ofString "numbers") = some (.ref ln) ∧ m (Str.ofString "words") = some (.ref lw) ∧ m (Str.ofString "made") = some (.ref lm) ∧ m (Str.ofString "due") = some (.ref ld)
theorem map_four {h₀ h : Heap} {L : Addr} {m : PySem.Str → Option Value} {y z1 z2 z3 z4 : PySem.Str} {v u1 u2 u3 u4 : Value} (F : Fr h₀ L h (fun a => if a = y then some v else m a)) (h1 : m z1 = some u1) (h2 : m z2 = some u2) (h3 : m z3 = some u3) (h4 : m z4 = some u4) :
    Fr h₀ L h (fun a => if a = y then some v else if a = z1 then some u1 else if a = z2 then some u2 else if a = z3 then some u3 else if a = z4 then some u4 else m a) := by
  have e : (fun a => if a = y then some v else if a = z1 then some u1 else if a = z2 then some u2 else if a = z3 then some u3 else if a = z4 then some u4 else m a) = fun a => if a = y then some v else m a := by
    funext a
    split
    · rfl
    · split
      · rename_i e; rw [e, h1]
      · split
        · rename_i e; rw [e, h2]
        · split
          · rename_i e; rw [e, h3]
          · split
            · rename_i e; rw [e, h4]
            · rfl
  rw [e]; exact F
theorem map_three {h₀ h : Heap} {L : Addr} {m : PySem.Str → Option Value} {z1 z2 z3 : PySem.Str} {u1 u2 u3 : Value} (F : Fr h₀ L h m) (h1 : m z1 = some u1) (h2 : m z2 = some u2) (h3 : m z3 = some u3) :
    Fr h₀ L h (fun a => if a = z1 then some u1 else if a = z2 then some u2 else if a = z3 then some u3 else m a) := by
  have e : (fun a => if a = z1 then some u1 else if a = z2 then some u2 else if a = z3 then some u3 else m a) = m := by
    funext a
    split
    · rename_i e; rw [e, h1]
    · split
      · rename_i e; rw [e, h2]
      · split
        · rename_i e; rw [e, h3]
        · rfl
  rw [e]; exact F
theorem law_loop {prog : Program} {w : World} {A : Around} {E : Value → Shared → Prop} {s : Shared} {env : Env} {h₀ : Heap} {body : List Stmt} {Q : Flow → Shared → Prop} (P : Params)
    {r : Addr} {b : Int} {t₀ u₀ v₀ : Tok} {m₀ : PySem.Str → Option Value} {ld lm lw ln : Addr} {vsN : List Value} {kn : Nat} {rest : List (Addr × Obj)} (n : Nat)
    (hh : A.handled = none) (hr : IsRange s.heap r 0 b 1 t₀ u₀ v₀) (hb : b = (n : Int)) (hb2 : n ≤ 1000) (F : Fr h₀ env.locals s.heap m₀)
    (N : News h₀ env.locals s.heap ((ld, listOf #[] 0) :: (lm, listOf #[] 0) :: (lw, listOf #[] 0) :: (ln, listOf (List.toArray vsN) kn) :: rest))
    (hn : m₀ (Str.ofString "numbers") = some (.ref ln) ∧ m₀ (Str.ofString "words") = some (.ref lw) ∧ m₀ (Str.ofString "made") = some (.ref lm) ∧ m₀ (Str.ofString "due") = some (.ref ld))
    (turn : ∀ (i : Nat) t (m₁ : PySem.Str → Option Value) (c : Ln) (tl : List (Addr × Obj)) h tk I oI (G : (PySem.Str → Option Value) → List (Addr × Obj) → Prop), (∀ m nx, LJ P ld lm lw ln vsN kn (i + 1) m nx → G m nx) → i < n → LnFacts P tl c → (∀ d ∈ c.gs, d.Ok) → c.gs.length ≤ i → c.es.length = i → (∀ p ∈ tl, p.1 ≠ ld ∧ p.1 ≠ lm ∧ p.1 ≠ lw) → (∀ p ∈ ((ld, listOf (List.toArray c.vd) c.kd) :: (lm, listOf (List.toArray c.vm) c.km) :: (lw, listOf (List.toArray c.vw) c.kw) :: (ln, listOf (List.toArray vsN) kn) :: tl), p.1 ≠ I) →
      Fr h₀ env.locals h (fun a => if a = Str.ofString "k" then some (.int (i : Int) t) else if a = Str.ofString "numbers" then some (.ref ln) else if a = Str.ofString "words" then some (.ref lw) else if a = Str.ofString "made" then some (.ref lm) else if a = Str.ofString "due" then some (.ref ld) else m₁ a) →
      News h₀ env.locals h ((I, oI) :: (ld, listOf (List.toArray c.vd) c.kd) :: (lm, listOf (List.toArray c.vm) c.km) :: (lw, listOf (List.toArray c.vw) c.kw) :: (ln, listOf (List.toArray vsN) kn) :: tl) →
      wpAny (model prog w) A (execs body env) (OwnPost h₀ env.locals I oI G { s with heap := h, toks := tk } Q) E { s with heap := h, toks := tk })
    (done : ∀ (m₁ : PySem.Str → Option Value) (c : Ln) (tl : List (Addr × Obj)) h tk, LnFacts P tl c → (∀ d ∈ c.gs, d.Ok) → c.gs.length ≤ n → c.es.length = n →
      Fr h₀ env.locals h (fun a => if a = Str.ofString "words" then some (.ref lw) else if a = Str.ofString "made" then some (.ref lm) else if a = Str.ofString "due" then some (.ref ld) else m₁ a) →
      News h₀ env.locals h ((ld, listOf (List.toArray c.vd) c.kd) :: (lm, listOf (List.toArray c.vm) c.km) :: (lw, listOf (List.toArray c.vw) c.kw) :: tl) → Q .next { s with heap := h, toks := tk }) :
    wpAny (model prog w) A (pyIter (.ref r)) (fun it s₂ => LoopAtV prog w A h₀ env (Str.ofString "k") body Q E it s₂) E s := by
  refine own_range (LJ P ld lm lw ln vsN kn) hh hr hb hb2 F (cb_drop N (news := (ld, listOf #[] 0) :: (lm, listOf #[] 0) :: (lw, listOf #[] 0) :: (ln, listOf (List.toArray vsN) kn) :: []) ?_) ⟨⟨[], [], [], [], [], 0, 0, 0⟩, [], rfl, ⟨.nil, .nil, .nil⟩, fun _ h => (nomatch h), Nat.le_refl _, rfl, fun _ h => (nomatch h), hn⟩ ?_ ?_
  · intro p hp
    simp only [List.mem_cons, List.not_mem_nil, or_false] at hp
    rcases hp with rfl | rfl | rfl | rfl
    · exact .head _
    · exact .tail _ (.head _)
    · exact .tail _ (.tail _ (.head _))
    · exact .tail _ (.tail _ (.tail _ (.head _)))
  · rintro i t m₁ nx h tk I oI hi ⟨c, tl, rfl, h1, h2, h3, h4, h5, h6, h7, h8, h9⟩ hI F₁ N₁
    exact turn i t m₁ c tl h tk I oI _ (fun _ _ h => h) hi h1 h2 h3 h4 h5 hI (map_four F₁ h6 h7 h8 h9) N₁
  · rintro m₁ nx h tk ⟨c, tl, rfl, h1, h2, h3, h4, h5, h6, h7, h8, h9⟩ F₁ N₁
    refine done m₁ c tl h tk h1 h2 h3 h4 (map_three F₁ h7 h8 h9) (cb_drop N₁ ?_)
    intro p hp
    simp only [List.mem_cons] at hp ⊢
    rcases hp with hp | hp | hp | hp
    · exact .inl hp
    · exact .inr (.inl hp)
    · exact .inr (.inr (.inl hp))
    · exact .inr (.inr (.inr (.inr hp)))
def numsOf (ls : List Int) : List Int := List.take 12 (ls ++ [2, 12, 30, 5, 1, 100, 7])
theorem third (ls : List Int) : Int.fdiv ((List.take 12 (ls ++ [2, 12, 30, 5, 1, 100, 7])).length : Int) 3 = (((List.take 12 (ls ++ [2, 12, 30, 5, 1, 100, 7])).length / 3 : Nat) : Int) := by
  rw [Int.fdiv_eq_ediv_of_nonneg _ (by decide)]
  omega
theorem third_le (ls : List Int) : (List.take 12 (ls ++ [2, 12, 30, 5, 1, 100, 7])).length / 3 ≤ 4 := by
  rw [List.length_take]
  omega
def part2 : (P : Prop) ×' (P' : Prop) ×' (Later P → Later P' → PySem.Challenge.rw_fe0335_01.Holds) := ⟨_, _, fun hP hP' => by
  refine part1.2 ⟨?_⟩
  delta part1
  dsimp only
  intros
  iterate 19 (first | (k_unfold; (try dsimp only)) | walk1 | (dsimp only; walk1))
  rename IsRange _ _ _ _ _ _ _ _ => R9
  rename Fr _ _ _ _ => F9
  rename News _ _ _ ((_, _) :: (_, _) :: (_, _) :: (_, _) :: _) => N9
  rename World => w9
  rename IntsAre _ (List.take 12 _) => I9
  refine law_loop w9.params _ (by rfl) R9 (third _) (Nat.le_trans (third_le _) (by decide)) F9 N9 ⟨rfl, rfl, rfl, rfl⟩ ?_ ?_
  · clear R9 F9 N9
    repeat (rename _ => x; revert x)
    intro hP hP'
    exact hP.out
  · clear R9 F9 N9
    repeat (rename _ => x; revert x)
    intro hP hP'
    exact hP'.out⟩
end Mine
end
section
open PySem PySem.W PyProof.Rows PySem.Calls
set_option maxRecDepth 100000
set_option Elab.async false
namespace Mine
abbrev tupOf (its : Array Value) (n : Nat) : Obj := { cls := .type "tuple", data := .seq its n }
section
variable {prog : Program} {w : World} {A : Around} {E : Value → Shared → Prop} {s : Shared} {env : Env} {h₀ : Heap} {x : PySem.Str} {body : List Stmt} {Q : Flow → Shared → Prop}
/-- a loop over a tuple that the ledger bears, by an invariant over the turn's number, the frame's map and the ledger -/
theorem own_tup {ax : Addr} {vs : List Value} {k : Nat} {m₀ : PySem.Str → Option Value} {news : List (Addr × Obj)} (J : Nat → (PySem.Str → Option Value) → List (Addr × Obj) → Prop)
    (hh : A.handled = none) (F : Fr h₀ env.locals s.heap m₀) (N : News h₀ env.locals s.heap news) (hm : (ax, tupOf vs.toArray k) ∈ news) (hj : J 0 m₀ news)
    (hJ : ∀ i m nx, J i m nx → (ax, tupOf vs.toArray k) ∈ nx)
    (turn : ∀ i v m₁ nx h tk I oI, vs[i]? = some v → J i m₁ nx → (∀ p ∈ nx, p.1 ≠ I) → Fr h₀ env.locals h (fun y => if y = x then some v else m₁ y) → News h₀ env.locals h ((I, oI) :: nx) →
      wpAny (model prog w) A (execs body env) (OwnPost h₀ env.locals I oI (J (i + 1)) { s with heap := h, toks := tk } Q) E { s with heap := h, toks := tk })
    (done : ∀ m₁ nx h tk, J vs.length m₁ nx → Fr h₀ env.locals h m₁ → News h₀ env.locals h nx → Q .next { s with heap := h, toks := tk }) :
    wpAny (model prog w) A (pyIter (.ref ax)) (fun it s₂ => LoopAtV prog w A h₀ env x body Q E it s₂) E s := by
  have hls : s.heap.IsTuple ax vs.toArray := ⟨_, (N _ hm).1, rfl, k, rfl⟩
  have hlt : ax < s.heap.objs.size := Heap.lt_size (N _ hm).1
  have hne : ax ≠ s.heap.objs.size := Nat.ne_of_lt hlt
  refine wpAny_pyIter_tuple hls ?_
  have W := Walks.tuple (prog := prog) (w := w) hh s.heap.objs.size ax hne vs.toArray
  refine ⟨s.heap.objs.size, _, _, _, _, _, m₀, news, J, rfl, W, ?_, ?_, ?_, ⟨⟨_, Heap.get?_push_size _ rfl, rfl, rfl⟩, hls.at fun o e => Heap.get?_push_of_some _ e⟩, F.push _, (fun p hp => ⟨Heap.get?_push_of_some _ (N p hp).1, (N p hp).2⟩), hj, ?_, ?_⟩
  · intro h
    rcases List.mem_cons.mp h with e | h
    · exact absurd F.ns.lt (e ▸ Nat.lt_irrefl _)
    · exact (N _ hm).2.1 (List.mem_singleton.mp h).symm
  · intro b hb
    rw [List.mem_singleton.mp hb]
    exact next_is_new F
  · intro p hp hI
    exact absurd (Heap.lt_size (N p hp).1) ((List.mem_singleton.mp hI) ▸ Nat.lt_irrefl _)
  · rintro i v m₁ news₁ s₁ own ⟨hh', tk', rfl⟩ hin hP hJ1 hoff h5 _ h7 hs F₁ N₁
    obtain ⟨oI, hoI, _⟩ := hs.1
    have hax := hJ i _ _ hJ1
    have own1 : ∀ p ∈ own, p = (s.heap.objs.size, oI) ∨ p = (ax, tupOf vs.toArray k) := fun p hp => by
      have a := N₁ p (List.mem_append.mpr (.inl hp))
      have c := a.1
      rcases List.mem_cons.mp (h5 p hp) with b | b
      · rw [b] at c
        exact .inl (Prod.ext b (Option.some.inj (c.symm.trans hoI)))
      · have b := List.mem_singleton.mp b
        have d := (N₁ _ (List.mem_append.mpr (.inr hax))).1
        rw [b] at c
        exact .inr (Prod.ext b (Option.some.inj (c.symm.trans d)))
    have NI : News h₀ env.locals hh' ((s.heap.objs.size, oI) :: news₁) := fun p hp => by
      rcases List.mem_cons.mp hp with rfl | hp
      · exact N₁ _ (List.mem_append.mpr (.inl (h7 _ List.mem_cons_self (next_is_new F) oI hoI)))
      · exact N₁ p (List.mem_append.mpr (.inr hp))
    refine wpAny_mono (turn i v m₁ news₁ hh' tk' s.heap.objs.size oI (by simpa using hP) hJ1 (fun p hp e => hoff p hp (List.mem_singleton.mpr e)) F₁ NI) (fun f s₂ p => ?_) fun _ _ e => e
    have fin : (∃ h' tk m' nx, s₂ = { s with heap := h', toks := tk } ∧ Fr h₀ env.locals h' m' ∧ News h₀ env.locals h' ((s.heap.objs.size, oI) :: nx) ∧ (∀ p ∈ nx, p.1 ≠ s.heap.objs.size) ∧ J (i + 1) m' nx) → LoopStepU h₀ env.locals [s.heap.objs.size] own (J (i + 1)) { s with heap := hh', toks := tk' } .next s₂ := by
      rintro ⟨h', tk, m', nx, e, F', N', hn, hj'⟩
      refine ⟨rfl, h', tk, m', nx, e, F', fun p hp => ?_, fun p hp e => hn p hp (List.mem_singleton.mp e), hj'⟩
      rcases List.mem_append.mp hp with hp | hp
      · rcases own1 p hp with rfl | rfl
        · exact N' _ List.mem_cons_self
        · exact N' _ (List.mem_cons_of_mem _ (hJ _ _ _ hj'))
      · exact N' p (List.mem_cons_of_mem _ hp)
    cases f with
    | ret v => exact .ret p
    | brk => exact .brk p
    | next => exact .next (fin p)
    | cont => exact .cont (fin p)
  · rintro h' tk m' news' F' N' _ hj'
    refine done m' news' h' tk ?_ F' N'
    simpa using hj'
end
end Mine
end
section
open PySem PySem.W PyProof.Rows PySem.Calls
set_option Elab.async false
set_option maxRecDepth 100000
set_option maxHeartbeats 8000000
namespace Mine
theorem fillKd : (PySem.Challenge.rw_fe0335_01, Mine.hd.heap_39) = (PySem.Challenge.rw_fe0335_01, Mine.hd.heap_39) := by
  k_fill
  rfl
local macro_rules | `(tactic| k_steps) => `(tactic| repeat' (first | (k_unfold; (try dsimp only)) | walk1 | (dsimp only; walk1) | (leave1; walk_say "STEP leave1"; (try dsimp only)) | fail "no step"))
local macro_rules | `(tactic| k_room) => `(tactic| ((try simp only [depth_under_make, depth_under_kw, depth_in1, depth_deeper, depth_mark]); (try dsimp only [ktrTop]); omega))
local macro_rules | `(tactic| k_units) => `(tactic| ((try simp only [units_deeper, units_make2, units_in1, Around.mark_units]); (try dsimp only [ktrTop]); omega))
local macro_rules | `(tactic| walk_at "InitBack") => `(tactic| (dsimp only [InitBack]))
theorem two_ints {p q : Int} {tp tq : Tok} {i : Nat} {v : Value} (h : [Value.int p tp, Value.int q tq][i]? = some v) (hp : 0 ≤ p) (hp2 : p < 16) (hq : 0 ≤ q) (hq2 : q < 16) : ∃ z t, v = .int z t ∧ 0 ≤ z ∧ z < 16 := by
  match i, h with
  | 0, h => exact ⟨p, tp, (Option.some.inj h).symm, hp, hp2⟩
  | 1, h => exact ⟨q, tq, (Option.some.inj h).symm, hq, hq2⟩
  | n + 2, h => cases h
theorem map_3of {h₀ h : Heap} {L : Addr} {m : PySem.Str → Option Value} {z1 z2 z3 : PySem.Str} {u1 u2 u3 : Value} (F : Fr h₀ L h m) (h1 : m z1 = some u1) (h2 : m z2 = some u2) (h3 : m z3 = some u3) :
    Fr h₀ L h (fun a => if a = z1 then some u1 else if a = z2 then some u2 else if a = z3 then some u3 else m a) := by
  have e : (fun a => if a = z1 then some u1 else if a = z2 then some u2 else if a = z3 then some u3 else m a) = m := by
    funext a
    split
    · rename_i e; rw [e, h1]
    · split
      · rename_i e; rw [e, h2]
      · split
        · rename_i e; rw [e, h3]
        · rfl
  rw [e]; exact F
theorem kind_does (w : World) (news : List (Addr × Obj)) (p q : Int) (tp tq : Tok) (hp : 0 ≤ p) (hp2 : p < 16) (hq : 0 ≤ q) (hq2 : q < 16) :
    Does w 218 6 news [.int p tp, .int q tq] (fun r tl => ∃ kd, r = .ref kd ∧ KindAt w.params tl kd p q) := by
  unfold Does
  intro pg loose mean mg mb dp un cn cs a ccd cl outer A₀ base h₀ L m s Q E B F X N T hk hd hu hret
  k_dflt (refine' call_cls ?k1 ?k2 ?k3 ?k4 ?k5 ?k6 ?_; (case k1 => k_asm); (case k2 => k_asm); (case k3 => k_asm); (case k4 => k_is); (case k5 => k_is); (case k6 => k_is); k_whole; intro x' d' h' F' N' l1 l2; (try k_lt l1); (try k_lt2 l2); (try k_sweep); refine' code_def ?k1 ?k2 ?k3 ?k4 ?k5 ?kA ?kF ?kK ?k6 ?k7 ?k8 ?k9 ?kB ?_ ?c2 ?c3 ?c4 ?c5; (case kA => exact rfl); (case kF => exact rfl); (case kK => assumption); (case k1 => k_asm); (case k2 => k_asm); (case k3 => k_asm); (case k4 => k_asm); (case k5 => k_asm); (case k6 => k_is); (case k7 => k_is); (case k8 => k_room); (case k9 => first | exact BindsTo.of_eq rfl | exact binds_K (by k_in) rfl (by k_is) rfl rfl rfl); (case c5 => decide); (case kB => exact locs rfl); (case c2 => exact rfl); (case c3 => exact rfl); (case c4 => exact rfl); k_whole; intro g' L' h' FG' F' N' B' X' T'; (try dsimp only); (try k_lift B'); (try k_fold))
  iterate 2 (first | (k_unfold; (try dsimp only)) | walk1 | (dsimp only; walk1))
  with_unfolding_all refine' For_invVF F' ?k1 ?k2 ?_
  case k1 => exact rfl
  case k2 => exact rfl
  k_whole
  iterate 7 (first | (k_unfold; (try dsimp only)) | walk1 | (dsimp only; walk1))
  refine own_tup (vs := [Value.int p tp, Value.int q tq]) (k := 0) (fun i m nx => nx = _ ∧ m (Str.ofString "self") = some (.ref _) ∧ m (Str.ofString "compression") = some (.int p tp) ∧ m (Str.ofString "encryption") = some (.int q tq)) (by rfl) (by k_asm) (by k_asm) (.head _) ⟨rfl, rfl, rfl, rfl⟩ (fun i m nx h => by rw [h.1]; exact .head _) ?_ ?_
  · rintro i v m₁ nx h7 tk7 I oI hv ⟨rfl, j1, j2, j3⟩ hI F7 N7
    obtain ⟨z, tz, rfl, hz1, hz2⟩ := two_ints hv hp hp2 hq hq2
    k_steps
    refine own_end _ (by k_asm) (by k_asm) hI ⟨rfl, ?_, ?_, ?_⟩
    · exact (if_neg (by decide)).trans j1
    · exact (if_neg (by decide)).trans j2
    · exact (if_neg (by decide)).trans j3
  · rintro m₁ nx h7 tk7 ⟨rfl, j1, j2, j3⟩ F7 N7
    have F8 := map_3of F7 j1 j2 j3
    clear F7
    k_steps
    refine hret _ [_, _, _] _ _ (by k_asm) (by k_asm) ?_ ⟨x', rfl, d', _, _, _, _, _, .tail _ (.head _), .tail _ (.tail _ (.head _))⟩
    intro q hq p hp
    have h1 := ltN ((‹∀ p ∈ news, p.1 < d'›) q hq)
    have h2 : (q.1 : Nat) < x' := Nat.lt_trans h1 l2
    simp only [List.mem_cons, List.not_mem_nil, or_false] at hp
    rcases hp with rfl | rfl | rfl <;> (dsimp only; refine ltN ?_; omega)
end Mine
end
section
open PySem PySem.W PyProof.Rows PySem.Calls
set_option Elab.async false
set_option maxRecDepth 100000
set_option maxHeartbeats 8000000
namespace Mine
/-- the turn's new things lie above the old ones -/
structure Above (I ld lm lw R : Addr) (tl9 : List (Addr × Obj)) : Prop where
  i : I < R
  d : ld < R
  m : lm < R
  w : lw < R
  t : ∀ p ∈ tl9, I < p.1 ∧ ld < p.1 ∧ lm < p.1 ∧ lw < p.1 ∧ p.1 < R
theorem good_end {P : Params} {ld lm lw ln : Addr} {vsN : List Value} {kn i : Nat} {m : PySem.Str → Option Value} {c : Ln} {tl tlk tl9 : List (Addr × Obj)} {M C R loc kd : Addr} {n5 n6 n7 nR nC nM : Nat} {oM oC oR : Obj}
    {x y f g p q a b : Int} {t1 t2 t3 t4 t5 t6 t7 t8 : Tok}
    (hfacts : LnFacts P tl c) (hok : ∀ d ∈ c.gs, d.Ok) (hgs : c.gs.length ≤ i) (hes : c.es.length = i) (htl : ∀ p ∈ tl, p.1 ≠ ld ∧ p.1 ≠ lm ∧ p.1 ≠ lw)
    (eR : oR = listOf (List.toArray [.int 1 t1, .int 1 t2]) nR) (eC : oC = listOf (List.toArray [.int p t3, .int q t4, .int a t5, .int b t6, .int (Int.fmod x (256 ^ a.toNat)) t7, .int (Int.fmod y (256 ^ b.toNat)) t8]) nC)
    (eM : oM = listOf (List.toArray [.ref loc, .ref kd]) nM) (ha : a = f / 8) (hb : b = g / 8) (hL : LocAt P tl9 loc x y f g) (hK : KindAt P tlk kd p q)
    (hd : Gd.Ok ⟨x, y, f, g, p, q⟩)
    (hM : ld < M ∧ lm < M ∧ lw < M) (hC : ld < C ∧ lm < C ∧ lw < C) (hR : ld < R ∧ lm < R ∧ lw < R) (hk : ∀ p ∈ tlk, ld < p.1 ∧ lm < p.1 ∧ lw < p.1) (h9 : ∀ p ∈ tl9, ld < p.1 ∧ lm < p.1 ∧ lw < p.1)
    (m1 : m (Str.ofString "numbers") = some (.ref ln)) (m2 : m (Str.ofString "words") = some (.ref lw)) (m3 : m (Str.ofString "made") = some (.ref lm)) (m4 : m (Str.ofString "due") = some (.ref ld)) :
    LJ P ld lm lw ln vsN kn (i + 1) m ((ld, listOf (List.toArray (c.vd ++ [.ref C])) n6) :: (lm, listOf (List.toArray (c.vm ++ [.ref M])) n7) :: (lw, listOf (List.toArray (c.vw ++ [.ref R])) n5) :: (ln, listOf (List.toArray vsN) kn) :: ((M, oM) :: (C, oC) :: (R, oR) :: (tlk ++ (tl9 ++ tl)))) := by
  subst ha hb eR eC eM
  have up : ∀ z ∈ tl, z ∈ ((M, listOf (List.toArray [Value.ref loc, .ref kd]) nM) :: (C, listOf (List.toArray [.int p t3, .int q t4, .int (f / 8) t5, .int (g / 8) t6, .int (Int.fmod x (256 ^ (f / 8).toNat)) t7, .int (Int.fmod y (256 ^ (g / 8).toNat)) t8]) nC) :: (R, listOf (List.toArray [.int 1 t1, .int 1 t2]) nR) :: (tlk ++ (tl9 ++ tl))) :=
    fun p hp => .tail _ (.tail _ (.tail _ (List.mem_append_right _ (List.mem_append_right _ hp))))
  refine ⟨⟨c.gs ++ [⟨x, y, f, g, p, q⟩], c.es ++ [1], c.vw ++ [.ref R], c.vm ++ [.ref M], c.vd ++ [.ref C], n5, n7, n6⟩, _, rfl, ⟨?_, ?_, ?_⟩, ?_, ?_, ?_, ?_, m1, m2, m3, m4⟩
  · dsimp only
    rw [List.map_append]
    exact DatAll.append (hfacts.w.mono up) (.one (.list (.tail _ (.tail _ (.head _))) (.cons (.int _ _) (.cons (.int _ _) .nil))))
  · dsimp only
    rw [List.map_append]
    exact DatAll.append (hfacts.d.mono up) (.one (.list (.tail _ (.head _)) (.cons (.int _ _) (.cons (.int _ _) (.cons (.int _ _) (.cons (.int _ _) (.cons (.int _ _) (.cons (.int _ _) .nil))))))))
  · exact (hfacts.m.mono up).snoc (.head _) (hL.mono fun p hp => .tail _ (.tail _ (.tail _ (List.mem_append_right _ (List.mem_append_left _ hp))))) (hK.mono fun p hp => .tail _ (.tail _ (.tail _ (List.mem_append_left _ hp))))
  · intro d hd'
    rcases List.mem_append.mp hd' with hd' | hd'
    · exact hok d hd'
    · rw [List.mem_singleton.mp hd']; exact hd
  · simp only [List.length_append, List.length_singleton]; omega
  · simp only [List.length_append, List.length_singleton]; omega
  · intro p hp
    rcases List.mem_cons.mp hp with rfl | hp
    · exact ⟨Nat.ne_of_gt hM.1, Nat.ne_of_gt hM.2.1, Nat.ne_of_gt hM.2.2⟩
    rcases List.mem_cons.mp hp with rfl | hp
    · exact ⟨Nat.ne_of_gt hC.1, Nat.ne_of_gt hC.2.1, Nat.ne_of_gt hC.2.2⟩
    rcases List.mem_cons.mp hp with rfl | hp
    · exact ⟨Nat.ne_of_gt hR.1, Nat.ne_of_gt hR.2.1, Nat.ne_of_gt hR.2.2⟩
    rcases List.mem_append.mp hp with hp | hp
    · exact ⟨Nat.ne_of_gt (hk p hp).1, Nat.ne_of_gt (hk p hp).2.1, Nat.ne_of_gt (hk p hp).2.2⟩
    rcases List.mem_append.mp hp with hp | hp
    · exact ⟨Nat.ne_of_gt (h9 p hp).1, Nat.ne_of_gt (h9 p hp).2.1, Nat.ne_of_gt (h9 p hp).2.2⟩
    · exact htl p hp
theorem bad_end {P : Params} {ld lm lw ln : Addr} {vsN : List Value} {kn i : Nat} {m : PySem.Str → Option Value} {c : Ln} {tl : List (Addr × Obj)} {R : Addr} {n5 nR : Nat} {oR : Obj} {t1 t2 : Tok}
    (hfacts : LnFacts P tl c) (hok : ∀ d ∈ c.gs, d.Ok) (hgs : c.gs.length ≤ i) (hes : c.es.length = i) (htl : ∀ p ∈ tl, p.1 ≠ ld ∧ p.1 ≠ lm ∧ p.1 ≠ lw)
    (eR : oR = listOf (List.toArray [.int 0 t1, .int 0 t2]) nR) (hR : ld < R ∧ lm < R ∧ lw < R)
    (m1 : m (Str.ofString "numbers") = some (.ref ln)) (m2 : m (Str.ofString "words") = some (.ref lw)) (m3 : m (Str.ofString "made") = some (.ref lm)) (m4 : m (Str.ofString "due") = some (.ref ld)) :
    LJ P ld lm lw ln vsN kn (i + 1) m ((ld, listOf (List.toArray c.vd) c.kd) :: (lm, listOf (List.toArray c.vm) c.km) :: (lw, listOf (List.toArray (c.vw ++ [.ref R])) n5) :: (ln, listOf (List.toArray vsN) kn) :: ((R, oR) :: tl)) := by
  subst eR
  have up : ∀ p ∈ tl, p ∈ ((R, listOf (List.toArray [.int 0 t1, .int 0 t2]) nR) :: tl) := fun p hp => .tail _ hp
  refine ⟨⟨c.gs, c.es ++ [0], c.vw ++ [.ref R], c.vm, c.vd, n5, c.km, c.kd⟩, _, rfl, ⟨?_, hfacts.d.mono up, hfacts.m.mono up⟩, hok, Nat.le_succ_of_le hgs, ?_, ?_, m1, m2, m3, m4⟩
  · dsimp only
    rw [List.map_append]
    exact DatAll.append (hfacts.w.mono up) (.one (.list (.head _) (.cons (.int _ _) (.cons (.int _ _) .nil))))
  · simp only [List.length_append, List.length_singleton]; omega
  · intro p hp
    rcases List.mem_cons.mp hp with rfl | hp
    · exact ⟨Nat.ne_of_gt hR.1, Nat.ne_of_gt hR.2.1, Nat.ne_of_gt hR.2.2⟩
    · exact htl p hp
section
variable {prog : Program} {w : World} {A : Around} {E : Value → Shared → Prop} {s : Shared} {Q : Value → Shared → Prop} {h₀ : Heap} {L : Addr} {m : PySem.Str → Option Value}
theorem append_made {M I2 ld lm lw C R hv I : Addr} {oM o2 od oC ow oR oh oI : Obj} {tlk tl9 rest : List (Addr × Obj)} {vs : List Value} {n : Nat} {v : Value} (F : Fr h₀ L s.heap m)
    (N : News h₀ L s.heap ((M, oM) :: (tlk ++ ((I2, o2) :: (ld, od) :: (C, oC) :: (lw, ow) :: (R, oR) :: (tl9 ++ ((hv, oh) :: (I, oI) :: (lm, listOf vs.toArray n) :: rest))))))
    (hM : ∀ p ∈ (tlk ++ ((I2, o2) :: (ld, od) :: (C, oC) :: (lw, ow) :: (R, oR) :: (tl9 ++ ((hv, oh) :: (I, oI) :: (lm, listOf vs.toArray n) :: rest)))), p.1 < M)
    (hk : ∀ q ∈ ((I2, o2) :: (ld, od) :: (C, oC) :: (lw, ow) :: (R, oR) :: (tl9 ++ ((hv, oh) :: (I, oI) :: (lm, listOf vs.toArray n) :: rest))), ∀ p ∈ tlk, q.1 < p.1)
    (h1 : lm ≠ I2) (h2 : lm ≠ ld) (h3 : lm ≠ C) (h4 : lm ≠ lw) (h5 : lm ≠ R) (h6 : ∀ p ∈ tl9, lm < p.1) (h7 : lm ≠ hv) (h8 : lm ≠ I) (h9 : ∀ p ∈ rest, p.1 ≠ lm) (hsz : vs.length ≤ 1000)
    (h : (I < M ∧ I2 < M ∧ ld < M ∧ lm < M ∧ lw < M) → (∀ p ∈ tlk, I < p.1 ∧ I2 < p.1 ∧ ld < p.1 ∧ lm < p.1 ∧ lw < p.1) → ∀ h' n' o', o' = oM → Fr h₀ L h' m → News h₀ L h' ((lm, listOf (vs ++ [v]).toArray n') :: (M, o') :: (tlk ++ ((I2, o2) :: (ld, od) :: (C, oC) :: (lw, ow) :: (R, oR) :: (tl9 ++ ((hv, oh) :: (I, oI) :: rest))))) → Q .none { s with heap := h' }) :
    wpAny (model prog w) A (call (.builtin "list.append") [.ref lm, v]) Q E s := by
  have a1 : (I2, o2) ∈ ((I2, o2) :: (ld, od) :: (C, oC) :: (lw, ow) :: (R, oR) :: (tl9 ++ ((hv, oh) :: (I, oI) :: (lm, listOf vs.toArray n) :: rest))) := .head _
  have a2 : (ld, od) ∈ ((I2, o2) :: (ld, od) :: (C, oC) :: (lw, ow) :: (R, oR) :: (tl9 ++ ((hv, oh) :: (I, oI) :: (lm, listOf vs.toArray n) :: rest))) := .tail _ (.head _)
  have a3 : (lw, ow) ∈ ((I2, o2) :: (ld, od) :: (C, oC) :: (lw, ow) :: (R, oR) :: (tl9 ++ ((hv, oh) :: (I, oI) :: (lm, listOf vs.toArray n) :: rest))) := .tail _ (.tail _ (.tail _ (.head _)))
  have a4 : (I, oI) ∈ ((I2, o2) :: (ld, od) :: (C, oC) :: (lw, ow) :: (R, oR) :: (tl9 ++ ((hv, oh) :: (I, oI) :: (lm, listOf vs.toArray n) :: rest))) := .tail _ (.tail _ (.tail _ (.tail _ (.tail _ (List.mem_append_right _ (.tail _ (.head _)))))))
  have a5 : (lm, listOf vs.toArray n) ∈ ((I2, o2) :: (ld, od) :: (C, oC) :: (lw, ow) :: (R, oR) :: (tl9 ++ ((hv, oh) :: (I, oI) :: (lm, listOf vs.toArray n) :: rest))) := .tail _ (.tail _ (.tail _ (.tail _ (.tail _ (List.mem_append_right _ (.tail _ (.tail _ (.head _))))))))
  have b5 := hM _ (List.mem_append_right _ a5)
  refine append_led ((M, oM) :: (tlk ++ ((I2, o2) :: (ld, od) :: (C, oC) :: (lw, ow) :: (R, oR) :: (tl9 ++ ((hv, oh) :: (I, oI) :: rest))))) F N (.tail _ (List.mem_append_right _ a5)) (fun p hp => ?_) hsz fun h' n' => h ⟨hM _ (List.mem_append_right _ a4), hM _ (List.mem_append_right _ a1), hM _ (List.mem_append_right _ a2), b5, hM _ (List.mem_append_right _ a3)⟩ (fun p hp => ⟨hk _ a4 p hp, hk _ a1 p hp, hk _ a2 p hp, hk _ a5 p hp, hk _ a3 p hp⟩) h' n' _ rfl
  simp only [List.mem_cons, List.mem_append] at hp ⊢
  rcases hp with rfl | hp | rfl | rfl | rfl | rfl | rfl | hp | rfl | rfl | hp
  · exact ⟨.inl rfl, Nat.ne_of_gt b5⟩
  · exact ⟨by simp [hp], Nat.ne_of_gt (hk _ a5 p hp)⟩
  · exact ⟨by simp, Ne.symm h1⟩
  · exact ⟨by simp, Ne.symm h2⟩
  · exact ⟨by simp, Ne.symm h3⟩
  · exact ⟨by simp, Ne.symm h4⟩
  · exact ⟨by simp, Ne.symm h5⟩
  · exact ⟨by simp [hp], Nat.ne_of_gt (h6 p hp)⟩
  · exact ⟨by simp, Ne.symm h7⟩
  · exact ⟨by simp, Ne.symm h8⟩
  · exact ⟨by simp [hp], h9 p hp⟩
theorem row_end {Q : Flow → Shared → Prop} {G : (PySem.Str → Option Value) → List (Addr × Obj) → Prop} {s₁ : Shared} {h' : Heap} {tk : Nat} {m' : PySem.Str → Option Value} {M I2 ld lm lw C R hv I ln l9 : Addr} {oM o2 od oC ow oR oh oI om on om0 om1 od0 ow0 o9 : Obj} {tlk tl9 tl : List (Addr × Obj)}
    (F : Fr h₀ L h' m') (N : News h₀ L h' ((lm, om) :: (M, oM) :: (tlk ++ ((I2, o2) :: (ld, od) :: (C, oC) :: (lw, ow) :: (R, oR) :: (tl9 ++ ((hv, oh) :: (I, oI) :: (ln, on) :: tl))))))
    (hI2 : ∀ p ∈ ((ld, od) :: (C, oC) :: (lw, ow) :: (R, oR) :: (tl9 ++ ((hv, oh) :: (I, oI) :: (lm, om0) :: (ln, on) :: tl))), p.1 ≠ I2)
    (hI : ∀ p ∈ ((ld, od0) :: (lm, om1) :: (lw, ow0) :: (ln, on) :: tl), p.1 ≠ I)
    (hM : I < M ∧ I2 < M ∧ ld < M ∧ lm < M ∧ lw < M) (hk : ∀ p ∈ tlk, I < p.1 ∧ I2 < p.1 ∧ ld < p.1 ∧ lm < p.1 ∧ lw < p.1) (hA : Above I ld lm lw R tl9) (hRC : R < C) (hm9 : (l9, o9) ∈ tl9)
    (hG : G m' ((ld, od) :: (lm, om) :: (lw, ow) :: (ln, on) :: ((M, oM) :: (C, oC) :: (R, oR) :: (tlk ++ (tl9 ++ tl))))) :
    OwnPost h₀ L I2 o2 (fun m nx => (l9, o9) ∈ nx ∧ ∃ nx', (∀ p ∈ (I, oI) :: nx', p ∈ nx) ∧ (∀ p ∈ nx', p.1 ≠ I) ∧ G m nx') s₁ Q .next { s₁ with heap := h', toks := tk } := by
  refine own_end ((I, oI) :: (ld, od) :: (lm, om) :: (lw, ow) :: (ln, on) :: ((M, oM) :: (C, oC) :: (R, oR) :: (tlk ++ (tl9 ++ tl)))) F (cb_drop N ?_) ?_ ⟨.tail _ (.tail _ (.tail _ (.tail _ (.tail _ (.tail _ (.tail _ (.tail _ (List.mem_append_right _ (List.mem_append_left _ hm9))))))))), _, fun p hp => hp, ?_, hG⟩
  · intro p hp
    simp only [List.mem_cons, List.mem_append] at hp ⊢
    rcases hp with rfl | rfl | rfl | rfl | rfl | rfl | rfl | rfl | rfl | hp | hp | hp <;> simp [*]
  · intro p hp
    have z : ∀ q o, (q, o) ∈ ((ld, od) :: (C, oC) :: (lw, ow) :: (R, oR) :: (tl9 ++ ((hv, oh) :: (I, oI) :: (lm, om0) :: (ln, on) :: tl))) → q ≠ I2 := fun q o h => hI2 _ h
    simp only [List.mem_cons, List.mem_append] at hp
    rcases hp with rfl | rfl | rfl | rfl | rfl | rfl | rfl | rfl | hp | hp | hp
    · exact z I oI (.tail _ (.tail _ (.tail _ (.tail _ (List.mem_append_right _ (.tail _ (.head _)))))))
    · exact z ld od (.head _)
    · exact z lm om0 (.tail _ (.tail _ (.tail _ (.tail _ (List.mem_append_right _ (.tail _ (.tail _ (.head _))))))))
    · exact z lw ow (.tail _ (.tail _ (.head _)))
    · exact z ln on (.tail _ (.tail _ (.tail _ (.tail _ (List.mem_append_right _ (.tail _ (.tail _ (.tail _ (.head _)))))))))
    · exact Nat.ne_of_gt hM.2.1
    · exact z C oC (.tail _ (.head _))
    · exact z R oR (.tail _ (.tail _ (.tail _ (.head _))))
    · exact Nat.ne_of_gt (hk p hp).2.1
    · exact hI2 p (.tail _ (.tail _ (.tail _ (.tail _ (List.mem_append_left _ hp)))))
    · exact hI2 p (.tail _ (.tail _ (.tail _ (.tail _ (List.mem_append_right _ (.tail _ (.tail _ (.tail _ (.tail _ hp)))))))))
  · intro p hp
    simp only [List.mem_cons, List.mem_append] at hp
    rcases hp with rfl | rfl | rfl | rfl | rfl | rfl | rfl | hp | hp | hp
    · exact hI (ld, od0) (.head _)
    · exact hI (lm, om1) (.tail _ (.head _))
    · exact hI (lw, ow0) (.tail _ (.tail _ (.head _)))
    · exact hI (ln, on) (.tail _ (.tail _ (.tail _ (.head _))))
    · exact Nat.ne_of_gt hM.1
    · exact Nat.ne_of_gt (Nat.lt_trans hA.i hRC)
    · exact Nat.ne_of_gt hA.i
    · exact Nat.ne_of_gt (hk p hp).1
    · exact Nat.ne_of_gt (hA.t p hp).1
    · exact hI p (.tail _ (.tail _ (.tail _ (.tail _ hp))))
theorem bad_own {Q : Flow → Shared → Prop} {G : (PySem.Str → Option Value) → List (Addr × Obj) → Prop} {s₁ : Shared} {h' : Heap} {tk : Nat} {m' : PySem.Str → Option Value} {ld lm lw R hv I ln : Addr} {od ow oR oh oI om on ow0 : Obj} {tl9 tl : List (Addr × Obj)}
    (F : Fr h₀ L h' m') (N : News h₀ L h' ((lw, ow) :: (R, oR) :: (tl9 ++ ((hv, oh) :: (I, oI) :: (ld, od) :: (lm, om) :: (ln, on) :: tl))))
    (hI : ∀ p ∈ ((ld, od) :: (lm, om) :: (lw, ow0) :: (ln, on) :: tl), p.1 ≠ I) (hA : Above I ld lm lw R tl9)
    (hG : G m' ((ld, od) :: (lm, om) :: (lw, ow) :: (ln, on) :: ((R, oR) :: tl))) :
    OwnPost h₀ L I oI G s₁ Q .next { s₁ with heap := h', toks := tk } := by
  refine own_end _ F (cb_drop N ?_) ?_ hG
  · intro p hp
    simp only [List.mem_cons, List.mem_append] at hp ⊢
    rcases hp with rfl | rfl | rfl | rfl | rfl | rfl | hp <;> simp [*]
  · intro p hp
    simp only [List.mem_cons] at hp
    rcases hp with rfl | rfl | rfl | rfl | rfl | hp
    · exact hI (ld, od) (.head _)
    · exact hI (lm, om) (.tail _ (.head _))
    · exact hI (lw, ow0) (.tail _ (.tail _ (.head _)))
    · exact hI (ln, on) (.tail _ (.tail _ (.tail _ (.head _))))
    · exact Nat.ne_of_gt hA.i
    · exact hI p (.tail _ (.tail _ (.tail _ (.tail _ hp))))
end
end Mine
end
section
open PySem PySem.W PyProof.Rows PySem.Calls
set_option Elab.async false
set_option maxRecDepth 100000
set_option maxHeartbeats 8000000
namespace Mine
theorem fillK10 : (PySem.Challenge.rw_fe0335_01, Mine.hd.heap_39) = (PySem.Challenge.rw_fe0335_01, Mine.hd.heap_39) := by
  k_fill
  rfl
local macro_rules | `(tactic| k_steps) => `(tactic| repeat' (first | (k_unfold; (try dsimp only)) | walk1 | (dsimp only; walk1) | (leave1; walk_say "STEP leave1"; (try dsimp only)) | fail "no step"))
local macro_rules | `(tactic| k_room) => `(tactic| ((try simp only [depth_under_make, depth_under_kw, depth_in1, depth_deeper, depth_mark]); (try dsimp only [ktrTop]); omega))
local macro_rules | `(tactic| k_units) => `(tactic| ((try simp only [units_deeper, units_make2, units_in1, Around.mark_units]); (try dsimp only [ktrTop]); omega))
local macro_rules | `(tactic| walk_at "InitBack") => `(tactic| (dsimp only [InitBack]))
local macro_rules | `(tactic| k_mem) => `(tactic| first | (with_reducible assumption) | (with_reducible exact List.mem_cons_self) | ((with_reducible refine List.mem_append_right _ ?_); k_mem) | ((with_reducible refine List.mem_cons_of_mem _ ?_); k_mem))
section
variable {prog : Program} {w : World} {A : Around} {E : Value → Shared → Prop} {s : Shared} {Q : Value → Shared → Prop} {h₀ : Heap} {L l : Addr} {m : PySem.Str → Option Value} {news : List (Addr × Obj)} {value slice : PySem.Expr} {vs : List Value} {ns : List Int} {n : Nat} {k : Int} {u : Tok}
theorem item_int (N : News h₀ L s.heap news) (hm : (l, listOf vs.toArray n) ∈ news) (hi : IntsAre vs ns) (h0 : 0 ≤ k) (h1 : k < ns.length) (hfit : k < 2 ^ 63) (h : ∀ x t, Q (.int x t) s)
    (hs : subscripted slice false (.ref l) (.int k u) = operate [.ref l, .int k u] (getItem (.ref l) (.int k u)) := by with_unfolding_all rfl) :
    wpAny (model prog w) A (subscriptTail value slice (.ref l) (.int k u)) Q E s :=
  ksa_sub N hm hi h0 h1 hfit (fun t => h _ t) hs
theorem item_fmt (N : News h₀ L s.heap news) (hm : (l, listOf vs.toArray n) ∈ news) (hl : vs.length = 13) (ha : ∀ v ∈ vs, v = .none ∨ ∃ f t, v = .int f t) (h0 : 0 ≤ k) (h1 : k < 13) (h : ∀ v, Fmt v → Q v s)
    (hs : subscripted slice false (.ref l) (.int k u) = operate [.ref l, .int k u] (getItem (.ref l) (.int k u)) := by with_unfolding_all rfl) :
    wpAny (model prog w) A (subscriptTail value slice (.ref l) (.int k u)) Q E s := by
  have hlt : k.toNat < vs.length := by omega
  exact item_mem N hm h0 (by omega) (List.getElem?_eq_getElem hlt) (h _ (ha _ (List.getElem_mem hlt))) hs
end
local macro_rules | `(tactic| walk_at "subscriptTail Name BinOp ref int") => `(tactic| (k_here; (with_reducible show wpAny _ _ (subscriptTail _ _ (Value.ref _) (Value.int _ _)) _ _ _); (refine item_int (by k_asm) (by k_mem) (by assumption) (by omega) (by omega) (by omega) ?_); intro _ _))
theorem mod_any16 {prog : Program} {w : World} {A : Around} {E : Value → Shared → Prop} {s : Shared} {Q : Value → Shared → Prop} {a : Int} {t u : Tok} (h : ∀ q t' k, 0 ≤ q → q < 16 → Q (.int q t') { s with toks := k }) : wpAny (model prog w) A (binaryOp .Mod (.int a t) (.int 16 u)) Q E s :=
  mod_int' (by decide) (h _ _ _ (Int.fmod_nonneg_of_pos _ (by decide)) (Int.fmod_lt_of_pos _ (by decide)))
local macro_rules | `(tactic| walk_at "binaryOp Mod int int") => `(tactic| (k_here; (with_reducible show wpAny _ _ (binaryOp _ _ (Value.int 16 _)) _ _ _); (refine mod_any16 ?_); intro _ _ _ _ _))
local macro_rules | `(tactic| walk_at "subscriptTail Name Constant ref int") => `(tactic| (k_here; (with_reducible show wpAny _ _ (subscriptTail _ _ (Value.ref _) (Value.int _ _)) _ _ _); (with_unfolding_all refine' item_mem ?k1 ?k2 ?k3 ?k4 ?k5 ?_ ?k7; (case k1 => k_asm); (case k2 => k_mem); (case k3 => decide); (case k4 => decide); (case k5 => rfl); (case k7 => with_unfolding_all rfl); k_whole)))
local macro_rules | `(tactic| walk_at "call ref cons nil") => `(tactic| (k_here; (with_reducible show wpAny _ _ (call (Value.ref 243) _) _ _ _); k_dflt (refine' Does.use (worth_does _ _ _ _) ?k1 ?k2 ?k3 ?k4 ?k5 ?kK ?kd ?ku ?_); (case k1 => k_asm); (case k2 => k_asm); (case k3 => k_asm); (case k4 => k_asm); (case k5 => k_asm); (case kK => first | exact rfl | assumption); (case kd => k_room); (case ku => k_units); intro r9 tl9 h9 tk9 F9 N9 hl9 ho9; obtain ⟨e9', v9, t9, e9, lo9, hi9⟩ := ho9; subst e9; subst e9'; (try simp only [List.nil_append] at N9); (try dsimp only); (try k_fold)))
local macro_rules | `(tactic| walk_at "subscriptTail Call Name nil nil BinOp ref int") => `(tactic| (k_here; (with_reducible show wpAny _ _ (subscriptTail _ _ (Value.ref _) (Value.int _ _)) _ _ _); (refine item_fmt (by k_asm) (by k_mem) (by assumption) (by assumption) (Int.fmod_nonneg_of_pos _ (by decide)) (Int.fmod_lt_of_pos _ (by decide)) ?_); intro _ _))
local macro_rules | `(tactic| walk_at "call ref nil") => `(tactic| (k_here; (with_reducible show wpAny _ _ (call (Value.ref 229) _) _ _ _); k_dflt (refine' Does.use (formats_does _ _) ?k1 ?k2 ?k3 ?k4 ?k5 ?kK ?kd ?ku ?_); (case k1 => k_asm); (case k2 => k_asm); (case k3 => k_asm); (case k4 => k_asm); (case k5 => k_asm); (case kK => first | exact rfl | assumption); (case kd => k_room); (case ku => k_units); intro r9 tl9 h9 tk9 F9 N9 hl9 ho9; obtain ⟨l9, vs9, e9, e9', hv9, ha9⟩ := ho9; subst e9; subst e9'; (try simp only [List.cons_append, List.nil_append] at N9); (try dsimp only); (try k_fold)))
local macro_rules | `(tactic| walk_at "call ref cons nil") => `(tactic| (k_here; (with_reducible show wpAny _ _ (call (Value.ref 250) _) _ _ _); k_dflt (refine' Does.use (width_does _ _ _ _ _ ?n1 ?n2) ?k1 ?k2 ?k3 ?k4 ?k5 ?kK ?kd ?ku ?_); (case k1 => k_asm); (case k2 => k_asm); (case k3 => k_asm); (case k4 => k_asm); (case k5 => k_asm); (case n1 => assumption); (case n2 => assumption); (case kK => first | exact rfl | assumption); (case kd => k_room); (case ku => k_units); intro r9 tl9 h9 tk9 F9 N9 hl9 ho9; obtain ⟨e9', t9, e9⟩ := ho9; subst e9; subst e9'; (try simp only [List.nil_append] at N9); (try dsimp only); (try k_fold)))
section
variable {prog : Program} {w : World} {A : Around} {E : Value → Shared → Prop} {s : Shared} {Q : Value → Shared → Prop} {h₀ : Heap} {L : Addr} {m : PySem.Str → Option Value}
theorem at9 {α : Type} {a0 a1 a2 a3 a4 a5 a6 a7 a8 a9 : α} {l : List α} : a9 ∈ a0 :: a1 :: a2 :: a3 :: a4 :: a5 :: a6 :: a7 :: a8 :: a9 :: l := .tail _ (.tail _ (.tail _ (.tail _ (.tail _ (.tail _ (.tail _ (.tail _ (.tail _ (.head _)))))))))
theorem at8 {α : Type} {a0 a1 a2 a3 a4 a5 a6 a7 a8 : α} {l : List α} : a8 ∈ a0 :: a1 :: a2 :: a3 :: a4 :: a5 :: a6 :: a7 :: a8 :: l := .tail _ (.tail _ (.tail _ (.tail _ (.tail _ (.tail _ (.tail _ (.tail _ (.head _))))))))
theorem at7 {α : Type} {a0 a1 a2 a3 a4 a5 a6 a7 : α} {l : List α} : a7 ∈ a0 :: a1 :: a2 :: a3 :: a4 :: a5 :: a6 :: a7 :: l := .tail _ (.tail _ (.tail _ (.tail _ (.tail _ (.tail _ (.tail _ (.head _)))))))
theorem at6 {α : Type} {a0 a1 a2 a3 a4 a5 a6 : α} {l : List α} : a6 ∈ a0 :: a1 :: a2 :: a3 :: a4 :: a5 :: a6 :: l := .tail _ (.tail _ (.tail _ (.tail _ (.tail _ (.tail _ (.head _))))))
theorem append_words {R hv I ld lm lw : Addr} {oR oh oI od om : Obj} {tl9 rest : List (Addr × Obj)} {p0 p1 p2 p3 p4 : Addr × Obj} {vs : List Value} {n : Nat} {v : Value} (F : Fr h₀ L s.heap m)
    (N : News h₀ L s.heap ((R, oR) :: (tl9 ++ (p0 :: (hv, oh) :: p1 :: p2 :: p3 :: p4 :: (I, oI) :: (ld, od) :: (lm, om) :: (lw, listOf vs.toArray n) :: rest))))
    (hR : ∀ p ∈ (tl9 ++ (p0 :: (hv, oh) :: p1 :: p2 :: p3 :: p4 :: (I, oI) :: (ld, od) :: (lm, om) :: (lw, listOf vs.toArray n) :: rest)), p.1 < R)
    (h2' : ∀ q ∈ (p0 :: (hv, oh) :: p1 :: p2 :: p3 :: p4 :: (I, oI) :: (ld, od) :: (lm, om) :: (lw, listOf vs.toArray n) :: rest), ∀ p ∈ tl9, q.1 < p.1) (h3 : lw ≠ hv) (h4 : lw ≠ I) (h5 : lw ≠ ld) (h6 : lw ≠ lm) (h7 : ∀ p ∈ rest, p.1 ≠ lw) (hsz : vs.length ≤ 1000)
    (h : Above I ld lm lw R tl9 → ∀ h' n' o', o' = oR → Fr h₀ L h' m → News h₀ L h' ((lw, listOf (vs ++ [v]).toArray n') :: (R, o') :: (tl9 ++ ((hv, oh) :: (I, oI) :: (ld, od) :: (lm, om) :: rest))) → Q .none { s with heap := h' }) :
    wpAny (model prog w) A (call (.builtin "list.append") [.ref lw, v]) Q E s := by
  have h1 : lw ≠ R := Nat.ne_of_lt (hR (lw, listOf vs.toArray n) (List.mem_append_right _ at9))
  have h2 : ∀ p ∈ tl9, lw < p.1 := fun p hp => h2' (lw, listOf vs.toArray n) at9 p hp
  refine append_led ((R, oR) :: (tl9 ++ ((hv, oh) :: (I, oI) :: (ld, od) :: (lm, om) :: rest))) F N (.tail _ (List.mem_append_right _ at9)) (fun p hp => ?_) hsz fun h' n' => h ⟨hR _ (List.mem_append_right _ at6), hR _ (List.mem_append_right _ at7), hR _ (List.mem_append_right _ at8), hR _ (List.mem_append_right _ at9), fun p hp => ⟨h2' _ at6 p hp, h2' _ at7 p hp, h2' _ at8 p hp, h2' _ at9 p hp, hR p (List.mem_append_left _ hp)⟩⟩ h' n' _ rfl
  · simp only [List.mem_cons, List.mem_append] at hp ⊢
    rcases hp with rfl | hp | rfl | rfl | rfl | rfl | hp
    · exact ⟨.inl rfl, Ne.symm h1⟩
    · exact ⟨.inr (.inl hp), Nat.ne_of_gt (h2 p hp)⟩
    · exact ⟨by simp, Ne.symm h3⟩
    · exact ⟨by simp, Ne.symm h4⟩
    · exact ⟨by simp, Ne.symm h5⟩
    · exact ⟨by simp, Ne.symm h6⟩
    · exact ⟨by simp [hp], h7 p hp⟩
end
section
variable {prog : Program} {w : World} {A : Around} {E : Value → Shared → Prop} {s : Shared} {Q : Value → Shared → Prop} {h₀ : Heap} {L : Addr} {m : PySem.Str → Option Value}
theorem append_due {C R hv I ld lm lw : Addr} {oC oR oh oI ow om : Obj} {tl9 rest : List (Addr × Obj)} {pL : Addr × Obj} {vs : List Value} {n : Nat} {v : Value} (F : Fr h₀ L s.heap m)
    (N : News h₀ L s.heap ((C, oC) :: pL :: (lw, ow) :: (R, oR) :: (tl9 ++ ((hv, oh) :: (I, oI) :: (ld, listOf vs.toArray n) :: (lm, om) :: rest))))
    (hC : AllLt C (pL :: (lw, ow) :: (R, oR) :: (tl9 ++ ((hv, oh) :: (I, oI) :: (ld, listOf vs.toArray n) :: (lm, om) :: rest)))) (hA : Above I ld lm lw R tl9)
    (h3 : ld ≠ hv) (h4 : ld ≠ I) (h5 : ld ≠ lw) (h6 : ld ≠ lm) (h7 : ∀ p ∈ rest, p.1 ≠ ld) (hsz : vs.length ≤ 1000)
    (h : R < C → ∀ h' n' o', o' = oC → Fr h₀ L h' m → News h₀ L h' ((ld, listOf (vs ++ [v]).toArray n') :: (C, o') :: (lw, ow) :: (R, oR) :: (tl9 ++ ((hv, oh) :: (I, oI) :: (lm, om) :: rest))) → Q .none { s with heap := h' }) :
    wpAny (model prog w) A (call (.builtin "list.append") [.ref ld, v]) Q E s := by
  have hC' := allLt_out hC
  have h1 : R < C := hC' (R, oR) (.tail _ (.tail _ (.head _)))
  have hd : ld < C := Nat.lt_trans hA.d h1
  refine append_led ((C, oC) :: (lw, ow) :: (R, oR) :: (tl9 ++ ((hv, oh) :: (I, oI) :: (lm, om) :: rest))) F N (.tail _ (.tail _ (.tail _ (.tail _ (List.mem_append_right _ (.tail _ (.tail _ (.head _)))))))) (fun p hp => ?_) hsz fun h' n' => h h1 h' n' _ rfl
  simp only [List.mem_cons, List.mem_append] at hp ⊢
  rcases hp with rfl | rfl | rfl | hp | rfl | rfl | rfl | hp
  · exact ⟨.inl rfl, Nat.ne_of_gt hd⟩
  · exact ⟨by simp, Ne.symm h5⟩
  · exact ⟨by simp, Nat.ne_of_gt hA.d⟩
  · exact ⟨by simp [hp], Nat.ne_of_gt (hA.t p hp).2.1⟩
  · exact ⟨by simp, Ne.symm h3⟩
  · exact ⟨by simp, Ne.symm h4⟩
  · exact ⟨by simp, Ne.symm h6⟩
  · exact ⟨by simp [hp], h7 p hp⟩
end
theorem wid_bad {v1 v2 : Value} {x y : Int} (h1 : Fmt v1) (h2 : Fmt v2) (hx : 0 ≤ x) (hx2 : x < 9223372036854775808) (hy : 0 ≤ y) (hy2 : y < 9223372036854775808) (h : ¬ (inE (fm v1 x) = true ∧ inE (fm v2 y) = true)) : wid v1 x = 0 ∨ wid v2 y = 0 := by
  by_cases ha : inE (fm v1 x) = true
  · exact .inr (wid_out h2 hy hy2 fun hb => h ⟨ha, hb⟩)
  · exact .inl (wid_out h1 hx hx2 ha)
local macro_rules | `(tactic| walk_at "call ref cons nil") => `(tactic| (k_here; (with_reducible show wpAny _ _ (call (Value.ref 218) _) _ _ _); k_dflt (refine' Does.use (kind_does _ _ _ _ _ _ ?n1 ?n2 ?n3 ?n4) ?k1 ?k2 ?k3 ?k4 ?k5 ?kK ?kd ?ku ?_); (case k1 => k_asm); (case k2 => k_asm); (case k3 => k_asm); (case k4 => k_asm); (case k5 => k_asm); (case n1 => assumption); (case n2 => assumption); (case n3 => assumption); (case n4 => assumption); (case kK => first | exact rfl | assumption); (case kd => k_room); (case ku => k_units); intro r9 tl9 h9 tk9 F9 N9 hl9 ho9; obtain ⟨kd9, e9, hk9⟩ := ho9; subst e9; (try dsimp only); (try k_fold)))
theorem third_at {a i : Nat} (h : i < a / 3) : 3 * i + 2 < a := by omega
theorem turn_holds : part2.1 := by
  delta part2
  dsimp only
  intros
  rename_i i t m1 c tl h' tk' I oI G hG hi hfacts hok hgs hes htl hI F1 N1
  have hlen3 := third_at hi
  have hi4 : i < 4 := Nat.lt_of_lt_of_le hi (third_le _)
  have hvw : c.vw.length ≤ 1000 := by
    have := hfacts.w.length
    rw [List.length_map] at this
    omega
  have hvd : c.vd.length ≤ 1000 := by
    have := hfacts.d.length
    rw [List.length_map] at this
    omega
  have hvm : c.vm.length ≤ 1000 := by
    have := hfacts.m.length
    omega
  iterate 180 (first | (k_unfold; (try dsimp only)) | walk1 | (dsimp only; walk1))
  k_dflt (refine' Does0.use (made_does _ _ _ _ _ _ _ _ _ _ ?n1 ?n2 ?n3 ?n4 ?n5 ?n6 ?n7) ?k1 ?k2 ?k3 ?k4 ?k5 ?k6 ?k7 ?kK ?kd ?ku ?_)
  case n4 => assumption
  case n5 => assumption
  case n6 => assumption
  case n7 => assumption
  case k1 => k_asm
  case k2 => k_asm
  case k3 => k_asm
  case k4 => k_asm
  case k5 => k_asm
  case k6 => k_asm
  case k7 => k_asm
  case n3 => k_mem
  case n1 => assumption
  case n2 => assumption
  case kK => first | exact rfl | assumption
  case kd => k_room
  case ku => k_units
  intro r9 tl9 h9 tk9 F9 N9 hl9 ho9
  (try dsimp only)
  (try k_fold)
  rcases ho9 with ⟨gf, gg, l9, loc9, rfl, hm9, hloc⟩ | ⟨hbad, l9, rfl, etl⟩
  · have wa := wid_in (by assumption) (by assumption) (by assumption) gf
    have wb := wid_in (by assumption) (by assumption) (by assumption) gg
    have ra := inE_range gf
    have rb := inE_range gg
    iterate 41 (first | (k_unfold; (try dsimp only)) | walk1 | (dsimp only; walk1))
    refine append_words (by k_asm) (by k_asm) (by assumption) (by assumption) (by show (_ : Nat) ≠ _; omega) (hI _ (.tail _ (.tail _ (.head _)))) (by show (_ : Nat) ≠ _; omega) (by show (_ : Nat) ≠ _; omega) ?_ hvw ?_
    · intro p hp
      rcases List.mem_cons.mp hp with rfl | hp
      · show (_ : Nat) ≠ _
        omega
      · exact (htl p hp).2.2
    intro hA h5 n5 o5 e5 F5 N5
    iterate 54 (first | (k_unfold; (try dsimp only)) | walk1 | (dsimp only; walk1))
    refine append_due (by k_asm) (by k_asm) (by assumption) hA (by show (_ : Nat) ≠ _; omega) (hI _ (.head _)) (by show (_ : Nat) ≠ _; omega) (by show (_ : Nat) ≠ _; omega) ?_ hvd ?_
    · intro p hp
      rcases List.mem_cons.mp hp with rfl | hp
      · show (_ : Nat) ≠ _
        omega
      · exact (htl p hp).1
    intro hRC h6 n6 o6 e6 F6 N6
    iterate 5 (first | (k_unfold; (try dsimp only)) | walk1 | (dsimp only; walk1))
    refine one_turn (fun m nx => (l9, listOf (List.toArray [Value.ref loc9]) 0) ∈ nx ∧ ∃ nx', (∀ p ∈ (I, oI) :: nx', p ∈ nx) ∧ (∀ p ∈ nx', p.1 ≠ I) ∧ G m nx') (by rfl) (by k_asm) (by k_asm) (.tail _ (.tail _ (.tail _ (.tail _ (List.mem_append_left _ hm9))))) (fun m nx h => h.1) ?_ ?_
    · intro h7 tk7 I2 oI2 hI2 F7 N7
      iterate 31 (first | (k_unfold; (try dsimp only)) | walk1 | (dsimp only; walk1))
      refine append_made (by k_asm) (by k_asm) (by assumption) (by assumption) (hI2 _ (.tail _ (.tail _ (.tail _ (.tail _ (List.mem_append_right _ (.tail _ (.tail _ (.head _))))))))) (by show (_ : Nat) ≠ _; omega) (Nat.ne_of_lt (Nat.lt_trans hA.m hRC)) (by show (_ : Nat) ≠ _; omega) (Nat.ne_of_lt hA.m) (fun p hp => (hA.t p hp).2.2.1) (by show (_ : Nat) ≠ _; omega) (hI _ (.tail _ (.head _))) ?_ hvm ?_
      · intro p hp
        rcases List.mem_cons.mp hp with rfl | hp
        · show (_ : Nat) ≠ _
          omega
        · exact (htl p hp).2.1
      intro hM9 hk9' h8 n8 o8 e8 F8 N8
      k_steps
      refine row_end (by k_asm) (by k_asm) hI2 hI hM9 hk9' hA hRC hm9 (hG _ _ ?_)
      refine good_end hfacts hok hgs hes htl e5 e6 e8 wa wb hloc (by assumption) ⟨⟨by assumption, by assumption⟩, ⟨by assumption, by assumption⟩, ⟨gf, gg⟩, ⟨by assumption, by assumption⟩, ⟨by assumption, by assumption⟩⟩ hM9.2.2 ⟨Nat.lt_trans hA.d hRC, Nat.lt_trans hA.m hRC, Nat.lt_trans hA.w hRC⟩ ⟨hA.d, hA.m, hA.w⟩ (fun p hp => (hk9' p hp).2.2) (fun p hp => ⟨(hA.t p hp).2.1, (hA.t p hp).2.2.1, (hA.t p hp).2.2.2.1⟩) ?_ ?_ ?_ ?_
      · rfl
      · rfl
      · rfl
      · rfl
    · rintro m7 nx7 h7 tk7 ⟨-, nx', hs7, hI7, hJ7⟩ F7 F7x
      k_steps
      exact own_end nx' (by k_asm) (cb_drop F7x hs7) hI7 hJ7
  · have wz := wid_bad (by assumption) (by assumption) (by assumption) (by assumption) (by assumption) (by assumption) hbad
    have hm9 : (l9, listOf (List.toArray []) 0) ∈ tl9 := by rw [etl]; exact .head _
    clear etl
    iterate 28 (first | (k_unfold; (try dsimp only)) | walk1 | (dsimp only; walk1))
    all_goals (iterate 12 (try (first | (k_unfold; (try dsimp only)) | walk1 | (dsimp only; walk1))))
    all_goals refine append_words (by k_asm) (by k_asm) (by assumption) (by assumption) (by show (_ : Nat) ≠ _; omega) (hI _ (.tail _ (.tail _ (.head _)))) (by show (_ : Nat) ≠ _; omega) (by show (_ : Nat) ≠ _; omega) ?_ hvw ?_
    all_goals (try (intro p hp; rcases List.mem_cons.mp hp with rfl | hp; (· show (_ : Nat) ≠ _; omega); (· exact (htl p hp).2.2)))
    all_goals intro hA h5 n5 o5 e5 F5 N5
    all_goals k_steps
    all_goals refine zero_turn (by rfl) (by k_asm) (by k_asm) (.tail _ (.tail _ (List.mem_append_left _ hm9))) ?_
    all_goals intro h8 tk8 F8 N8
    all_goals k_steps
    all_goals refine bad_own (by k_asm) (by k_asm) hI hA (hG _ _ ?_)
    all_goals refine bad_end hfacts hok hgs hes htl e5 ⟨hA.d, hA.m, hA.w⟩ ?_ ?_ ?_ ?_
    all_goals rfl
end Mine
end
section
open PySem PySem.W PyProof.Rows PySem.Calls
set_option maxRecDepth 100000
set_option Elab.async false
namespace Mine
section
variable {prog : Program} {w : World} {A : Around} {E : Value → Shared → Prop} {s : Shared} {env : Env} {h₀ : Heap}
/-- a list of two is taken apart -/
theorem unpack_pair {t : Addr} {a b : Value} {Q : List Value → Shared → Prop} (hh : A.handled = none) (ht : s.heap.IsList t (List.toArray [a, b]))
    (hQ : ∀ h', Heap.ExtBut s.heap.objs.size s.heap h' → Q [a, b] { s with heap := h' }) : wpAny (model prog w) A (unpackItems (.ref t) 2 none) Q E s := by
  have hlt : t ≠ s.heap.objs.size := by obtain ⟨o, ho, _⟩ := ht; exact Nat.ne_of_lt (Heap.lt_size ho)
  unfold unpackItems
  refine wpAny_bind ?_
  unfold notIterableAtAll
  refine wpAny_bind (wpAny_specialOf ht.typeIs slot_list_iter.lookup ?_)
  refine wpAny_pure ?_
  simp only [Bool.false_eq_true, if_false]
  refine wpAny_bind (wpAny_holding (wpAny_pyIter_list ht ?_))
  have ht0 : (s.heap.push { cls := .type "list_iterator", data := .fields #[.ref t, .int 0 0] }).IsList t (List.toArray [a, b]) := ht.at fun o e => Heap.get?_push_of_some _ e
  refine wpAny_bind (wpAny_holding ?_)
  show wpAny _ _ (pyNext _ >>= _) _ _ _
  refine wpAny_bind (wpAny_pyNext_list_item (x := a) ⟨_, Heap.get?_push_size _ rfl, rfl, rfl⟩ ht0 rfl fun h₁ hit₁ hs₁ => ?_)
  refine wpAny_bind (wpAny_holding ?_)
  show wpAny _ _ (pyNext _ >>= _) _ _ _
  have ht1 := ht0.extBut hs₁.extBut hlt
  refine wpAny_bind (wpAny_pyNext_list_item (x := b) hit₁ ht1 rfl fun h₂ hit₂ hs₂ => ?_)
  refine wpAny_bind (wpAny_holding ?_)
  show wpAny _ _ (pure []) _ _ _
  refine wpAny_pure (wpAny_pure (wpAny_pure ?_))
  have ht2 := ht1.extBut hs₂.extBut hlt
  rw [if_neg (by simp)]
  refine wpAny_bind (wpAny_holding (wpAny_pyNext_list_end hh hit₂ ht2 rfl fun h₃ hs₃ => ?_))
  simp only [Option.isSome_none, Bool.false_eq_true, if_false]
  exact wpAny_pure (hQ h₃ fun c o hc e => hs₃ c o hc (hs₂.extBut c o hc (hs₁.extBut c o hc (Heap.get?_push_of_some _ e))))
theorem assign_pair {L : Addr} {m : PySem.Str → Option Value} {news : List (Addr × Obj)} {elts : List Expr} {k : Nat} {pos : Pos} {t : Addr} {a b : Value} {n : Nat} {Q : Unit → Shared → Prop} (F : Fr h₀ L s.heap m) (N : News h₀ L s.heap news) (hm : (t, listOf (List.toArray [a, b]) n) ∈ news)
    (hh : A.handled = none) (hn : (assignEach elts env).length = 2) (hstar : (assignEach elts env).findIdx? (·.1) = none)
    (h : ∀ h', Fr h₀ L h' m → News h₀ L h' news → wpAny (model prog w) A (assignInOrder ((assignEach elts env).map (·.2)) [a, b]) Q E { s with heap := h' }) :
    wpAny (model prog w) A (assign (.Tuple elts k pos) env (.ref t)) Q E s := by
  rw [assign_Tuple]
  refine wpAny_bind (wpAny_standAt ?_)
  unfold unpack
  rw [hn, hstar]
  exact wpAny_bind (wpAny_holding (unpack_pair hh ⟨_, (N _ hm).1, rfl, n, rfl⟩ fun h' he => h h' (F.extBut he (Nat.le_refl _)) (N.extBut he (Nat.le_refl _))))
end
section
variable {prog : Program} {w : World} {A : Around} {E : Value → Shared → Prop} {s : Shared} {env : Env} {h₀ : Heap} {target : Expr} {body : List Stmt} {Q : Flow → Shared → Prop}
theorem own_turns {ax : Addr} {vs : List Value} {k : Nat} {m₀ : PySem.Str → Option Value} {news : List (Addr × Obj)} (J : Nat → (PySem.Str → Option Value) → List (Addr × Obj) → Prop)
    (hh : A.handled = none) (F : Fr h₀ env.locals s.heap m₀) (N : News h₀ env.locals s.heap news) (hm : (ax, listOf vs.toArray k) ∈ news) (hj : J 0 m₀ news)
    (hJ : ∀ i m nx, J i m nx → (ax, listOf vs.toArray k) ∈ nx)
    (turn : ∀ i v m₁ nx h tk I oI, vs[i]? = some v → J i m₁ nx → (∀ p ∈ nx, p.1 ≠ I) → Fr h₀ env.locals h m₁ → News h₀ env.locals h ((I, oI) :: nx) →
      wpAny (model prog w) A (assign target env v) (fun _ s₃ => wpAny (model prog w) A (execs body env) (OwnPost h₀ env.locals I oI (J (i + 1)) { s with heap := h, toks := tk } Q) E s₃) E { s with heap := h, toks := tk })
    (done : ∀ m₁ nx h tk, J vs.length m₁ nx → Fr h₀ env.locals h m₁ → News h₀ env.locals h nx → Q .next { s with heap := h, toks := tk }) :
    wpAny (model prog w) A (pyIter (.ref ax)) (fun it s₂ => TurnsAt prog w A h₀ env target body Q E it s₂) E s := by
  have hls : s.heap.IsList ax vs.toArray := ⟨_, (N _ hm).1, rfl, k, rfl⟩
  have hlt : ax < s.heap.objs.size := Heap.lt_size (N _ hm).1
  have hne : ax ≠ s.heap.objs.size := Nat.ne_of_lt hlt
  refine wpAny_pyIter_list hls ?_
  have W := KTurns.ofWalks (target := target) (Walks.list (prog := prog) (w := w) hh s.heap.objs.size ax hne vs.toArray) fun i v s Q E st q => letGo_listiter st.1 q
  refine ⟨s.heap.objs.size, _, _, _, _, _, _, m₀, news, J, rfl, W, ?_, ?_, ?_, ⟨⟨_, Heap.get?_push_size _ rfl, rfl, rfl⟩, hls.at fun o e => Heap.get?_push_of_some _ e⟩, F.push _, (fun p hp => ⟨Heap.get?_push_of_some _ (N p hp).1, (N p hp).2⟩), hj, ?_, ?_⟩
  · intro h
    rcases List.mem_cons.mp h with e | h
    · exact absurd F.ns.lt (e ▸ Nat.lt_irrefl _)
    · exact (N _ hm).2.1 (List.mem_singleton.mp h).symm
  · intro b hb
    rw [List.mem_singleton.mp hb]
    exact next_is_new F
  · intro p hp hI
    exact absurd (Heap.lt_size (N p hp).1) ((List.mem_singleton.mp hI) ▸ Nat.lt_irrefl _)
  · intro i v m₁ news₁ hh' tk' own hin hP hJ1 hoff h5 _ h7 hs F₁ N₁
    obtain ⟨oI, hoI, _⟩ := hs.1
    have hax := hJ i _ _ hJ1
    have own1 : ∀ p ∈ own, p = (s.heap.objs.size, oI) ∨ p = (ax, listOf vs.toArray k) := fun p hp => by
      have a := N₁ p (List.mem_append.mpr (.inl hp))
      have c := a.1
      rcases List.mem_cons.mp (h5 p hp) with b | b
      · rw [b] at c
        exact .inl (Prod.ext b (Option.some.inj (c.symm.trans hoI)))
      · have b := List.mem_singleton.mp b
        have d := (N₁ _ (List.mem_append.mpr (.inr hax))).1
        rw [b] at c
        exact .inr (Prod.ext b (Option.some.inj (c.symm.trans d)))
    have NI : News h₀ env.locals hh' ((s.heap.objs.size, oI) :: news₁) := fun p hp => by
      rcases List.mem_cons.mp hp with rfl | hp
      · exact N₁ _ (List.mem_append.mpr (.inl (h7 _ List.mem_cons_self (next_is_new F) oI hoI)))
      · exact N₁ p (List.mem_append.mpr (.inr hp))
    refine wpAny_mono (turn i v m₁ news₁ hh' tk' s.heap.objs.size oI (by simpa using hP) hJ1 (fun p hp e => hoff p hp (List.mem_singleton.mpr e)) F₁ NI) (fun _ s₃ p₃ => wpAny_mono p₃ (fun f s₂ p => ?_) fun _ _ e => e) fun _ _ e => e
    have fin : (∃ h' tk m' nx, s₂ = { s with heap := h', toks := tk } ∧ Fr h₀ env.locals h' m' ∧ News h₀ env.locals h' ((s.heap.objs.size, oI) :: nx) ∧ (∀ p ∈ nx, p.1 ≠ s.heap.objs.size) ∧ J (i + 1) m' nx) → LoopStepU h₀ env.locals [s.heap.objs.size] own (J (i + 1)) { s with heap := hh', toks := tk' } .next s₂ := by
      rintro ⟨h', tk, m', nx, e, F', N', hn, hj'⟩
      refine ⟨rfl, h', tk, m', nx, e, F', fun p hp => ?_, fun p hp e => hn p hp (List.mem_singleton.mp e), hj'⟩
      rcases List.mem_append.mp hp with hp | hp
      · rcases own1 p hp with rfl | rfl
        · exact N' _ List.mem_cons_self
        · exact N' _ (List.mem_cons_of_mem _ (hJ _ _ _ hj'))
      · exact N' p (List.mem_cons_of_mem _ hp)
    cases f with
    | ret v => exact .ret p
    | brk => exact .brk p
    | next => exact .next (fin p)
    | cont => exact .cont (fin p)
  · rintro h' tk m' news' F' N' _ hj'
    refine done m' news' h' tk ?_ F' N'
    simpa using hj'
end
end Mine
end
section
open PySem PySem.W PyProof.Rows PySem.Calls
set_option Elab.async false
set_option maxRecDepth 100000
namespace Mine
theorem octs_oct (n : Nat) : ∀ a : Int, Octs (oct n a) := by
  induction n with
  | zero => intro a k hk; exact nomatch hk
  | succ n ih =>
    intro a k hk
    rcases List.mem_append.mp hk with hk | hk
    · exact ih _ k hk
    · rw [List.mem_singleton.mp hk]
      exact ⟨Int.emod_nonneg _ (by decide), Int.emod_lt_of_pos _ (by decide)⟩
theorem num_oct (n : Nat) : ∀ a : Int, num (oct n a) = a % 256 ^ n := by
  induction n with
  | zero => intro a; rw [Int.pow_zero, Int.emod_one]; rfl
  | succ n ih =>
    intro a
    show num (oct n (a / 256) ++ [a % 256]) = _
    rw [num_app, ih]
    have hp : (0 : Int) < 256 ^ n := Int.pow_pos (by decide)
    have h1 := Int.emod_nonneg (a / 256) (Int.ne_of_gt hp)
    have h2 := Int.emod_lt_of_pos (a / 256) hp
    have h3 := Int.mul_ediv_add_emod (a / 256) (256 ^ n)
    rw [Int.pow_succ]
    generalize hP : (256 : Int) ^ n = P at *
    generalize a / 256 % P = r at *
    generalize a / 256 / P = q at *
    have h4 : a = (r * 256 + a % 256) + (P * 256) * q := by
      have : a = 256 * (a / 256) + a % 256 := by omega
      rw [← h3] at this
      have e : P * 256 * q = 256 * (P * q) := by rw [Int.mul_comm P 256, Int.mul_assoc]
      rw [e]
      omega
    rw [h4, Int.add_mul_emod_self_left]
    have h5 : (r * 256 + a % 256 + P * 256 * q) % 256 = a % 256 := by rw [← h4]
    rw [h5]
    exact (Int.emod_eq_of_lt (by omega) (by omega)).symm
/-- a turn's block -/
def Gd.blk (d : Gd) : Blk := ⟨d.p, d.q, oct (d.f / 8).toNat d.x, oct (d.g / 8).toNat d.y⟩
def Gd.laid (d : Gd) : List Int := Mine.laid d.x d.y d.f d.g d.p d.q
def laids (gs : List Gd) : List Int := gs.flatMap Gd.laid
theorem blk_wire {d : Gd} (h : d.Ok) : d.blk.wire = d.laid := by
  have a := inE_range h.2.2.1.1
  have b := inE_range h.2.2.1.2
  show [d.p * 16 + d.q, ((oct (d.g / 8).toNat d.y).length : Int) * 16 + ((oct (d.f / 8).toNat d.x).length : Int)] ++ oct (d.f / 8).toNat d.x ++ oct (d.g / 8).toNat d.y = [d.p * 16 + d.q, d.g / 8 * 16 + d.f / 8] ++ oct (d.f / 8).toNat d.x ++ oct (d.g / 8).toNat d.y
  rw [oct_length, oct_length, Int.toNat_of_nonneg (by omega), Int.toNat_of_nonneg (by omega)]
theorem blk_ok {d : Gd} (h : d.Ok) : d.blk.Ok := by
  have a := inE_range h.2.2.1.1
  have b := inE_range h.2.2.1.2
  refine ⟨⟨h.2.2.2.1.1, h.2.2.2.1.2, h.2.2.2.2.1, h.2.2.2.2.2⟩, ⟨octs_oct _ _, ?_, ?_⟩, ⟨octs_oct _ _, ?_, ?_⟩⟩
  all_goals
    show _ ≤ _
    unfold Gd.blk
    dsimp only
    rw [oct_length]
    omega
theorem blk_row {d : Gd} (h : d.Ok) : d.blk.row = d.row := by
  have a := inE_range h.2.2.1.1
  have b := inE_range h.2.2.1.2
  show W.Dat.list [.int d.p, .int d.q, .int ((oct (d.f / 8).toNat d.x).length : Int), .int ((oct (d.g / 8).toNat d.y).length : Int), .int (num (oct (d.f / 8).toNat d.x)), .int (num (oct (d.g / 8).toNat d.y))] = W.Dat.list [.int d.p, .int d.q, .int (d.f / 8), .int (d.g / 8), .int (Int.fmod d.x (256 ^ (d.f / 8).toNat)), .int (Int.fmod d.y (256 ^ (d.g / 8).toNat))]
  rw [oct_length, oct_length, num_oct, num_oct, Int.toNat_of_nonneg (by omega), Int.toNat_of_nonneg (by omega), Int.fmod_eq_emod_of_nonneg _ (Int.le_of_lt (Int.pow_pos (by decide))), Int.fmod_eq_emod_of_nonneg _ (Int.le_of_lt (Int.pow_pos (by decide)))]
theorem laids_wires {gs : List Gd} (h : ∀ d ∈ gs, d.Ok) : laids gs = wires (gs.map Gd.blk) := by
  induction gs with
  | nil => rfl
  | cons d gs ih =>
    have e := ih fun d hd => h d (.tail _ hd)
    unfold laids wires at *
    rw [List.flatMap_cons, List.map_cons, List.flatMap_cons, e, blk_wire (h d (.head _))]
theorem rows_blks {gs : List Gd} (h : ∀ d ∈ gs, d.Ok) : (gs.map Gd.blk).map Blk.row = gs.map Gd.row := by
  rw [List.map_map]
  exact List.map_congr_left fun d hd => blk_row (h d hd)
theorem blks_ok {gs : List Gd} (h : ∀ d ∈ gs, d.Ok) : ∀ b ∈ gs.map Gd.blk, b.Ok := by
  intro b hb
  obtain ⟨d, hd, rfl⟩ := List.mem_map.mp hb
  exact blk_ok (h d hd)
theorem rows_fit {gs : List Gd} : ∀ d ∈ gs.map Gd.row, kqdOk 8 d = true := by
  intro d hd
  obtain ⟨g, -, rfl⟩ := List.mem_map.mp hd
  rfl
end Mine
end
section
open PySem PySem.W PyProof.Rows PySem.Calls
set_option Elab.async false
set_option maxRecDepth 100000
set_option maxHeartbeats 8000000
namespace Mine
theorem fillK11 : (PySem.Challenge.rw_fe0335_01, Mine.hd.heap_39) = (PySem.Challenge.rw_fe0335_01, Mine.hd.heap_39) := by
  k_fill
  rfl
local macro_rules | `(tactic| k_steps) => `(tactic| repeat' (first | (k_unfold; (try dsimp only)) | walk1 | (dsimp only; walk1) | (leave1; walk_say "STEP leave1"; (try dsimp only)) | fail "no step"))
local macro_rules | `(tactic| k_room) => `(tactic| ((try simp only [depth_under_make, depth_under_kw, depth_in1, depth_deeper, depth_mark]); (try dsimp only [ktrTop]); omega))
local macro_rules | `(tactic| k_units) => `(tactic| ((try simp only [units_deeper, units_make2, units_in1, Around.mark_units]); (try dsimp only [ktrTop]); omega))
local macro_rules | `(tactic| walk_at "InitBack") => `(tactic| (dsimp only [InitBack]))
local macro_rules | `(tactic| k_mem) => `(tactic| first | (with_reducible assumption) | (with_reducible exact List.mem_cons_self) | ((with_reducible refine List.mem_append_right _ ?_); k_mem) | ((with_reducible refine List.mem_cons_of_mem _ ?_); k_mem))
theorem laid_len {d : Gd} (h : d.Ok) : d.laid.length ≤ 18 := by
  have a := inE_range h.2.2.1.1
  have b := inE_range h.2.2.1.2
  show (Mine.laid d.x d.y d.f d.g d.p d.q).length ≤ 18
  unfold Mine.laid
  rw [List.length_append, List.length_append, oct_length, oct_length]
  simp only [List.length_cons, List.length_nil]
  omega
theorem laids_len {gs : List Gd} (h : ∀ d ∈ gs, d.Ok) : (laids gs).length ≤ 18 * gs.length := by
  induction gs with
  | nil => exact Nat.le_refl _
  | cons d gs ih =>
    have a := laid_len (h d (.head _))
    have b := ih fun d hd => h d (.tail _ hd)
    unfold laids at b ⊢
    rw [List.flatMap_cons, List.length_append, List.length_cons]
    omega
theorem laids_next {gs : List Gd} {i : Nat} {d : Gd} (h : gs[i]? = some d) : laids (gs.take (i + 1)) = laids (gs.take i) ++ d.laid := by
  rw [List.take_add_one, h]
  unfold laids
  rw [List.flatMap_append]
  simp
theorem Mades.at {P : Params} {l : List (Addr × Obj)} {vs : List Value} {gs : List Gd} (H : Mades P l vs gs) : ∀ {i : Nat} {v : Value}, vs[i]? = some v →
    ∃ (a loc kd : Addr) (k : Nat) (d : Gd), v = .ref a ∧ gs[i]? = some d ∧ (a, listOf (List.toArray [.ref loc, .ref kd]) k) ∈ l ∧ LocAt P l loc d.x d.y d.f d.g ∧ KindAt P l kd d.p d.q := by
  induction H with
  | nil => intro i v h; cases i <;> cases h
  | cons a b c _ ih =>
    intro i v h
    cases i with
    | zero =>
      obtain rfl := Option.some.inj h
      exact ⟨_, _, _, _, _, rfl, rfl, a, b, c⟩
    | succ i => exact ih h
theorem map4 {h₀ h : Heap} {L : Addr} {m : PySem.Str → Option Value} {z1 z2 z3 z4 : PySem.Str} {u1 u2 u3 u4 : Value} (F : Fr h₀ L h m) (h1 : m z1 = some u1) (h2 : m z2 = some u2) (h3 : m z3 = some u3) (h4 : m z4 = some u4) :
    Fr h₀ L h (fun a => if a = z1 then some u1 else if a = z2 then some u2 else if a = z3 then some u3 else if a = z4 then some u4 else m a) := by
  have e : (fun a => if a = z1 then some u1 else if a = z2 then some u2 else if a = z3 then some u3 else if a = z4 then some u4 else m a) = m := by
    funext a
    split
    · rename_i e; rw [e, h1]
    · split
      · rename_i e; rw [e, h2]
      · split
        · rename_i e; rw [e, h3]
        · split
          · rename_i e; rw [e, h4]
          · rfl
  rw [e]; exact F
/-- the stream after i blocks; what stood before stands still -/
def SJ (lw lm ld : Addr) (base : List (Addr × Obj)) (gs : List Gd) (i : Nat) (m : PySem.Str → Option Value) (nx : List (Addr × Obj)) : Prop :=
  ∃ (a : Addr) (vs : List Value) (n : Nat) (tl : List (Addr × Obj)), nx = (a, listOf (List.toArray vs) n) :: tl ∧ (∀ p ∈ base, p ∈ tl) ∧ IntsAre vs (laids (gs.take i)) ∧
    m (Str.ofString "stream") = some (.ref a) ∧ m (Str.ofString "words") = some (.ref lw) ∧ m (Str.ofString "made") = some (.ref lm) ∧ m (Str.ofString "due") = some (.ref ld)
section
variable {prog : Program} {w : World} {A : Around} {E : Value → Shared → Prop} {s : Shared} {Q : Value → Shared → Prop} {h₀ : Heap} {L : Addr} {m : PySem.Str → Option Value} {news : List (Addr × Obj)}
theorem add_led {a b : Addr} {vs ws : List Value} {ns ms : List Int} {k j : Nat} (F : Fr h₀ L s.heap m) (N : News h₀ L s.heap news) (ha : (a, listOf vs.toArray k) ∈ news) (hb : (b, listOf ws.toArray j) ∈ news) (hi : IntsAre vs ns) (hj : IntsAre ws ms) (hz : ns.length + ms.length ≤ 1000)
    (h : ∀ D us h', Fr h₀ L h' m → News h₀ L h' ((D, listOf (List.toArray us) 0) :: news) → (∀ p ∈ news, p.1 < D) → IntsAre us (ns ++ ms) → Q (.ref D) { s with heap := h' }) : wpAny (model prog w) A (binaryOp .Add (.ref a) (.ref b)) Q E s :=
  kmk_add_ints F N ⟨_, (N _ ha).1, rfl, k, rfl⟩ ⟨_, (N _ hb).1, rfl, j, rfl⟩ hi hj h (by rw [PySem.sizeLine_eq]; omega)
end
theorem stream_end {Q : Flow → Shared → Prop} {s₁ : Shared} {h₀ h' : Heap} {L : Addr} {tk i : Nat} {m' : PySem.Str → Option Value} {D l9 I a lw lm ld : Addr} {us vs9 vs : List Value} {n9 n : Nat} {oI : Obj} {tl' base : List (Addr × Obj)} {gs : List Gd}
    (F : Fr h₀ L h' m') (N : News h₀ L h' ((D, listOf (List.toArray us) 0) :: (l9, listOf (List.toArray vs9) n9) :: (I, oI) :: (a, listOf (List.toArray vs) n) :: tl'))
    (hD : l9 < D ∧ I < D ∧ a < D ∧ AllLt D tl') (hl : ∀ q ∈ (I, oI) :: (a, listOf (List.toArray vs) n) :: tl', q.1 < l9) (hI : ∀ p ∈ (a, listOf (List.toArray vs) n) :: tl', p.1 ≠ I) (hb : ∀ p ∈ base, p ∈ tl')
    (hi : IntsAre us (laids (gs.take (i + 1)))) (m1 : m' (Str.ofString "stream") = some (.ref D)) (m2 : m' (Str.ofString "words") = some (.ref lw)) (m3 : m' (Str.ofString "made") = some (.ref lm)) (m4 : m' (Str.ofString "due") = some (.ref ld)) :
    OwnPost h₀ L I oI (SJ lw lm ld base gs (i + 1)) s₁ Q .next { s₁ with heap := h', toks := tk } := by
  refine own_end ((D, listOf (List.toArray us) 0) :: (l9, listOf (List.toArray vs9) n9) :: (a, listOf (List.toArray vs) n) :: tl') F (cb_drop N ?_) ?_ ⟨D, us, 0, _, rfl, fun p hp => .tail _ (.tail _ (hb p hp)), hi, m1, m2, m3, m4⟩
  · intro p hp
    simp only [List.mem_cons] at hp ⊢
    rcases hp with rfl | rfl | rfl | rfl | hp <;> simp [*]
  · intro p hp
    rcases List.mem_cons.mp hp with rfl | hp
    · exact Nat.ne_of_gt hD.2.1
    rcases List.mem_cons.mp hp with rfl | hp
    · exact Nat.ne_of_gt (hl _ (.head _))
    · exact hI p hp
section
variable {prog : Program} {w : World} {A : Around} {s : Shared} {h₀ : Heap} {L : Addr} {m : PySem.Str → Option Value} {news : List (Addr × Obj)} {env : Env} {ct elt : PySem.Expr} {x : PySem.Str} {scope : Scope} {cl : List (PySem.Str × Addr)} {S : List (Addr × Obj) → Prop} {P : Nat → Value → Prop} {Fin : List Value → List (Addr × Obj) → Prop}
/-- a comprehension whose test fails at each item -/
theorem none_rest (turn : ∀ i v I oI C oC D m₂ h tk (E' : Value → Shared → Prop), P i v → LCg.NsObj oC m₂ → m₂ x = some v → Fr h₀ L h m → News h₀ L h ((I, oI) :: (C, oC) :: (D, LCg.lst []) :: news) → LCg.Off3 I C D news → ((@Ne Nat I C) ∧ (@Ne Nat I D) ∧ (@Ne Nat C D)) →
      wpAny (model prog w) A (isTrue ct (compEnvC scope cl C env) (eval ct (compEnvC scope cl C env))) (fun b s' => if b = true then False
        else LCg.CompEnd h₀ L m { s with heap := h, toks := tk } I oI C oC D (LCg.lst []) S (fun _ news' => news' = news) Value.none s') E' { s with heap := h, toks := tk })
    (fin : Fin [] news) : ∀ n i : Nat, LCt.CompRestT prog w A h₀ L m env ct elt x scope cl s S P Fin n i [] news := by
  intro n
  induction n with
  | zero => intro i; exact LCt.CompRestT.zero fin
  | succ n ih =>
    intro i
    refine LCt.CompRestT.succ ?_
    intro v I oI C oC D m₂ h tk E' hv hC hx F N off ne
    refine wpAny_mono (turn i v I oI C oC D m₂ h tk E' hv hC hx F N off ne) (fun b s₂ hq => ?_) fun _ _ e => e
    cases b with
    | true => exact False.elim (by simp at hq)
    | false =>
      simp only [Bool.false_eq_true, if_false] at hq ⊢
      obtain ⟨h', tk', nw, e, F', N', off', hS, rfl⟩ := hq
      exact ⟨h', tk', _, e, F', N', off', hS, ih (i + 1)⟩
end
theorem pairs_at {news : List (Addr × Obj)} {vs : List Value} {es : List Int} (H : DatAll news vs (es.map pairD)) {i : Nat} {v : Value} (hv : vs.toArray[i]? = some v) : ∃ (R : Addr) (e : Int) (t u : Tok) (n : Nat), v = .ref R ∧ (R, listOf (List.toArray [.int e t, .int e u]) n) ∈ news := by
  have hi : i < vs.length := by
    have := (Array.getElem?_eq_some_iff.mp hv).1
    simpa using this
  have hl := H.length
  obtain ⟨v', e1, e2⟩ := H.get (k := i) (by omega)
  have hv' : vs[i]? = some v := by simpa using hv
  obtain rfl : v = v' := Option.some.inj (hv'.symm.trans e1)
  rw [List.getElem_map] at e2
  unfold pairD at e2
  cases e2 with
  | list hm hall =>
    cases hall with
    | cons h1 h2 =>
      cases h1
      cases h2 with
      | cons h3 h4 =>
        cases h3
        cases h4
        exact ⟨_, _, _, _, _, rfl, hm⟩
theorem ne_same {prog : Program} {w : World} {A : Around} {E : Value → Shared → Prop} {s : Shared} {Q : Value → Shared → Prop} {a : Int} {t u : Tok} (h : Q (.bool false) s) : wpAny (model prog w) A (compareOp .NotEq (.int a t) (.int a u)) Q E s :=
  ne_int (by simpa using h)
local macro_rules | `(tactic| walk_at "compareOp NotEq int int") => `(tactic| (k_here; (refine ne_same ?_)))
local macro_rules | `(tactic| walk_at "subscriptTail Name Constant ref int") => `(tactic| (k_here; (with_reducible show wpAny _ _ (subscriptTail _ _ (Value.ref _) (Value.int _ _)) _ _ _); (with_unfolding_all refine' item_mem ?k1 ?k2 ?k3 ?k4 ?k5 ?_ ?k7; (case k1 => k_asm); (case k2 => k_mem); (case k3 => decide); (case k4 => decide); (case k5 => rfl); (case k7 => with_unfolding_all rfl); k_whole)))
local macro_rules | `(tactic| walk_at "eval ListComp") => `(tactic| (k_here; k_dflt (refine LCt.ListComp_T (F₀ := by k_asm) (by with_unfolding_all rfl) (by decide) (by rfl) (by decide) (by rfl) ?_)))

section
variable {prog : Program} {w : World} {A : Around} {E : Value → Shared → Prop} {s : Shared} {h₀ : Heap} {L a b : Addr} {news : List (Addr × Obj)} {Q : Value → Shared → Prop} {ka kb : Nat}
theorem eq_nil (N : News h₀ L s.heap news) (ma : (a, listOf (List.toArray []) ka) ∈ news) (mb : (b, listOf (List.toArray []) kb) ∈ news) (hu : A.units + 64 < cLine) (h : Q (.bool true) s) : wpAny (model prog w) A (compareOp .Eq (.ref a) (.ref b)) Q E s :=
  kqd_eq (ds := []) (es := []) (n₁ := []) (n₂ := []) (xs := []) (ys := []) N ma rfl rfl .nil (fun _ h => nomatch h) mb rfl rfl .nil (fun _ h => nomatch h) (fun _ h => nomatch h) (fun _ h => nomatch h) hu (by simpa using h)
theorem eq_rows {xs ys : List Value} {ds : List W.Dat} {n₁ n₂ : List (Addr × Obj)} (N : News h₀ L s.heap news) (ma : (a, listOf (List.toArray xs) ka) ∈ news) (Da : DatAll n₁ xs ds) (sa : ∀ p ∈ n₁, p ∈ news) (mb : (b, listOf (List.toArray ys) kb) ∈ news) (Db : DatAll n₂ ys ds) (sb : ∀ p ∈ n₂, p ∈ news) (hd : ∀ d ∈ ds, kqdOk 8 d = true) (hu : A.units + 64 < cLine) (h : Q (.bool true) s) : wpAny (model prog w) A (compareOp .Eq (.ref a) (.ref b)) Q E s :=
  kqd_eq N ma rfl rfl Da sa mb rfl rfl Db sb hd hd hu (by simpa using h)
end
theorem done_holds : part2.2.1 := by
  delta part2
  dsimp only
  intros
  rename_i m1 c tl h' tk' hfacts hok hgs hes F1 N1
  have hg4 : c.gs.length ≤ 4 := Nat.le_trans hgs (third_le _)
  have he4 : c.es.length ≤ 4 := Nat.le_trans (Nat.le_of_eq hes) (third_le _)
  iterate 8 (first | (k_unfold; (try dsimp only)) | walk1 | (dsimp only; walk1))
  rename Fr _ _ _ _ => F2
  rename News _ _ _ ((_, _) :: (_, _) :: (_, _) :: (_, _) :: _) => N2
  with_unfolding_all refine' For_turns F2 ?_
  k_whole
  iterate 1 (first | (k_unfold; (try dsimp only)) | walk1 | (dsimp only; walk1))
  refine own_turns (vs := c.vm) (k := c.km) (SJ _ _ _ ((_, listOf (List.toArray c.vd) c.kd) :: (_, listOf (List.toArray c.vm) c.km) :: (_, listOf (List.toArray c.vw) c.kw) :: tl) c.gs) (by rfl) F2 N2 (.tail _ (.tail _ (.head _))) ⟨_, [], 0, _, rfl, fun p hp => hp, .nil, rfl, rfl, rfl, rfl⟩ ?_ ?_ ?_
  · rintro i m nx ⟨a, vs, n, tl', rfl, hb, -⟩
    exact .tail _ (hb _ (.tail _ (.head _)))
  · rintro i v m nx h9 tk9 I oI hv ⟨a, vs, n, tl', rfl, hb, hi, m1, m2, m3, m4⟩ hI F9 N9
    obtain ⟨a9, loc, kd, k9, d, rfl, hd, g1, g2, g3⟩ := hfacts.m.at hv
    have hup : ∀ p ∈ tl, p ∈ tl' := fun p hp => hb p (.tail _ (.tail _ (.tail _ hp)))
    have F8 := map4 F9 m1 m2 m3 m4
    have L9 := g2.mono (l' := (I, oI) :: (a, listOf (List.toArray vs) n) :: tl') fun p hp => .tail _ (.tail _ (hup p hp))
    have K9 := g3.mono (l' := (I, oI) :: (a, listOf (List.toArray vs) n) :: tl') fun p hp => .tail _ (.tail _ (hup p hp))
    have hdo := hok d (List.mem_of_getElem? hd)
    obtain ⟨⟨hx1, hx2⟩, ⟨hy1, hy2⟩, ⟨hf1, hg1⟩, ⟨hp1, hp2⟩, ⟨hq1, hq2⟩⟩ := hdo
    have hsz : (laids (c.gs.take i)).length + (Mine.laid d.x d.y d.f d.g d.p d.q).length ≤ 1000 := by
      have z1 := laids_len (gs := c.gs.take i) fun d hd => hok d (List.mem_of_mem_take hd)
      have z2 := laid_len (hok d (List.mem_of_getElem? hd))
      have z3 : (c.gs.take i).length ≤ 4 := by rw [List.length_take]; omega
      have z4 : d.laid.length = (Mine.laid d.x d.y d.f d.g d.p d.q).length := rfl
      omega
    clear F9 F2 N2
    refine assign_pair F8 N9 (.tail _ (.tail _ (hup _ g1))) (by rfl) (by rfl) (by rfl) ?_
    clear F8 N9
    intro h7 F7 N7
    iterate 21 (first | (k_unfold; (try dsimp only)) | walk1 | (dsimp only; walk1))
    k_dflt (refine' Does.use (laid_does _ _ _ _ _ _ _ _ _ _ L9 K9 hx1 hx2 hy1 hy2 hf1 hg1 hp1 hp2 hq1 hq2) ?k1 ?k2 ?k3 ?k4 ?k5 ?kK ?kd ?ku ?_)
    case k1 => k_asm
    case k2 => k_asm
    case k3 => k_asm
    case k4 => k_asm
    case k5 => k_asm
    case kK => first | exact rfl | assumption
    case kd => k_room
    case ku => k_units
    intro r9 tl9 h9 tk9 F9 N9 hl9 ho9
    obtain ⟨l9, vs9, n9, e9, e9', hi9⟩ := ho9
    subst e9
    subst e9'
    have hl8 := fun q hq => hl9 q hq _ (.head _)
    clear hl9
    rw [List.cons_append, List.nil_append] at N9
    dsimp only at hl8
    (try dsimp only)
    (try k_fold)
    k_steps
    refine stream_end (by k_asm) (by k_asm) (by assumption) hl8 hI hb (by rw [laids_next hd]; assumption) ?_ ?_ ?_ ?_
    all_goals rfl
  · rintro m nx h9 tk9 ⟨a, vs, n, tl', rfl, hb, hi, m1, m2, m3, m4⟩ F9 N9
    have hlen := hfacts.m.length
    rw [hlen, List.take_length] at hi
    have F8 := map4 F9 m1 m2 m3 m4
    have N8 := cb_drop N9 (news := (a, listOf (List.toArray vs) n) :: (_, listOf (List.toArray c.vd) c.kd) :: (_, listOf (List.toArray c.vm) c.km) :: (_, listOf (List.toArray c.vw) c.kw) :: tl) (fun p hp => by
      rcases List.mem_cons.mp hp with rfl | hp
      · exact .head _
      · exact .tail _ (hb p hp))
    clear F9 N9 F2 N2
    have hsw : (List.toArray c.vw).size ≤ sizeLine := by
      have := hfacts.w.length
      rw [List.length_map] at this
      rw [PySem.sizeLine_eq, List.size_toArray]
      omega
    iterate 6 (first | (k_unfold; (try dsimp only)) | walk1 | (dsimp only; walk1))
    refine LCt.CompSrcT.ledger (by rfl) F8 N8 (.tail _ (.tail _ (.tail _ (.head _)))) hsw ?_
    intro g'
    refine none_rest ?_ ?_ _ _
    · intro i v I oI C oC D m₂ h tk E' hv hC hx F N off ne
      obtain ⟨R, e, t, u, n9, rfl, hm⟩ := pairs_at hfacts.w hv
      clear F8 N8
      iterate 12 (first | (k_unfold; (try dsimp only)) | walk1 | (dsimp only; walk1))
      refine' LCg.CompEnd.intro ?kF ?kN _ (fun p hp => hp) off (Or.inr ⟨_, .tail _ (.tail _ (.tail _ (.head _))), rfl, _, rfl⟩) rfl
      case kF => k_asm
      case kN => k_asm
    intro D h10 tk10 F10 N10 hoff
    clear F8 N8
    replace N10 := cb_drop N10 (news := (D, listOf (List.toArray []) 0) :: (a, listOf (List.toArray vs) n) :: (_, listOf (List.toArray c.vd) c.kd) :: (_, listOf (List.toArray c.vm) c.km) :: (_, listOf (List.toArray c.vw) c.kw) :: tl) (fun p hp => hp)
    rw [laids_wires hok] at hi
    have hwl : (wires (c.gs.map Gd.blk)).length ≤ 1000 := by
      rw [← laids_wires hok]
      have := laids_len hok
      omega
    iterate 15 (first | (k_unfold; (try dsimp only)) | walk1 | (dsimp only; walk1))
    k_dflt (refine' Does.use (read_does _ _ _ vs n (c.gs.map Gd.blk) ?n1 hi (blks_ok hok) hwl) ?k1 ?k2 ?k3 ?k4 ?k5 ?kK ?kd ?ku ?_)
    case k1 => k_asm
    case k2 => k_asm
    case k3 => k_asm
    case k4 => k_asm
    case k5 => k_asm
    case n1 => k_mem
    case kK => first | exact rfl | assumption
    case kd => k_room
    case ku => k_units
    intro r9 tl9 h9 tk9 F9 N9 hl9 ho9
    obtain ⟨a9, vs9, rfl, ⟨n9, hm9⟩, hD9⟩ := ho9
    rw [rows_blks hok] at hD9
    (try dsimp only)
    (try k_fold)
    iterate 1 (first | (k_unfold; (try dsimp only)) | walk1 | (dsimp only; walk1))
    refine eq_rows N9 (List.mem_append_left _ hm9) hD9 (fun p hp => List.mem_append_left _ hp) (List.mem_append_right _ (.tail _ (.tail _ (.tail _ (.head _))))) hfacts.d (fun p hp => List.mem_append_right _ (.tail _ (.tail _ (.tail _ (.tail _ (.tail _ (.tail _ hp))))))) rows_fit (by k_units) ?_

    wrow_close
end Mine
end
theorem PySem.Challenge.cw_fe0335_01_holds : PySem.Challenge.rw_fe0335_01.Holds :=
  Mine.part2.2.2 ⟨Mine.turn_holds⟩ ⟨Mine.done_holds⟩
