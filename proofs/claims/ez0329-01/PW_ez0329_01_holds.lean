import PyProof.Rows.All
import Wide.All
import OpenK.AllK
import Wide.FinOn
import PySem.Challenge.RW_ez0329_01
set_option Elab.async false
namespace Mine
section
open PySem PySem.W PyProof.Rows
set_option maxRecDepth 100000 in
set_option maxHeartbeats 8000000 in
open_top hd for PySem.Challenge.rw_ez0329_01
end
end Mine
namespace Mine
section
open PySem PySem.W PyProof.Rows
/-- one turn of the shifting loop -/
def crcBit (a : Int) : Int := if Builtin.bitAnd (a * 2 ^ Int.toNat 1) 65536 = 0 then a * 2 ^ Int.toNat 1 else Builtin.bitXor (a * 2 ^ Int.toNat 1) 69665
def crcBits : Nat → Int → Int
  | 0, a => a
  | n + 1, a => crcBit (crcBits n a)
def crcByte (a b : Int) : Int := crcBits 8 (Builtin.bitXor a (b * 2 ^ Int.toNat 8))
def crcF (bs : List Int) : Int := bs.foldl crcByte 0
end
end Mine
namespace Mine
section
open PySem PySem.W PyProof.Rows PySem.Calls
theorem xor_and_nat : ∀ (n x y : Nat), x < 2 ^ n → y < 2 ^ n → (x ^^^ y) + 2 * (x &&& y) = x + y
  | 0, x, y, hx, hy => by
    have e1 : x = 0 := by omega
    have e2 : y = 0 := by omega
    subst e1 e2; rfl
  | n + 1, x, y, hx, hy => by
    have ih := xor_and_nat n (x / 2) (y / 2) (by rw [Nat.pow_succ] at hx; omega) (by rw [Nat.pow_succ] at hy; omega)
    have h1 : (x ^^^ y) / 2 = x / 2 ^^^ y / 2 := Nat.xor_div_two
    have h2 : (x &&& y) / 2 = x / 2 &&& y / 2 := Nat.and_div_two
    have h3 := @Nat.xor_mod_two_eq_one x y
    have h4 := @Nat.and_mod_two_eq_one x y
    rw [← h1, ← h2] at ih
    omega
theorem bitXor_nat (x y : Nat) : Builtin.bitXor (x : Int) (y : Int) = ((x ^^^ y : Nat) : Int) := by
  rw [bitXor_and, bitAnd_pp (Int.natCast_nonneg x) (Int.natCast_nonneg y), Int.toNat_natCast, Int.toNat_natCast]
  have hx : x < 2 ^ (x + y) := Nat.lt_of_lt_of_le Nat.lt_two_pow_self (Nat.pow_le_pow_right (by decide) (Nat.le_add_right x y))
  have hy : y < 2 ^ (x + y) := Nat.lt_of_lt_of_le Nat.lt_two_pow_self (Nat.pow_le_pow_right (by decide) (Nat.le_add_left y x))
  have := xor_and_nat (x + y) x y hx hy
  omega
/-- one turn of the register, on natural numbers -/
def sN (x : Nat) : Nat := if x.testBit 15 then (2 * x) ^^^ 69665 else 2 * x
theorem top_bit {x : Nat} (h : x < 65536) : x.testBit 15 = decide (32768 ≤ x) := by
  rw [Nat.testBit_eq_decide_div_mod_eq]
  by_cases q : 32768 ≤ x
  · rw [decide_eq_true q, decide_eq_true (by omega)]
  · rw [decide_eq_false q, decide_eq_false (by omega)]
theorem crcBit_nat {x : Nat} (h : x < 65536) : crcBit (x : Int) = (sN x : Int) := by
  have e1 : ((x : Int) * 2 ^ Int.toNat 1) = ((2 * x : Nat) : Int) := by
    show (x : Int) * 2 = _
    omega
  have e2 : Builtin.bitAnd ((2 * x : Nat) : Int) 65536 = (((2 * x : Nat) : Int) / 65536 % 2) * 65536 := kbt_bit _ 16
  unfold crcBit sN
  rw [e1, e2, top_bit h]
  by_cases q : 32768 ≤ x
  · rw [decide_eq_true q, if_pos rfl, if_neg (by omega)]
    exact bitXor_nat (2 * x) 69665
  · rw [decide_eq_false q, if_neg Bool.false_ne_true, if_pos (by omega)]
theorem sN_lt {x : Nat} (h : x < 65536) : sN x < 65536 := by
  unfold sN
  rw [top_bit h]
  by_cases q : 32768 ≤ x
  · rw [decide_eq_true q, if_pos rfl]
    refine Nat.lt_pow_two_of_testBit (n := 16) _ fun i hi => ?_
    rw [Nat.testBit_xor]
    by_cases h16 : i = 16
    · subst h16
      have a1 : (2 * x).testBit 16 = true := by rw [Nat.testBit_eq_decide_div_mod_eq]; exact decide_eq_true (by omega)
      rw [a1]; decide
    · have a1 : (2 * x).testBit i = false := Nat.testBit_lt_two_pow (Nat.lt_of_lt_of_le (show 2 * x < 2 ^ 17 by omega) (Nat.pow_le_pow_right (by decide) (by omega)))
      have a2 : (69665 : Nat).testBit i = false := Nat.testBit_lt_two_pow (Nat.lt_of_lt_of_le (show 69665 < 2 ^ 17 by decide) (Nat.pow_le_pow_right (by decide) (by omega)))
      rw [a1, a2]; rfl
  · rw [decide_eq_false q, if_neg Bool.false_ne_true]; omega
theorem crcBit_in' {a : Int} (h0 : 0 ≤ a) (h1 : a < 65536) : 0 ≤ crcBit a ∧ crcBit a < 65536 := by
  obtain ⟨x, rfl⟩ : ∃ x : Nat, a = x := ⟨a.toNat, by omega⟩
  rw [crcBit_nat (by omega)]
  have := sN_lt (x := x) (by omega)
  omega
theorem crcX_nat (x y : Nat) : Builtin.bitXor (x : Int) ((y : Int) * 2 ^ Int.toNat 8) = ((x ^^^ (y * 256) : Nat) : Int) := by
  have e : ((y : Int) * 2 ^ Int.toNat 8) = ((y * 256 : Nat) : Int) := by
    show (y : Int) * 256 = _
    omega
  rw [e, bitXor_nat]
theorem xor_lt16 {x y : Nat} (hx : x < 65536) (hy : y < 65536) : x ^^^ y < 65536 := Nat.xor_lt_two_pow (n := 16) hx hy
theorem crcX_in' {a b : Int} (h0 : 0 ≤ a) (h1 : a < 65536) (h2 : 0 ≤ b) (h3 : b < 256) : 0 ≤ Builtin.bitXor a (b * 2 ^ Int.toNat 8) ∧ Builtin.bitXor a (b * 2 ^ Int.toNat 8) < 65536 := by
  obtain ⟨x, rfl⟩ : ∃ x : Nat, a = x := ⟨a.toNat, by omega⟩
  obtain ⟨y, rfl⟩ : ∃ y : Nat, b = y := ⟨b.toNat, by omega⟩
  rw [crcX_nat]
  have := xor_lt16 (x := x) (y := y * 256) (by omega) (by omega)
  omega
def sBits : Nat → Nat → Nat
  | 0, x => x
  | n + 1, x => sN (sBits n x)
theorem sBits_lt {x : Nat} (h : x < 65536) : ∀ n, sBits n x < 65536
  | 0 => h
  | n + 1 => sN_lt (sBits_lt h n)
theorem crcBits_nat {x : Nat} (h : x < 65536) : ∀ n, crcBits n (x : Int) = (sBits n x : Int)
  | 0 => rfl
  | n + 1 => by
    show crcBit (crcBits n (x : Int)) = _
    rw [crcBits_nat h n, crcBit_nat (sBits_lt h n)]
    rfl
/-- the register is linear where nothing is shifted out -/
theorem sN_xor {x y : Nat} (hy : y < 32768) : sN (x ^^^ y) = sN x ^^^ (2 * y) := by
  have e15 : (x ^^^ y).testBit 15 = x.testBit 15 := by
    rw [Nat.testBit_xor, Nat.testBit_lt_two_pow (show y < 2 ^ 15 by omega), Bool.xor_false]
  have e2 : 2 * (x ^^^ y) = (2 * x) ^^^ (2 * y) := by
    apply Nat.eq_of_testBit_eq
    intro i
    cases i with
    | zero => rw [Nat.testBit_xor]; simp [Nat.testBit_zero]
    | succ i => rw [Nat.testBit_xor, Nat.testBit_succ, Nat.testBit_succ, Nat.testBit_succ, Nat.mul_div_cancel_left _ (by decide), Nat.mul_div_cancel_left _ (by decide), Nat.mul_div_cancel_left _ (by decide), Nat.testBit_xor]
  unfold sN
  rw [e15, e2]
  split
  · rw [Nat.xor_assoc, Nat.xor_comm (2 * y) 69665, ← Nat.xor_assoc]
  · rfl
end
end Mine
namespace Mine
section
open PySem PySem.W PyProof.Rows
theorem crcBit_in {a : Int} (h0 : 0 ≤ a) (h1 : a < 65536) : 0 ≤ crcBit a ∧ crcBit a < 65536 := crcBit_in' h0 h1
theorem crcX_in {a b : Int} (h0 : 0 ≤ a) (h1 : a < 65536) (h2 : 0 ≤ b) (h3 : b < 256) : 0 ≤ Builtin.bitXor a (b * 2 ^ Int.toNat 8) ∧ Builtin.bitXor a (b * 2 ^ Int.toNat 8) < 65536 := crcX_in' h0 h1 h2 h3
section
variable {prog : Program} {w : World} {A : Around} {E : Value → Shared → Prop} {s : Shared} {env : Env} {h₀ : Heap} {x : PySem.Str} {body : List Stmt} {Q : Flow → Shared → Prop}
abbrev CrcW (v : Int) (pre : List Int) (c : Int × Nat) : Prop := c.1 = crcBits pre.length v ∧ 0 ≤ c.1 ∧ c.1 < 65536
theorem crc_in {r : Addr} {t₀ u₀ v₀ : Tok} {m₀ : PySem.Str → Option Value} {news : List (Addr × Obj)} {v : Int} {tv : Tok}
    (hh : A.handled = none) (hr : IsRange s.heap r 0 8 1 t₀ u₀ v₀) (F : Fr h₀ env.locals s.heap m₀) (N : News h₀ env.locals s.heap news)
    (hv : m₀ (Str.ofString "value") = some (.int v tv)) (hb : 0 ≤ v ∧ v < 65536)
    (turn : ∀ (a : Int) (ta : Nat) (pre : List Int) (k : Int) (t : Tok) (h : Heap) (tk : Nat) (own : List (Addr × Obj)), OwnOff own (news.map (·.1)) → a = crcBits pre.length v → 0 ≤ a → a < 65536 →
      Fr h₀ env.locals h (fun y => if y = x then some (.int k t) else if y = Str.ofString "value" then some (.int a ta) else m₀ y) → News h₀ env.locals h (news ++ own) →
      wpAny (model prog w) A (execs body env) (InvPostN h₀ env.locals (KstS (fun _ => news) (fun c : Int × Nat => [(Str.ofString "value", Value.int c.1 c.2)]) (fun _ => True) x [] m₀ (CrcW v) (pre ++ [k])) own (news.map (·.1)) { s with heap := h, toks := tk } Q) E { s with heap := h, toks := tk })
    (done : ∀ (t : Nat) (u : PySem.Str → Option Value) h tk, Fr h₀ env.locals h (fun y => if y = x then u y else if y = Str.ofString "value" then some (.int (crcBits 8 v) t) else m₀ y) → News h₀ env.locals h news → Q .next { s with heap := h, toks := tk }) :
    wpAny (model prog w) A (pyIter (.ref r)) (fun it s₂ => LoopAtV prog w A h₀ env x body Q E it s₂) E s := by
  refine kst_range (σ := Int × Nat) (n := 8) (fun _ => news) (fun c => [(Str.ofString "value", Value.int c.1 c.2)]) (fun _ => True) [] (CrcW v) (v, tv) hh hr (by decide) (by rfl) F N trivial ?kk ⟨rfl, hb⟩ ?_ ?_
  · intro p hp
    rw [List.mem_singleton.mp hp]
    exact hv
  · intro c pre k t u h tk own _ _ ho _ hP F' N'
    exact turn c.1 c.2 pre k t h tk own ho hP.1 hP.2.1 hP.2.2 F' N'
  · intro c u h tk _ hP F' N'
    have e : c.1 = crcBits 8 v := hP.1
    refine done c.2 u h tk ?_ N'
    rw [← e]
    exact F'
end
theorem crcBit_zero {a : Int} (h : Builtin.bitAnd (a * 2 ^ Int.toNat 1) 65536 = 0) : crcBit a = a * 2 ^ Int.toNat 1 := if_pos h
theorem crcBit_one {a : Int} (h : Builtin.bitAnd (a * 2 ^ Int.toNat 1) 65536 ≠ 0) : crcBit a = Builtin.bitXor (a * 2 ^ Int.toNat 1) 69665 := if_neg h
theorem crcW_next {a v : Int} {pre : List Int} {k : Int} (e : a = crcBits pre.length v) (h0 : 0 ≤ a) (h1 : a < 65536) : crcBit a = crcBits (pre ++ [k]).length v ∧ 0 ≤ crcBit a ∧ crcBit a < 65536 :=
  ⟨by rw [e, List.length_append]; rfl, crcBit_in h0 h1⟩
theorem crc_t0 {a v : Int} {pre : List Int} {k : Int} (h : Builtin.bitAnd (a * 2 ^ Int.toNat 1) 65536 = 0) (e : a = crcBits pre.length v) (h0 : 0 ≤ a) (h1 : a < 65536) :
    a * 2 ^ Int.toNat 1 = crcBits (pre ++ [k]).length v ∧ 0 ≤ a * 2 ^ Int.toNat 1 ∧ a * 2 ^ Int.toNat 1 < 65536 := by
  rw [← crcBit_zero h]; exact crcW_next e h0 h1
theorem crc_t1 {a v : Int} {pre : List Int} {k : Int} (h : Builtin.bitAnd (a * 2 ^ Int.toNat 1) 65536 ≠ 0) (e : a = crcBits pre.length v) (h0 : 0 ≤ a) (h1 : a < 65536) :
    Builtin.bitXor (a * 2 ^ Int.toNat 1) 69665 = crcBits (pre ++ [k]).length v ∧ 0 ≤ Builtin.bitXor (a * 2 ^ Int.toNat 1) 69665 ∧ Builtin.bitXor (a * 2 ^ Int.toNat 1) 69665 < 65536 := by
  rw [← crcBit_one h]; exact crcW_next e h0 h1
theorem crcBits_in {v : Int} (h0 : 0 ≤ v) (h1 : v < 65536) : ∀ n, 0 ≤ crcBits n v ∧ crcBits n v < 65536
  | 0 => ⟨h0, h1⟩
  | n + 1 => crcBit_in (crcBits_in h0 h1 n).1 (crcBits_in h0 h1 n).2
theorem crc_o {v b : Int} {pre : List Int} (e : v = crcF pre) (h0 : 0 ≤ v) (h1 : v < 65536) (h2 : 0 ≤ b) (h3 : b < 256) :
    crcBits 8 (Builtin.bitXor v (b * 2 ^ Int.toNat 8)) = crcF (pre ++ [b]) ∧ 0 ≤ crcBits 8 (Builtin.bitXor v (b * 2 ^ Int.toNat 8)) ∧ crcBits 8 (Builtin.bitXor v (b * 2 ^ Int.toNat 8)) < 65536 := by
  refine ⟨?_, crcBits_in (crcX_in h0 h1 h2 h3).1 (crcX_in h0 h1 h2 h3).2 8⟩
  rw [e]
  unfold crcF
  rw [List.foldl_append]
  rfl
local macro_rules | `(tactic| walk_at "pyIter ref") => `(tactic| (
  k_here
  with_reducible show wpAny _ _ (pyIter (Value.ref _)) (fun it s₂ => LoopAtV _ _ _ _ _ _ _ _ _ it s₂) _ _
  rename Fr _ _ _ _ => lF'
  rename News _ _ _ _ => lN'
  rename IsRange _ _ _ _ _ _ _ _ => rgX
  with_unfolding_all refine' crc_in (by rfl) rgX lF' lN' (by rfl) (crcX_in (by assumption) (by assumption) (by assumption) (by assumption)) ?t1 ?t2
  case' t1 =>
    intro kA kTa kPre kK kT kH kTk kOwn kOff kEq kLo kHi kFr kNews
    try k_fold
  case' t2 =>
    intro kTa kU kH kTk kFr kNews
    try k_fold))
set_option maxRecDepth 100000 in
set_option maxHeartbeats 2000000 in
theorem crc_c {w : World} {mean : ExcName → Option Value} {mg mb : Str → Option Value} {news : List (Addr × Obj)} (b : Array UInt8) (tb t0 : Tok) :
    CbClaim PySem.Challenge.rw_ez0329_01.row.prog w (hd.heap_39 w.params) hd.view_39 (looseW hd.view_39 [Str.ofString "key_slot"]) mean mg mb 21 news [] True [.bytes b tb, .int 0 t0] (fun t => .int (crcF (KBw.bInts b)) t) := by
  k_with_none
  w_top off
  k_fill
  dsimp only [CbClaim, CbLists, CbRet]
  intros
  rename_i hret
  k_with "pyIter bytes" => k_state (fun pre v => v = crcF pre ∧ 0 ≤ v ∧ v < 65536) "value"
  k_with "state" => first
    | exact ⟨rfl, Int.le_refl 0, by decide⟩
    | exact crc_t0 (by assumption) (by assumption) (by assumption) (by assumption)
    | exact crc_t1 (by assumption) (by assumption) (by assumption) (by assumption)
    | exact crc_o (by assumption) (by assumption) (by assumption) (by assumption) (by assumption)
  refine wpAny_call ?_
  k_dflt cell_enter
  k_steps
  exact cb_retI hret (by assumption) (by assumption) (by assumption)
end
end Mine
namespace Mine
section
open PySem PySem.W PyProof.Rows
section
variable {prog : Program} {w : World} {A : Around} {E : Value → Shared → Prop} {s : Shared} {env : Env} {h₀ : Heap} {x : PySem.Str} {body : List Stmt} {Q : Flow → Shared → Prop}
abbrev LedL (bA : Addr) (post : List (Addr × Obj)) (c : List Value × List Int × Nat) : List (Addr × Obj) := (bA, listOf c.1.toArray c.2.2) :: post
/-- a loop over a range from nought that changes one list, told turn by turn -/
theorem grow_in {r : Addr} {n : Nat} {b₀ : Int} {t₀ u₀ v₀ : Tok} {m₀ : PySem.Str → Option Value} {bA : Addr} {us : List Value} {bs : List Int} {kk : Nat} {post : List (Addr × Obj)} (stored : List PySem.Str) (G : Nat → List Int) (Ln : Nat → Nat)
    (hh : A.handled = none) (hr : IsRange s.heap r 0 b₀ 1 t₀ u₀ v₀) (hb₀ : b₀ = (n : Int)) (hn1 : n < 1000)
    (F : Fr h₀ env.locals s.heap m₀) (N : News h₀ env.locals s.heap ((bA, listOf us.toArray kk) :: post))
    (hi : IntsAre us bs) (hb : bs = G 0) (hL : ∀ i, i ≤ n → (G i).length = Ln i)
    (turn : ∀ (us : List Value) (bs : List Int) (kk : Nat) (pre : List Int) (k : Int) (t : Tok) (u : PySem.Str → Option Value) (h : Heap) (tk : Nat) (own : List (Addr × Obj)), k = (pre.length : Int) → pre.length < n → OwnOff own (bA :: post.map (·.1)) → IntsAre us bs → us.length = Ln pre.length → bs.length = Ln pre.length → bs = G pre.length →
      Fr h₀ env.locals h (fun y => if y = x then some (.int k t) else if stored.contains y then u y else m₀ y) → News h₀ env.locals h ((bA, listOf us.toArray kk) :: (post ++ own)) →
      wpAny (model prog w) A (execs body env) (InvPostN h₀ env.locals (KstS (LedL bA post) (fun _ => []) (fun c => IntsAre c.1 c.2.1) x stored m₀ (fun pre c => c.2.1 = G pre.length) (pre ++ [k])) own (bA :: post.map (·.1)) { s with heap := h, toks := tk } Q) E { s with heap := h, toks := tk })
    (done : ∀ (us : List Value) (bs : List Int) (kk : Nat) (u : PySem.Str → Option Value) h tk, IntsAre us bs → us.length = Ln n → bs.length = Ln n → bs = G n → Fr h₀ env.locals h (fun y => if y = x then u y else if stored.contains y then u y else m₀ y) → News h₀ env.locals h ((bA, listOf us.toArray kk) :: post) → Q .next { s with heap := h, toks := tk }) :
    wpAny (model prog w) A (pyIter (.ref r)) (fun it s₂ => LoopAtV prog w A h₀ env x body Q E it s₂) E s := by
  refine kst_range (σ := List Value × List Int × Nat) (n := n) (LedL bA post) (fun _ => []) (fun c => IntsAre c.1 c.2.1) stored (fun pre c => c.2.1 = G pre.length) (us, bs, kk) hh hr (small_one (by omega) (by omega) (by omega) (by omega)) (by rw [rangeSize_nat]; omega) F N hi (fun _ hp => nomatch hp) hb ?_ ?_
  · intro c pre k t u h tk own hk hlt ho hF hP F' N'
    have e1 := hL pre.length (Nat.le_of_lt hlt)
    exact turn c.1 c.2.1 c.2.2 pre k t u h tk own (by omega) hlt ho hF (by rw [hF.length, hP, e1]) (by rw [hP, e1]) hP F' N'
  · intro c u h tk hF hP F' N'
    rw [rangeKs_length] at hP
    have e1 := hL n (Nat.le_refl n)
    exact done c.1 c.2.1 c.2.2 u h tk hF (by rw [hF.length, hP, e1]) (by rw [hP, e1]) hP F' N'
/-- a loop over a made list of ints, newest in the ledger, that changes the list below it -/
theorem disp_in {l4 : Addr} {vs4 : List Value} {ns4 : List Int} {n4 : Nat} {m₀ : PySem.Str → Option Value} {bA : Addr} {us : List Value} {bs : List Int} {kk : Nat} {post : List (Addr × Obj)} (H : List Int → List Int) (len : Nat) (top : Int)
    (hh : A.handled = none) (hi4 : IntsAre vs4 ns4) (F : Fr h₀ env.locals s.heap m₀) (N : News h₀ env.locals s.heap ((l4, listOf vs4.toArray n4) :: (bA, listOf us.toArray kk) :: post))
    (hi : IntsAre us bs) (hb : bs = H []) (hL : ∀ pre, (H pre).length = len) (hk : ∀ k ∈ ns4, 0 ≤ k ∧ k ≤ top)
    (turn : ∀ (us : List Value) (bs : List Int) (kk : Nat) (pre : List Int) (k : Int) (t : Tok) (h : Heap) (tk : Nat) (own : List (Addr × Obj)), 0 ≤ k → k ≤ top → OwnOff own (bA :: l4 :: post.map (·.1)) → IntsAre us bs → us.length = len → bs.length = len → bs = H pre →
      Fr h₀ env.locals h (fun y => if y = x then some (.int k t) else m₀ y) → News h₀ env.locals h ((bA, listOf us.toArray kk) :: (l4, listOf vs4.toArray n4) :: (post ++ own)) →
      wpAny (model prog w) A (execs body env) (InvPostN h₀ env.locals (KstS (LedL bA ((l4, listOf vs4.toArray n4) :: post)) (fun _ => []) (fun c => IntsAre c.1 c.2.1) x [] m₀ (fun pre c => c.2.1 = H pre) (pre ++ [k])) own (bA :: l4 :: post.map (·.1)) { s with heap := h, toks := tk } Q) E { s with heap := h, toks := tk })
    (done : ∀ (us : List Value) (bs : List Int) (kk : Nat) (u : PySem.Str → Option Value) h tk, IntsAre us bs → us.length = len → bs.length = len → bs = H ns4 → Fr h₀ env.locals h (fun y => if y = x then u y else m₀ y) → News h₀ env.locals h ((bA, listOf us.toArray kk) :: (l4, listOf vs4.toArray n4) :: post) → Q .next { s with heap := h, toks := tk }) :
    wpAny (model prog w) A (pyIter (.ref l4)) (fun it s₂ => LoopAtV prog w A h₀ env x body Q E it s₂) E s := by
  have N2 : News h₀ env.locals s.heap ((bA, listOf us.toArray kk) :: (l4, listOf vs4.toArray n4) :: post) := fun p hp => by
    rcases List.mem_cons.mp hp with e | hp
    · exact N p (e ▸ .tail _ (.head _))
    · rcases List.mem_cons.mp hp with e | hp
      · exact N p (e ▸ .head _)
      · exact N p (.tail _ (.tail _ hp))
  refine kst_listL (σ := List Value × List Int × Nat) (LedL bA ((l4, listOf vs4.toArray n4) :: post)) (fun _ => []) (fun c => IntsAre c.1 c.2.1) [] (fun pre c => c.2.1 = H pre) (us, bs, kk) hh (fun c => .tail _ (.head _)) hi4 F N2 hi (fun _ hp => nomatch hp) hb ?_ ?_
  · intro c pre post' k t u h tk own _ hm ho hF hP F' N'
    exact turn c.1 c.2.1 c.2.2 pre k t h tk own (hk k hm).1 (hk k hm).2 ho hF (by rw [hF.length, hP, hL]) (by rw [hP, hL]) hP F' N'
  · intro c u h tk hF hP F' N'
    exact done c.1 c.2.1 c.2.2 u h tk hF (by rw [hF.length, hP, hL]) (by rw [hP, hL]) hP F' N'
theorem slice_tail {value slice : PySem.Expr} {L l : Addr} {m : PySem.Str → Option Value} {news : List (Addr × Obj)} {vs : List Value} {ns : List Int} {k : Int} {tk : Tok} {Q : Value → Shared → Prop}
    (F : Fr h₀ L s.heap m) (N : News h₀ L s.heap news) (hl : s.heap.IsList l vs.toArray) (hi : IntsAre vs ns) (h0 : 0 ≤ k)
    (h : ∀ (D : Addr) (ws : List Value) (ms : List Int) (h' : Heap), Fr h₀ L h' m → News h₀ L h' ((D, listOf ws.toArray 0) :: news) → (∀ p ∈ news, p.1 < D) → IntsAre ws ms → ms = ns.drop k.toNat → Q (.ref D) { s with heap := h' })
    (hs : subscripted slice false (.ref l) (.ref s.heap.objs.size) = operate [.ref s.heap.objs.size, .ref l] (getItem (.ref l) (.ref s.heap.objs.size))) (ht : ∀ r, letTemporaryGo value (.ref l) r = pure ()) (hz : vs.toArray.size ≤ sizeLine) :
    wpAny (model prog w) A (subscriptTail value slice (.ref l) (.ref s.heap.objs.size)) Q E { s with heap := s.heap.push { cls := .type "slice", data := .fields #[.int k tk, .none, .none] } } :=
  kmk_slice_ints F N hl (IsPart.int _ _) IsPart.none hi (kmk_from hi h0) rfl (fun D ws h' F' N' l1 hI _ _ => h D ws _ h' F' N' l1 hI rfl) hs ht hz
end
def oct8 (o : Int) : List Int := (List.range 8).map fun (i : Nat) => (o.fdiv (2 ^ (7 - (i : Int)).toNat)).fmod 2
def bitsOf (ns : List Int) : List Int := ns.flatMap oct8
def flipAt (l : List Int) (i : Nat) : List Int := l.set i (1 - l.getD i 0)
def divStep (l : List Int) (p : Nat) : List Int := if l.getD p 0 = 1 then flipAt (flipAt (flipAt (flipAt l p) (p + 4)) (p + 11)) (p + 16) else l
def divN (l : List Int) : Nat → List Int
  | 0 => l
  | n + 1 => divStep (divN l n) n
def foldB (l : List Int) : Int := l.foldl (fun r b => 2 * r + b) 0
theorem oct8_length (o : Int) : (oct8 o).length = 8 := rfl
theorem bitsOf_length : ∀ ns, (bitsOf ns).length = 8 * ns.length
  | [] => rfl
  | n :: r => by
    show (oct8 n ++ bitsOf r).length = _
    rw [List.length_append, bitsOf_length r, oct8_length, List.length_cons]; omega
theorem flipAt_length (l : List Int) (i : Nat) : (flipAt l i).length = l.length := List.length_set
theorem divStep_length (l : List Int) (p : Nat) : (divStep l p).length = l.length := by
  unfold divStep
  split
  · simp only [flipAt_length]
  · rfl
theorem divN_length (l : List Int) : ∀ n, (divN l n).length = l.length
  | 0 => rfl
  | n + 1 => (divStep_length _ _).trans (divN_length l n)
theorem g1_len (ks : List Int) (o : Int) : ∀ i, i ≤ 8 → (bitsOf ks ++ (oct8 o).take i).length = 8 * ks.length + i := by
  intro i hi
  rw [List.length_append, bitsOf_length, List.length_take, oct8_length]; omega
theorem g1_zero (ks : List Int) (o : Int) : bitsOf ks = bitsOf ks ++ (oct8 o).take 0 := by simp
theorem g2_len (ns : List Int) : ∀ i, i ≤ 16 → (bitsOf ns ++ List.replicate i (0 : Int)).length = 8 * ns.length + i := by
  intro i _
  rw [List.length_append, bitsOf_length, List.length_replicate]
theorem g2_zero (ns : List Int) : bitsOf ns = bitsOf ns ++ List.replicate 0 0 := by simp
theorem g3_len (ns : List Int) : ∀ i, i ≤ 8 * ns.length → (divN (bitsOf ns ++ List.replicate 16 0) i).length = 8 * ns.length + 16 := by
  intro i _
  rw [divN_length]; exact g2_len ns 16 (Nat.le_refl _)
theorem g1_state {ks bs pre : List Int} {o k : Int} (e : bs = bitsOf ks ++ (oct8 o).take pre.length) (hk : k = (pre.length : Int)) (hl : pre.length < 8) :
    bs ++ [(o.fdiv (2 ^ (7 - k).toNat)).fmod 2] = bitsOf ks ++ (oct8 o).take (pre ++ [k]).length := by
  have h : (oct8 o)[pre.length]? = some ((o.fdiv (2 ^ (7 - k).toNat)).fmod 2) := by
    unfold oct8
    rw [List.getElem?_map, List.getElem?_range hl, hk]
    rfl
  rw [List.length_append, List.length_singleton, List.take_add_one, h, e, List.append_assoc]
  rfl
theorem g1_out {ks bs : List Int} {o : Int} (e : bs = bitsOf ks ++ (oct8 o).take 8) : bs = bitsOf (ks ++ [o]) := by
  rw [e, List.take_of_length_le (by rw [oct8_length]; exact Nat.le_refl 8)]
  unfold bitsOf
  rw [List.flatMap_append]
  simp
theorem g2_state {ns bs pre : List Int} {k : Int} (e : bs = bitsOf ns ++ List.replicate pre.length 0) : bs ++ [0] = bitsOf ns ++ List.replicate (pre ++ [k]).length 0 := by
  rw [e, List.length_append, List.length_singleton, List.replicate_succ', List.append_assoc]
theorem g3_no {l bs pre : List Int} {k : Int} (e : bs = divN l pre.length) (hk : k = (pre.length : Int)) (h : bs.getD k.toNat 0 ≠ 1) : bs = divN l (pre ++ [k]).length := by
  have e1 : k.toNat = pre.length := by omega
  rw [List.length_append, List.length_singleton]
  show bs = divStep (divN l pre.length) pre.length
  rw [← e]
  unfold divStep
  rw [e1] at h
  exact (if_neg h).symm
def flips (k : Int) (bs : List Int) (ds : List Int) : List Int := ds.foldl (fun l b => flipAt l (k + b).toNat) bs
theorem flips_length (k : Int) (bs : List Int) (ds : List Int) : (flips k bs ds).length = bs.length := by
  induction ds generalizing bs with
  | nil => rfl
  | cons d r ih => exact (ih _).trans (flipAt_length _ _)
theorem flips_state {k b : Int} {bs0 bs pre : List Int} (e : bs = flips k bs0 pre) : bs.set (k + b).toNat (1 - bs.getD (k + b).toNat 0) = flips k bs0 (pre ++ [b]) := by
  unfold flips
  rw [List.foldl_append, e]
  rfl
theorem g3_yes {l bs b2 pre : List Int} {k : Int} (e : bs = divN l pre.length) (hk : k = (pre.length : Int)) (h : bs.getD k.toNat 0 = 1) (e2 : b2 = flips k bs [0, 4, 11, 16]) : b2 = divN l (pre ++ [k]).length := by
  have e1 : k.toNat = pre.length := by omega
  rw [List.length_append, List.length_singleton]
  show b2 = divStep (divN l pre.length) pre.length
  rw [← e]
  unfold divStep
  rw [e1] at h
  rw [if_pos h, e2]
  show flipAt (flipAt (flipAt (flipAt bs (k + 0).toNat) (k + 4).toNat) (k + 11).toNat) (k + 16).toNat = _
  rw [show (k + 0).toNat = pre.length by omega, show (k + 4).toNat = pre.length + 4 by omega, show (k + 11).toNat = pre.length + 11 by omega, show (k + 16).toNat = pre.length + 16 by omega]
theorem g5_state {r b : Int} {pre : List Int} (e : r = foldB pre) : 2 * r + b = foldB (pre ++ [b]) := by
  unfold foldB
  rw [List.foldl_append, e]
  rfl
def restF (ns : List Int) : Int := foldB ((divN (bitsOf ns ++ List.replicate 16 0) (8 * ns.length)).drop (8 * ns.length))
theorem bits_nil : ([] : List Int) = bitsOf [] := rfl
theorem fold_nil : (0 : Int) = foldB [] := rfl
theorem rest_end {ns bs ms : List Int} {r : Int} (e : bs = divN (bitsOf ns ++ List.replicate 16 0) (8 * ns.length)) (hl : bs.length = 8 * ns.length + 16) (hm : ms = bs.drop ((bs.length : Int) - 16).toNat) (h : r = foldB ms) : r = restF ns := by
  rw [hm, show ((bs.length : Int) - 16).toNat = 8 * ns.length by omega, e] at h
  exact h
theorem disp_ints (t0 t1 t2 t3 : Tok) : IntsAre [.int 0 t0, .int 4 t1, .int 11 t2, .int 16 t3] [0, 4, 11, 16] := .cons _ _ (.cons _ _ (.cons _ _ (.cons _ _ .nil)))
theorem disp_in16 : ∀ k ∈ ([0, 4, 11, 16] : List Int), 0 ≤ k ∧ k ≤ 16 := by decide

local macro_rules | `(tactic| walk_at $s:str) => `(tactic| k_extra $s)
local macro_rules | `(tactic| walk_at "exec For Name List cons nil") => `(tactic| (k_here; (rename Fr _ _ _ _ => lF'); (with_unfolding_all refine' For_invVF lF' ?k1 ?k2 ?_; (case k1 => exact rfl); (case k2 => exact rfl); k_whole)))
local macro_rules | `(tactic| walk_at "exec For Name Call cons nil") => `(tactic| (k_here; (rename Fr _ _ _ _ => lF'); (with_unfolding_all refine' For_invVF lF' ?k1 ?k2 ?_; (case k1 => exact rfl); (case k2 => exact rfl); k_whole)))
set_option maxRecDepth 100000 in
set_option maxHeartbeats 2000000 in
theorem rest_c {w : World} {mean : ExcName → Option Value} {mg mb : Str → Option Value} {news : List (Addr × Obj)} {l : Addr} {vs : List Value} {ns : List Int} {nn : Nat} (hi : IntsAre vs ns) (hr : ∀ n ∈ ns, 0 ≤ n ∧ n < 256) (hn : ns.length ≤ 12) :
    CbClaim PySem.Challenge.rw_ez0329_01.row.prog w (hd.heap_39 w.params) hd.view_39 (looseW hd.view_39 [Str.ofString "key_slot"]) mean mg mb 43 ((l, listOf vs.toArray nn) :: news) [] True [.ref l] (fun t => .int (restF ns) t) := by
  k_with_none
  w_top off
  k_fill
  dsimp only [CbClaim, CbLists, CbRet]
  intros
  rename_i hret
  have hMk := kstMark
  k_with "pyIter ref" => k_state (fun pre bits => bits = bitsOf pre) "bits"
  k_with "pyIter ref" => (k_of "one" => k_state (fun pre rest => rest = foldB pre) "rest")
  k_with "pyIter ref" => (k_of "behind" => (
    with_reducible show wpAny _ _ (pyIter (Value.ref _)) (fun it s₂ => LoopAtV _ _ _ _ _ _ _ _ _ it s₂) _ _
    rename Fr _ _ _ _ => lF'
    rename News _ _ _ _ => lN'
    with_unfolding_all refine' disp_in (flips kK kBs) (8 * ns.length + 16) 16 (by rfl) (disp_ints _ _ _ _) lF' lN' (by assumption) (by rfl) (by intro pre; rw [flips_length]; assumption) disp_in16 ?_ ?_
    intro kVs kCs kNm kPre3 kD kT3 kH kTk kOwn kLo3 kHi3 kOff kInts kIl kIl2 kEq3 kFr kNews
    try k_fold
    rotate_left 1
    intro kVs kCs kNm kU kH kTk kInts kIl kIl2 kEq3 kFr kNews
    try k_fold
    rotate_right 1))
  k_with "pyIter ref" => (k_of "place" => (
    with_reducible show wpAny _ _ (pyIter (Value.ref _)) (fun it s₂ => LoopAtV _ _ _ _ _ _ _ _ _ it s₂) _ _
    rename Fr _ _ _ _ => lF'
    rename News _ _ _ _ => lN'
    rename IsRange _ _ _ _ _ _ _ _ => rgX
    with_unfolding_all refine' grow_in (n := 8 * ns.length) [Str.ofString "behind"] (divN (bitsOf ns ++ List.replicate 16 0)) (fun _ => 8 * ns.length + 16) (by rfl) rgX (by omega) (by omega) lF' lN' (by assumption) (by rename _ = bitsOf ns ++ List.replicate 16 0 => e9; exact e9) (g3_len ns) ?_ ?_
    intro kUs kBs kNn kPre2 kK kT kU kH kTk kOwn kKe kLt kOff kInts kIl kIl2 kEq kFr kNews
    try dsimp only at kIl kIl2 kEq
    try k_fold
    rotate_left 1
    intro kUs kBs kNn kU kH kTk kInts kIl kIl2 kEq kFr kNews
    try dsimp only at kIl kIl2 kEq
    try k_fold
    rotate_right 1))
  k_with "pyIter ref" => (
    with_reducible show wpAny _ _ (pyIter (Value.ref _)) (fun it s₂ => LoopAtV _ _ _ _ _ _ _ _ _ it s₂) _ _
    rename Fr _ _ _ _ => lF'
    rename News _ _ _ _ => lN'
    rename IsRange _ _ _ 8 _ _ _ _ => rgX
    with_unfolding_all refine' grow_in (n := 8) [] (fun i => bitsOf kPre ++ (oct8 kN).take i) (fun i => 8 * kPre.length + i) (by rfl) rgX (by rfl) (by decide) lF' lN' (by assumption) (by rename _ = bitsOf kPre => e9; exact e9.trans (g1_zero kPre kN)) (g1_len kPre kN) ?_ ?_
    intro kUs kBs kNn kPre2 kK kT kU kH kTk kOwn kKe kLt kOff kInts kIl kIl2 kEq kFr kNews
    try dsimp only at kIl kIl2 kEq
    try k_fold
    rotate_left 1
    intro kUs kBs kNn kU kH kTk kInts kIl kIl2 kEq kFr kNews
    try dsimp only at kIl kIl2 kEq
    try k_fold
    rotate_right 1)
  k_with "pyIter ref" => (
    with_reducible show wpAny _ _ (pyIter (Value.ref _)) (fun it s₂ => LoopAtV _ _ _ _ _ _ _ _ _ it s₂) _ _
    rename Fr _ _ _ _ => lF'
    rename News _ _ _ _ => lN'
    rename IsRange _ _ _ 16 _ _ _ _ => rgX
    with_unfolding_all refine' grow_in (n := 16) [] (fun i => bitsOf ns ++ List.replicate i 0) (fun i => 8 * ns.length + i) (by rfl) rgX (by rfl) (by decide) lF' lN' (by assumption) (by rename _ = bitsOf ns => e9; exact e9.trans (g2_zero ns)) (g2_len ns) ?_ ?_
    intro kUs kBs kNn kPre2 kK kT kU kH kTk kOwn kKe kLt kOff kInts kIl kIl2 kEq kFr kNews
    try dsimp only at kIl kIl2 kEq
    try k_fold
    rotate_left 1
    intro kUs kBs kNn kU kH kTk kInts kIl kIl2 kEq kFr kNews
    try dsimp only at kIl kIl2 kEq
    try k_fold
    rotate_right 1)
  k_with "state" => first
    | exact bits_nil
    | exact fold_nil
    | exact g1_state (by assumption) (by assumption) (by assumption)
    | exact g1_out (by assumption)
    | exact g2_state (by assumption)
    | exact g3_no (by assumption) (by assumption) (by assumption)
    | exact g3_yes (by assumption) (by assumption) (by assumption) (by assumption)
    | exact flips_state (by assumption)
    | exact g5_state (by assumption)
  k_with "subscriptTail Name Slice ref ref" => (
    rename Fr _ _ _ _ => lF'
    rename News _ _ _ _ => lN'
    with_unfolding_all refine' slice_tail lF' lN' (News.isList lN' (.head _)) kInts (by omega) ?_ (by with_unfolding_all rfl) (by intro _; with_unfolding_all rfl) (by rw [List.size_toArray, PySem.sizeLine_eq]; omega)
    intro D' ws' kMs h' F' N' l1 hI' kSl
    k_lt l1)
  refine wpAny_call ?_
  k_dflt cell_enter
  k_steps
  refine cb_retI hret (rest_end kEq kIl2 kSl (by assumption)) (by assumption) ?_
  refine' cb_drop ?hN ?hS
  case hN => assumption
  case hS => kcj_all
theorem rest_use {w : World} {mean : ExcName → Option Value} {mg mb : PySem.Str → Option Value} {news : List (Addr × Obj)} {l : Addr} {vs : List Value} {ns : List Int} {nn : Nat} {dp un : Nat} {gd : Option (List Code)} {cn : PySem.Str} {cs : Scope} {a : Addr} {ccd : Value} {cl : List (PySem.Str × Addr)} {outer : List Env} {A₀ : Around} {base h₀ : Heap} {L : Addr} {m : PySem.Str → Option Value} {s : Shared} {Q E : Value → Shared → Prop}
    (B : Below A₀ base outer h₀) (F : Fr h₀ L s.heap m) (X : (hd.heap_39 w.params).In h₀) (N : News h₀ L s.heap news) (T : Top hd.view_39 (looseW hd.view_39 [Str.ofString "key_slot"]) mean mg mb h₀) (hk : cs.kind = .function)
    (hd' : dp + 1 < recursionLimit) (hu : un + 8 < cLine) (hm : (l, listOf vs.toArray nn) ∈ news) (hi : IntsAre vs ns) (hr : ∀ n ∈ ns, 0 ≤ n ∧ n < 256) (hn : ns.length ≤ 12)
    (ret : ∀ (t : Tok) (h' : Heap) (tk' : Nat), Fr h₀ L h' m → News h₀ L h' news → Q (.int (restF ns) t) { s with heap := h', toks := tk' }) :
    wpAny (model PySem.Challenge.rw_ez0329_01.row.prog w) (ktrTop dp un gd cn cs L a ccd cl outer) (call (.ref 43) [.ref l]) Q E s :=
  rest_c (news := news) hi hr hn _ _ _ _ _ _ _ _ _ _ _ _ _ _ _ _ _ B F X (fun p hp => (List.mem_cons.mp hp).elim (fun e => e ▸ N _ hm) (N p)) T hk trivial hd' hu fun t h' tk' F' N' => ret t h' tk' F' fun p hp => N' p (.tail _ hp)
end
end Mine
namespace Mine
section
open PySem PySem.W PyProof.Rows PySem.Calls
open Builtin
set_option maxRecDepth 100000
theorem slot_find : Slot "bytes" "find" "bytes.find" :=
  .of (owner := "bytes") (n := "find") (by rw [typeLookup_type, builtinLookup_eq_fast]; kernel_rfl) (by decide +kernel) (by decide +kernel) (by decide +kernel)
    (by first | exact .inl (by decide +kernel) | exact .inr (by decide +kernel)) (by rw [isSubtype_type]; kernel_rfl)
theorem type_find : typeOf (.builtin "bytes.find") = pure (.type "method_descriptor") := by show builtinType _ = _; rw [builtinType_eq_fast]; kernel_rfl
theorem entry_find : entryFor table "bytes.find" = some Builtin.«bytes.find» := entryFor_of_tree (by kernel_rfl)
theorem args_find2 (a b : Value) : argsOk "bytes.find" ⟨[a, b], []⟩ := by
  unfold argsOk; rw [signature?_of (id := "bytes.find") (n := ['d', 'n', 'i', 'f']) (o := ['s', 'e', 't', 'y', 'b']) (by kernel_rfl) FB.owner_bytes]; kernel_rfl
theorem args_find3 (a b c : Value) : argsOk "bytes.find" ⟨[a, b, c], []⟩ := by
  unfold argsOk; rw [signature?_of (id := "bytes.find") (n := ['d', 'n', 'i', 'f']) (o := ['s', 'e', 't', 'y', 'b']) (by kernel_rfl) FB.owner_bytes]; kernel_rfl
theorem bound_int (i : Int) (t : Tok) : Bytes.bound? (some (.int i t)) = pure (some i) := by
  have e : specialOf (.int i t) "__index__" = pure (some (.builtin "int.__index__")) := by
    have e1 : specialOf (.int i t) "__index__" = typeLookup (.type "int") "__index__" := rfl
    rw [e1, PySem.int_index]
  show (specialOf (.int i t) "__index__" >>= fun r => _) = _
  rw [e]
  rfl
theorem bound_none : Bytes.bound? none = pure none := rfl
/-- the window of a search, in plain words -/
def findW (b c : Array UInt8) (i : Option Int) : Option Nat :=
  (if (Bytes.window b.size i none).2 - (Bytes.window b.size i none).1 < c.size then none else some ((Bytes.window b.size i none).1.toNat, (Bytes.window b.size i none).2.toNat)).bind fun p => Bytes.find? b c p.1 p.2
def findV (b c : Array UInt8) (i : Option Int) : Int := match findW b c i with
  | some k => (k : Int)
  | none => -1
theorem args2_eq (b c : Array UInt8) (t u : Tok) : Bytes.searchArgs .bytes "find" ⟨[.bytes b t, .bytes c u], []⟩ =
    pure (b, c, if (Bytes.window b.size none none).2 - (Bytes.window b.size none none).1 < c.size then none else some ((Bytes.window b.size none none).1.toNat, (Bytes.window b.size none none).2.toNat)) := by
  unfold Bytes.searchArgs
  have e1 : ∀ id, selfAndSome id "find" 1 3 ⟨[.bytes b t, .bytes c u], []⟩ = pure (.bytes b t, [.bytes c u]) := fun _ => rfl
  have e2 : ([Value.bytes c u] : List Value)[1]? = none := rfl
  have e3 : ([Value.bytes c u] : List Value)[2]? = none := rfl
  have e4 : Bytes.payload (.bytes b t) = pure b := rfl
  simp only [e1, pure_bind, e2, e3, bound_none, List.headD_cons, KBy.buffer_eq, e4]
theorem args3_eq (b c : Array UInt8) (i : Int) (t u v : Tok) : Bytes.searchArgs .bytes "find" ⟨[.bytes b t, .bytes c u, .int i v], []⟩ =
    pure (b, c, if (Bytes.window b.size (some i) none).2 - (Bytes.window b.size (some i) none).1 < c.size then none else some ((Bytes.window b.size (some i) none).1.toNat, (Bytes.window b.size (some i) none).2.toNat)) := by
  unfold Bytes.searchArgs
  have e1 : ∀ id, selfAndSome id "find" 1 3 ⟨[.bytes b t, .bytes c u, .int i v], []⟩ = pure (.bytes b t, [.bytes c u, .int i v]) := fun _ => rfl
  have e2 : ([Value.bytes c u, .int i v] : List Value)[1]? = some (.int i v) := rfl
  have e3 : ([Value.bytes c u, .int i v] : List Value)[2]? = none := rfl
  have e4 : Bytes.payload (.bytes b t) = pure b := rfl
  simp only [e1, pure_bind, e2, e3, bound_none, bound_int, List.headD_cons, KBy.buffer_eq, e4]
theorem meets_of {a : Args} {b c : Array UInt8} {i : Option Int} (e : Bytes.searchArgs .bytes "find" a = pure (b, c, if (Bytes.window b.size i none).2 - (Bytes.window b.size i none).1 < c.size then none else some ((Bytes.window b.size i none).1.toNat, (Bytes.window b.size i none).2.toNat))) :
    Meets («bytes.find» a) (fun _ R s => ∀ t k, R (.ok (.ret (.int (findV b c i) t))) { s with toks := k }) := by
  refine .of_wp fun prog w A R s h => ?_
  show wpAny _ _ (Bytes.searchArgs .bytes "find" a >>= fun r => _) _ _ s
  rw [e]
  refine wpAny_bind (wpAny_pure ?_)
  have key : ∀ o, findW b c i = o → findV b c i = (match o with | some k => (k : Int) | none => -1) := fun o h => by unfold findV; rw [h]
  show wpAny _ _ (match findW b c i with | some i => _ | none => _) _ _ s
  cases hw : findW b c i with
  | some k =>
    have h' := h
    rw [key _ hw] at h'
    exact wpAny_bind (wpAny_mkInt (wpAny_pure ⟨_, rfl, h' _ _⟩))
  | none =>
    have h' := h
    rw [key _ hw] at h'
    refine wpAny_bind (wpAny_rule ?_)
    exact wpAny_bind (wpAny_mkInt (wpAny_pure ⟨_, rfl, h' _ _⟩))
section
variable {prog : Program} {w : World} {A : Around} {E : Value → Shared → Prop} {s : Shared} {b c : Array UInt8} {t u v : Tok} {i : Int} {Q : Value → Shared → Prop}
theorem find_2 (h : ∀ t' k, Q (.int (findV b c none) t') { s with toks := k }) : wpAny (model prog w) A (call (.builtin "bytes.find") [.bytes b t, .bytes c u]) Q E s :=
  call_meets slot_find (typeIs_bytes _ _ _) entry_find (args_find2 _ _) (meets_of (args2_eq b c t u)) h
theorem find_3 (h : ∀ t' k, Q (.int (findV b c (some i)) t') { s with toks := k }) : wpAny (model prog w) A (call (.builtin "bytes.find") [.bytes b t, .bytes c u, .int i v]) Q E s :=
  call_meets slot_find (typeIs_bytes _ _ _) entry_find (args_find3 _ _ _) (meets_of (args3_eq b c i t u v)) h
theorem method_find {M : Model} {pl : Sem Bool} {Q : Value × List Value → Shared → Prop} (h : Q (.builtin "bytes.find", [.bytes b t]) s) : wpAny M A (getMethod (.bytes b t) "find" pl) Q E s := by
  with_reducible exact KBd.method_of (.bytes b t) (typeIs_bytes _ _ _) slot_find type_find KBd.noRef h
end
end
end Mine
namespace Mine
section
open PySem PySem.W PyProof.Rows
def startOf (b : Array UInt8) : Int := findV b [123].toArray none
def endOf (b : Array UInt8) : Int := findV b [125].toArray (some (startOf b + 1))
def toldB (b : Array UInt8) : Array UInt8 :=
  if startOf b > -1 ∧ endOf b > -1 ∧ endOf b ≠ startOf b + 1 then KBy.picked b (some (startOf b + 1)) (some (endOf b)) else b
def slotF (b : Array UInt8) (k : Int) : Int := (crcF (KBw.bInts (toldB b))).fmod k

theorem crc_use {w : World} {mean : ExcName → Option Value} {mg mb : PySem.Str → Option Value} {news : List (Addr × Obj)} {b : Array UInt8} {tb t0 : Tok} {dp un : Nat} {gd : Option (List Code)} {cn : PySem.Str} {cs : Scope} {a : Addr} {ccd : Value} {cl : List (PySem.Str × Addr)} {outer : List Env} {A₀ : Around} {base h₀ : Heap} {L : Addr} {m : PySem.Str → Option Value} {s : Shared} {Q E : Value → Shared → Prop}
    (B : Below A₀ base outer h₀) (F : Fr h₀ L s.heap m) (X : (hd.heap_39 w.params).In h₀) (N : News h₀ L s.heap news) (T : Top hd.view_39 (looseW hd.view_39 [Str.ofString "key_slot"]) mean mg mb h₀) (hk : cs.kind = .function)
    (hd' : dp + 1 < recursionLimit) (hu : un + 8 < cLine)
    (ret : ∀ (t : Tok) (h' : Heap) (tk' : Nat), Fr h₀ L h' m → News h₀ L h' news → Q (.int (crcF (KBw.bInts b)) t) { s with heap := h', toks := tk' }) :
    wpAny (model PySem.Challenge.rw_ez0329_01.row.prog w) (ktrTop dp un gd cn cs L a ccd cl outer) (call (.ref 21) [.bytes b tb, .int 0 t0]) Q E s :=
  crc_c b tb t0 _ _ _ _ _ _ _ _ _ _ _ _ _ _ _ _ _ B F X N T hk trivial hd' hu ret

local macro_rules | `(tactic| walk_at "call ref") => `(tactic| (
  k_here
  with_reducible show wpAny _ _ (call (Value.ref _) [Value.bytes _ _, Value.int _ _]) _ _ _
  k_dflt (refine' crc_use ?k1 ?k2 ?k3 ?k4 ?k5 ?k6 ?k7 ?k8 ?_; (case k1 => k_asm); (case k2 => k_asm); (case k3 => k_asm); (case k4 => k_asm); (case k5 => k_asm); (case k6 => first | exact rfl | assumption); (case k7 => ktr_room); (case k8 => ktr_units))
  intro t9 h9 tk9 F9 N9
  try dsimp only
  try k_fold))
local macro_rules | `(tactic| walk_at "getMethod bytes") => `(tactic| (k_here; (with_reducible refine method_find ?_); try dsimp only))
local macro_rules | `(tactic| walk_at "call builtin:bytes.find") => `(tactic| (k_here; (first | refine find_2 ?_ | refine find_3 ?_); intro _ _; try dsimp only))
local macro_rules | `(tactic| walk_at "subscriptTail") => `(tactic| (
  k_here
  with_reducible show wpAny _ _ (subscriptTail _ (Expr.Slice _ _ none _) (Value.bytes _ _) (Value.ref _)) _ _ _
  rename Fr _ _ _ _ => F'
  rename News _ _ _ _ => N'
  k_dflt (refine KBc.slice_K (s := ⟨_, _, _, _, _⟩) F' N' rfl (IsPart.int _ _) (IsPart.int _ _) (by rw [KBw.ints_length]; omega) ?_)
  intro _ _ _ _ _ _
  try dsimp only))
theorem told_yes {b : Array UInt8} (h1 : findV b [123].toArray none > -1) (h2 : findV b [125].toArray (some (findV b [123].toArray none + 1)) > -1) (h3 : findV b [125].toArray (some (findV b [123].toArray none + 1)) ≠ findV b [123].toArray none + 1) :
    KBy.picked b (some (findV b [123].toArray none + 1)) (some (findV b [125].toArray (some (findV b [123].toArray none + 1)))) = toldB b := (if_pos ⟨h1, h2, h3⟩).symm
theorem told_no {b : Array UInt8} (h : ¬ (findV b [123].toArray none > -1 ∧ findV b [125].toArray (some (findV b [123].toArray none + 1)) > -1 ∧ findV b [125].toArray (some (findV b [123].toArray none + 1)) ≠ findV b [123].toArray none + 1)) :
    b = toldB b := (if_neg h).symm
theorem slot_of {b c : Array UInt8} {k : Int} (h : c = toldB b) : (crcF (KBw.bInts c)).fmod k = slotF b k := by rw [h]; rfl
set_option maxRecDepth 100000 in
set_option maxHeartbeats 2000000 in
theorem slot_use {w : World} {mean : ExcName → Option Value} {mg mb : PySem.Str → Option Value} {news : List (Addr × Obj)} {b : Array UInt8} {k : Int} {tb tk : Tok} {dp un : Nat} {gd : Option (List Code)} {cn : PySem.Str} {cs : Scope} {a : Addr} {ccd : Value} {cl : List (PySem.Str × Addr)} {outer : List Env} {A₀ : Around} {base h₀ : Heap} {L : Addr} {m : PySem.Str → Option Value} {s : Shared} {Q E : Value → Shared → Prop}
    (B : Below A₀ base outer h₀) (F : Fr h₀ L s.heap m) (X : (hd.heap_39 w.params).In h₀) (N : News h₀ L s.heap news) (T : Top hd.view_39 (looseW hd.view_39 [Str.ofString "key_slot"]) mean mg mb h₀) (hk : cs.kind = .function)
    (hd' : dp + 2 < recursionLimit) (hu : un + 16 < cLine) (hb : b.size ≤ 100) (h0 : 0 < k)
    (hret : ∀ (t : Tok) (h' : Heap) (tk' : Nat), Fr h₀ L h' m → News h₀ L h' news → Q (.int (slotF b k) t) { s with heap := h', toks := tk' }) :
    wpAny (model PySem.Challenge.rw_ez0329_01.row.prog w) (ktrTop dp un gd cn cs L a ccd cl outer) (call (.ref 29) [.bytes b tb, .int k tk]) Q E s := by
  revert X
  k_with_none
  w_top off
  k_fill
  intro X
  refine wpAny_call ?_
  k_dflt (refine' code_def ?k1 ?k2 ?k3 ?k4 ?k5 ?kA ?kF ?kK ?k6 ?k7 ?k8 ?k9 ?kB ?_ ?c2 ?c3 ?c4 ?c5; (case kA => exact rfl); (case kF => exact rfl); (case kK => assumption); (case k1 => k_asm); (case k2 => k_asm); (case k3 => k_asm); (case k4 => k_asm); (case k5 => k_asm); (case k6 => k_is); (case k7 => k_is); (case k8 => ktr_room); (case k9 => first | exact BindsTo.of_eq rfl | exact binds_K (by k_in) rfl (by k_is) rfl rfl rfl); (case c5 => decide); (case kB => exact locs rfl); (case c2 => exact rfl); (case c3 => exact rfl); (case c4 => exact rfl); k_whole; intro g' L' h' FG' F' N' B' X' T'; (try dsimp only); (try k_lift B'); (try k_fold))
  k_steps
  all_goals first
    | exact cb_retI hret (slot_of (told_yes (by omega) (by omega) (by omega))).symm.symm (by assumption) (by assumption)
    | exact cb_retI hret (slot_of (told_no (by omega))) (by assumption) (by assumption)
    | fail
set_option maxRecDepth 100000 in
set_option maxHeartbeats 2000000 in
theorem slot_use1 {w : World} {mean : ExcName → Option Value} {mg mb : PySem.Str → Option Value} {news : List (Addr × Obj)} {b : Array UInt8} {tb : Tok} {dp un : Nat} {gd : Option (List Code)} {cn : PySem.Str} {cs : Scope} {a : Addr} {ccd : Value} {cl : List (PySem.Str × Addr)} {outer : List Env} {A₀ : Around} {base h₀ : Heap} {L : Addr} {m : PySem.Str → Option Value} {s : Shared} {Q E : Value → Shared → Prop}
    (B : Below A₀ base outer h₀) (F : Fr h₀ L s.heap m) (X : (hd.heap_39 w.params).In h₀) (N : News h₀ L s.heap news) (T : Top hd.view_39 (looseW hd.view_39 [Str.ofString "key_slot"]) mean mg mb h₀) (hk : cs.kind = .function)
    (hd' : dp + 2 < recursionLimit) (hu : un + 16 < cLine) (hb : b.size ≤ 100)
    (hret : ∀ (t : Tok) (h' : Heap) (tk' : Nat), Fr h₀ L h' m → News h₀ L h' news → Q (.int (slotF b 16384) t) { s with heap := h', toks := tk' }) :
    wpAny (model PySem.Challenge.rw_ez0329_01.row.prog w) (ktrTop dp un gd cn cs L a ccd cl outer) (call (.ref 29) [.bytes b tb]) Q E s := by
  revert X
  k_with_none
  w_top off
  k_fill
  intro X
  refine wpAny_call ?_
  k_dflt (refine' code_def ?k1 ?k2 ?k3 ?k4 ?k5 ?kA ?kF ?kK ?k6 ?k7 ?k8 ?k9 ?kB ?_ ?c2 ?c3 ?c4 ?c5; (case kA => exact rfl); (case kF => exact rfl); (case kK => assumption); (case k1 => k_asm); (case k2 => k_asm); (case k3 => k_asm); (case k4 => k_asm); (case k5 => k_asm); (case k6 => k_is); (case k7 => k_is); (case k8 => ktr_room); (case k9 => first | exact BindsTo.of_eq rfl | exact binds_K (by k_in) rfl (by k_is) rfl rfl rfl); (case c5 => decide); (case kB => exact locs rfl); (case c2 => exact rfl); (case c3 => exact rfl); (case c4 => exact rfl); k_whole; intro g' L' h' FG' F' N' B' X' T'; (try dsimp only); (try k_lift B'); (try k_fold))
  k_steps
  all_goals first
    | exact cb_retI hret (slot_of (told_yes (by omega) (by omega) (by omega))).symm.symm (by assumption) (by assumption)
    | exact cb_retI hret (slot_of (told_no (by omega))) (by assumption) (by assumption)
    | fail
end
end Mine
namespace Mine
section
open PySem PySem.W PyProof.Rows PySem.Calls
section
variable {prog : Program} {w : World} {A : Around} {E : Value → Shared → Prop} {s : Shared} {h₀ : Heap}
theorem index_led {L D : Addr} {news : List (Addr × Obj)} {vs : List Value} {ns : List Int} {n : Nat} {k : Int} {t : Tok} {Q : Value → Shared → Prop} (N : News h₀ L s.heap news) (hm : (D, listOf vs.toArray n) ∈ news) (hi : IntsAre vs ns) (hk : k ∈ ns) (hz : ns.length ≤ 1000)
    (h : ∀ t' k', Q (.int (ns.idxOf k : Nat) t') { s with toks := k' }) : wpAny (model prog w) A (call (.builtin "list.index") [.ref D, .int k t]) Q E s := by
  have hlen := hi.length
  have hj : ns.idxOf k < ns.length := List.idxOf_lt_length_iff.mpr hk
  refine call_meets PySem.F.slot_list_index ⟨_, (N _ hm).1, rfl⟩ PySem.F.entry_list_index (PySem.F.args_list_index_2 _ _)
    (MeetsSeq.list_index D vs.toArray n (.int k t) (isInt k) (fun y hy => eq_isInt k t hi y (by simpa using hy)) (ns.idxOf k) (by simpa [hlen] using hj) (by omega) ?_ ?_) ⟨(N _ hm).1, h _ _⟩
  · show isInt k vs[ns.idxOf k] = true
    rw [isInt_at k hi _ (by omega) hj]
    simpa using List.getElem_idxOf hj
  · intro j hjs hlt
    have hjn : j < ns.length := by omega
    show isInt k (vs[j]'(by omega)) = false
    rw [isInt_at k hi _ (by omega) hjn]
    have := List.not_of_lt_findIdx (p := (· == k)) (xs := ns) (i := j) (by simpa [List.idxOf] using hlt)
    simpa using this
theorem slice_head {value slice : PySem.Expr} {L l : Addr} {m : PySem.Str → Option Value} {news : List (Addr × Obj)} {vs : List Value} {ns : List Int} {k : Int} {tk : Tok} {Q : Value → Shared → Prop}
    (F : Fr h₀ L s.heap m) (N : News h₀ L s.heap news) (hl : s.heap.IsList l vs.toArray) (hi : IntsAre vs ns) (h0 : 0 ≤ k)
    (h : ∀ (D : Addr) (ws : List Value) (ms : List Int) (h' : Heap), Fr h₀ L h' m → News h₀ L h' ((D, listOf ws.toArray 0) :: news) → (∀ p ∈ news, p.1 < D) → IntsAre ws ms → ms = ns.take k.toNat → Q (.ref D) { s with heap := h' })
    (hs : subscripted slice false (.ref l) (.ref s.heap.objs.size) = operate [.ref s.heap.objs.size, .ref l] (getItem (.ref l) (.ref s.heap.objs.size))) (ht : ∀ r, letTemporaryGo value (.ref l) r = pure ()) (hz : vs.toArray.size ≤ sizeLine) :
    wpAny (model prog w) A (subscriptTail value slice (.ref l) (.ref s.heap.objs.size)) Q E { s with heap := s.heap.push { cls := .type "slice", data := .fields #[.none, .int k tk, .none] } } :=
  kmk_slice_ints F N hl IsPart.none (IsPart.int _ _) hi (kmk_upto hi h0) rfl (fun D ws h' F' N' l1 hI _ _ => h D ws _ h' F' N' l1 hI rfl) hs ht hz
theorem some_in {ns : List Int} {k : Int} (h : (ns.any fun x => x == k) = true) : k ∈ ns := by
  obtain ⟨x, hx, e⟩ := List.any_eq_true.mp h
  rw [← beq_iff_eq.mp e]; exact hx
theorem none_in {ns : List Int} {k : Int} (h : (ns.any fun x => x == k) = false) : k ∉ ns := by
  intro hk
  have : ns.any (fun x => x == k) = true := List.any_eq_true.mpr ⟨k, hk, by simp⟩
  rw [this] at h
  cases h
theorem len_in {ns : List Int} {k : Int} (h : (ns.any fun x => x == k) = true) : 0 < (ns.length : Int) := by
  have := List.length_pos_of_mem (some_in h)
  omega
end
/-- what lies between the braces, as the law reads it -/
def behindN (ns : List Int) : List Int := ns.drop (ns.idxOf 123 + 1)
def toldN (ns : List Int) : List Int :=
  if 123 ∈ ns ∧ 125 ∈ behindN ns ∧ (behindN ns).getD 0 0 ≠ 125 then (behindN ns).take ((behindN ns).idxOf 125) else ns

theorem behind_is {ns ms : List Int} {k : Int} (hk : k = (ns.idxOf 123 : Nat)) (h : ms = ns.drop (k + 1).toNat) : ms = behindN ns := by
  rw [h, hk, show ((ns.idxOf 123 : Nat) : Int) + 1 = ((ns.idxOf 123 + 1 : Nat) : Int) by omega, Int.toNat_natCast]
  rfl
theorem toldA1 {ns : List Int} (h : (ns.any fun x => x == 123) = false) : toldN ns = ns := if_neg fun q => none_in h q.1
theorem toldA2 {ns ms : List Int} (hm : ms = ns.drop (((ns.idxOf 123 : Nat) : Int) + 1).toNat) (h : (ms.any fun x => x == 125) = false) : toldN ns = ns := if_neg fun q => none_in h (behind_is rfl hm ▸ q.2.1)
theorem toldA3 {ns ms : List Int} (hm : ms = ns.drop (((ns.idxOf 123 : Nat) : Int) + 1).toNat) (h : ms.getD (Int.toNat 0) 0 = 125) : toldN ns = ns := if_neg fun q => q.2.2 (behind_is rfl hm ▸ h)
theorem toldB1 {ns ms ks : List Int} (h1 : (ns.any fun x => x == 123) = true) (hm : ms = ns.drop (((ns.idxOf 123 : Nat) : Int) + 1).toNat) (h2 : (ms.any fun x => x == 125) = true) (h3 : ms.getD (Int.toNat 0) 0 ≠ 125)
    (hk : ks = ms.take (((ms.idxOf 125 : Nat) : Int)).toNat) : ks = toldN ns := by
  have e := behind_is rfl hm
  rw [e] at h2 h3 hk
  rw [hk, Int.toNat_natCast]
  exact (if_pos ⟨some_in h1, some_in h2, h3⟩).symm
local macro_rules | `(tactic| walk_at $s:str) => `(tactic| k_extra $s)
local macro_rules | `(tactic| walk_at "compareOp NotIn int ref") => `(tactic| (
  k_here
  with_reducible show wpAny _ _ (compareOp .NotIn (Value.int _ _) (Value.ref _)) _ _ _
  k_dflt (refine' notin_list_ints ?k1 ?k2 ?_; (case k1 => exact News.isList (by k_asm) (by k_mem)); (case k2 => l_ints))
  try dsimp only))
local macro_rules | `(tactic| walk_at "call builtin:list.index") => `(tactic| (
  k_here
  with_reducible show wpAny _ _ (call (Value.builtin _) [Value.ref _, Value.int _ _]) _ _ _
  k_dflt (refine' index_led ?k1 ?k2 ?k3 ?k4 ?k5 ?_; (case k1 => k_asm); (case k2 => k_mem); (case k3 => l_ints); (case k4 => exact some_in (by assumption)); (case k5 => omega))
  intro _ _
  try dsimp only))
set_option maxRecDepth 100000 in
set_option maxHeartbeats 2000000 in
theorem told_use {w : World} {mean : ExcName → Option Value} {mg mb : PySem.Str → Option Value} {news : List (Addr × Obj)} {l : Addr} {vs : List Value} {ns : List Int} {nn : Nat} {dp un : Nat} {gd : Option (List Code)} {cn : PySem.Str} {cs : Scope} {a : Addr} {ccd : Value} {cl : List (PySem.Str × Addr)} {outer : List Env} {A₀ : Around} {base h₀ : Heap} {L : Addr} {m : PySem.Str → Option Value} {s : Shared} {Q E : Value → Shared → Prop}
    (B : Below A₀ base outer h₀) (F : Fr h₀ L s.heap m) (X : (hd.heap_39 w.params).In h₀) (N : News h₀ L s.heap news) (T : Top hd.view_39 (looseW hd.view_39 [Str.ofString "key_slot"]) mean mg mb h₀) (hk : cs.kind = .function)
    (hd' : dp + 1 < recursionLimit) (hu : un + 8 < cLine) (hm : (l, listOf vs.toArray nn) ∈ news) (hi : IntsAre vs ns) (hz : ns.length ≤ 12)
    (retA : toldN ns = ns → ∀ (h' : Heap) (tk' : Nat), Fr h₀ L h' m → News h₀ L h' news → Q (.ref l) { s with heap := h', toks := tk' })
    (retB : ∀ (D : Addr) (ws : List Value) (h' : Heap) (tk' : Nat), Fr h₀ L h' m → News h₀ L h' ((D, listOf ws.toArray 0) :: news) → (∀ p ∈ news, p.1 < D) → IntsAre ws (toldN ns) → Q (.ref D) { s with heap := h', toks := tk' }) :
    wpAny (model PySem.Challenge.rw_ez0329_01.row.prog w) (ktrTop dp un gd cn cs L a ccd cl outer) (call (.ref 50) [.ref l]) Q E s := by
  revert X
  k_with_none
  w_top off
  k_fill
  intro X
  have hMk := kstMark
  k_with "subscriptTail Name Slice ref ref" => (
    rename Fr _ _ _ _ => lF'
    rename News _ _ _ _ => lN'
    with_unfolding_all refine' slice_tail lF' lN' (News.isList lN' hm) hi (by omega) ?_ (by with_unfolding_all rfl) (by intro _; with_unfolding_all rfl) (by rw [List.size_toArray, PySem.sizeLine_eq, hi.length]; omega)
    intro kD kWs kMs kH1 kF1 kN1 kL1 kI1 kSl
    have kZ1 : kMs.length ≤ 12 := by rw [kSl, List.length_drop]; omega
    try k_lt kL1
    try dsimp only)
  k_with "subscriptTail Name Slice ref ref" => (
    rename Fr _ _ _ _ => lF'
    rename News _ _ _ _ => lN'
    with_unfolding_all refine' slice_head lF' lN' (News.isList lN' (.head _)) kI1 (by omega) ?_ (by with_unfolding_all rfl) (by intro _; with_unfolding_all rfl) (by rw [List.size_toArray, PySem.sizeLine_eq, kI1.length]; omega)
    intro kD2 kWs2 kMs2 kH2 kF2 kN2 kL2 kI2 kSl2
    try dsimp only)
  k_with "subscriptTail Name Constant ref int" => (
    rename News _ _ _ _ => lN'
    with_unfolding_all refine' ksa_sub lN' (.head _) kI1 (by decide) (len_in (by assumption)) (by decide) ?_ (by with_unfolding_all rfl)
    intro _
    try dsimp only)
  refine wpAny_call ?_
  k_dflt cell_enter
  k_steps
  all_goals first
    | exact retA (toldA1 (by assumption)) _ _ (by assumption) (by assumption)
    | (refine' retA (toldA2 kSl (by assumption)) _ _ (by assumption) (cb_drop ?hN ?hS); (case hN => assumption); (case hS => kcj_all))
    | (refine' retA (toldA3 kSl (by assumption)) _ _ (by assumption) (cb_drop ?hN ?hS); (case hN => assumption); (case hS => kcj_all))
    | (refine' retB _ _ _ _ (by assumption) (cb_drop ?hN ?hS) ?hlt (toldB1 (by assumption) kSl (by assumption) (by assumption) kSl2 ▸ kI2)
       (case hN => assumption)
       (case hS => kcj_all)
       (case hlt => exact fun p hp => kL2 p (.tail _ hp)))
end
end Mine
namespace Mine
section
open PySem PySem.W PyProof.Rows PySem.Calls
def xorI (b : Int) (t : Bool) : Int := if t then 1 - b else b
theorem flip_get (l : List Int) (i j : Nat) (hi : i < l.length) : (flipAt l i).getD j 0 = if i = j then 1 - l.getD i 0 else l.getD j 0 := by
  unfold flipAt
  rw [List.getD_eq_getElem?_getD, List.getElem?_set]
  by_cases h : i = j
  · rw [if_pos h, if_pos h, if_pos hi]; rfl
  · rw [if_neg h, if_neg h, List.getD_eq_getElem?_getD]
theorem step_get {l : List Int} {p : Nat} (hp : p + 16 < l.length) {i : Nat} (hi : p < i) :
    (divStep l p).getD i 0 = if l.getD p 0 = 1 ∧ (i = p + 4 ∨ i = p + 11 ∨ i = p + 16) then 1 - l.getD i 0 else l.getD i 0 := by
  unfold divStep
  by_cases h1 : l.getD p 0 = 1
  · rw [if_pos h1]
    have g1 := fun i => flip_get l p i (by omega)
    have g2 := fun i => flip_get (flipAt l p) (p + 4) i (by rw [flipAt_length]; omega)
    have g3 := fun i => flip_get (flipAt (flipAt l p) (p + 4)) (p + 11) i (by rw [flipAt_length, flipAt_length]; omega)
    have g4 := fun i => flip_get (flipAt (flipAt (flipAt l p) (p + 4)) (p + 11)) (p + 16) i (by rw [flipAt_length, flipAt_length, flipAt_length]; omega)
    by_cases c1 : i = p + 4
    · subst c1
      rw [g4, if_neg (by omega), g3, if_neg (by omega), g2, if_pos rfl, g1, if_neg (by omega), if_pos ⟨h1, .inl rfl⟩]
    · by_cases c2 : i = p + 11
      · subst c2
        rw [g4, if_neg (by omega), g3, if_pos rfl, g2, if_neg (by omega), g1, if_neg (by omega), if_pos ⟨h1, .inr (.inl rfl)⟩]
      · by_cases c3 : i = p + 16
        · subst c3
          rw [g4, if_pos rfl, g3, if_neg (by omega), g2, if_neg (by omega), g1, if_neg (by omega), if_pos ⟨h1, .inr (.inr rfl)⟩]
        · rw [g4, if_neg (by omega), g3, if_neg (by omega), g2, if_neg (by omega), g1, if_neg (by omega), if_neg (by omega)]
  · rw [if_neg h1, if_neg (by rintro ⟨q, _⟩; exact h1 q)]
/-- the register after p bits -/
def reg (l : List Int) : Nat → Nat
  | 0 => 0
  | p + 1 => sN (reg l p ^^^ (if l.getD p 0 = 1 then 32768 else 0))
theorem top_lt (c : Prop) [Decidable c] : (if c then 32768 else 0) < 65536 := by split <;> decide
theorem reg_lt (l : List Int) : ∀ p, reg l p < 65536
  | 0 => by show 0 < 65536; decide
  | p + 1 => sN_lt (xor_lt16 (reg_lt l p) (top_lt _))
theorem poly_bit : ∀ j, j ≤ 15 → (69665 : Nat).testBit (15 - j) = decide (j = 3 ∨ j = 10 ∨ j = 15) := by decide
theorem sN_bit {t : Nat} {j : Nat} (hj : j ≤ 14) : (sN t).testBit (15 - j) = (t.testBit (14 - j) ^^ (t.testBit 15 && decide (j = 3 ∨ j = 10))) := by
  have e1 : 15 - j = (14 - j) + 1 := by omega
  have e2 : (2 * t).testBit (15 - j) = t.testBit (14 - j) := by
    rw [e1, Nat.testBit_succ, Nat.mul_div_cancel_left _ (by decide)]
  have e3 := poly_bit j (by omega)
  have e4 : decide (j = 3 ∨ j = 10 ∨ j = 15) = decide (j = 3 ∨ j = 10) := by
    congr 1
    apply propext
    omega
  unfold sN
  cases h : t.testBit 15
  · rw [if_neg Bool.false_ne_true, e2]; simp
  · rw [if_pos rfl, Nat.testBit_xor, e2, e3, e4]; simp
theorem sN_bit0 (t : Nat) : (sN t).testBit 0 = t.testBit 15 := by
  have e : (2 * t).testBit 0 = false := by simp [Nat.testBit_zero]
  unfold sN
  cases h : t.testBit 15
  · rw [if_neg Bool.false_ne_true, e]
  · rw [if_pos rfl, Nat.testBit_xor, e]; decide
theorem top_bits (c : Prop) [Decidable c] {k : Nat} (hk : k < 15) : (if c then 32768 else 0 : Nat).testBit k = false := by
  split
  · exact (Nat.testBit_two_pow_of_ne (n := 15) (by omega))
  · exact Nat.zero_testBit k
theorem top_bit15 (c : Prop) [Decidable c] : (if c then 32768 else 0 : Nat).testBit 15 = decide c := by
  by_cases h : c
  · rw [if_pos h, decide_eq_true h]; decide
  · rw [if_neg h, decide_eq_false h]; decide
def Bit (b : Int) : Prop := b = 0 ∨ b = 1
theorem xorI_one {b : Int} (hb : Bit b) (t : Bool) : decide (xorI b t = 1) = (t ^^ decide (b = 1)) := by
  rcases hb with rfl | rfl <;> cases t <;> decide
theorem xorI_xor (b : Int) (s t : Bool) : xorI (xorI b s) t = xorI b (s ^^ t) := by
  cases s <;> cases t <;> simp [xorI] <;> omega
/-- what the written division holds after p steps: the untouched bits, the register over the next sixteen -/
theorem div_holds {l : List Int} (hb : ∀ i, Bit (l.getD i 0)) : ∀ p, p + 16 ≤ l.length →
    (∀ j, j ≤ 15 → (divN l p).getD (p + j) 0 = xorI (l.getD (p + j) 0) ((reg l p).testBit (15 - j))) ∧ ∀ i, p + 16 ≤ i → (divN l p).getD i 0 = l.getD i 0
  | 0, _ => ⟨fun j _ => by
      show l.getD (0 + j) 0 = xorI _ ((0 : Nat).testBit _)
      rw [Nat.zero_testBit]; rfl, fun i _ => rfl⟩
  | p + 1, hp => by
    obtain ⟨h1, h2⟩ := div_holds hb p (by omega)
    have hl : p + 16 < (divN l p).length := by have := divN_length l p; omega
    have hc : decide ((divN l p).getD p 0 = 1) = (reg l p ^^^ (if l.getD p 0 = 1 then 32768 else 0)).testBit 15 := by
      have := h1 0 (by decide)
      rw [Nat.add_zero] at this
      rw [this, xorI_one (hb p), Nat.testBit_xor, top_bit15]
    refine ⟨fun j hj => ?_, fun i hi => ?_⟩
    · show (divStep (divN l p) p).getD (p + 1 + j) 0 = xorI _ ((sN (reg l p ^^^ (if l.getD p 0 = 1 then 32768 else 0))).testBit (15 - j))
      rw [step_get hl (by omega)]
      have e : p + 1 + j = p + (j + 1) := by omega
      by_cases h15 : j = 15
      · subst h15
        rw [show 15 - 15 = 0 from rfl, sN_bit0, ← hc, h2 (p + 1 + 15) (by omega)]
        by_cases q : (divN l p).getD p 0 = 1
        · rw [if_pos ⟨q, by omega⟩, decide_eq_true q]; rfl
        · rw [if_neg (fun r => q r.1), decide_eq_false q]; rfl
      · rw [sN_bit (by omega), ← hc, e, h1 (j + 1) (by omega), Nat.testBit_xor, top_bits _ (by omega), Bool.xor_false, show 15 - (j + 1) = 14 - j by omega, ← xorI_xor]
        by_cases q : (divN l p).getD p 0 = 1
        · rw [decide_eq_true q, Bool.true_and]
          by_cases r : j = 3 ∨ j = 10
          · rw [if_pos ⟨q, by omega⟩, decide_eq_true r]; rfl
          · rw [if_neg (by omega), decide_eq_false r]; rfl
        · rw [if_neg (fun r => q r.1), decide_eq_false q, Bool.false_and]; rfl
    · show (divStep (divN l p) p).getD i 0 = _
      rw [step_get (by omega) (by omega), if_neg (by omega), h2 _ (by omega)]
end
end Mine
namespace Mine
section
open PySem PySem.W PyProof.Rows PySem.Calls
def regL (r : Nat) (bs : List Int) : Nat := bs.foldl (fun r b => sN (r ^^^ (if b = 1 then 32768 else 0))) r
theorem regL_lt {r : Nat} (h : r < 65536) : ∀ bs, regL r bs < 65536
  | [] => h
  | b :: t => regL_lt (r := sN (r ^^^ (if b = 1 then 32768 else 0))) (sN_lt (xor_lt16 h (top_lt _))) t
theorem regL_append (r : Nat) (a b : List Int) : regL r (a ++ b) = regL (regL r a) b := List.foldl_append ..
theorem reg_is (l : List Int) : ∀ p, p ≤ l.length → reg l p = regL 0 (l.take p)
  | 0, _ => rfl
  | p + 1, hp => by
    have hg : l[p]? = some (l.getD p 0) := by
      rw [List.getD_eq_getElem?_getD, List.getElem?_eq_getElem (by omega)]; rfl
    rw [List.take_add_one, hg, regL_append, ← reg_is l p (by omega)]
    rfl
theorem bit_of_oct : ∀ k : Nat, k < 8 → ∀ o : Nat, o < 256 → (decide (32768 ≤ (o * 2 ^ (8 + k)) % 65536) = decide ((oct8 (o : Int)).getD k 0 = 1)) := by decide +kernel
theorem split_top {z : Nat} (h : z < 65536) : z = (if 32768 ≤ z then 32768 else 0) ^^^ (z % 32768) := by
  apply Nat.eq_of_testBit_eq
  intro i
  rw [Nat.testBit_xor, show (32768 : Nat) = 2 ^ 15 from rfl, Nat.testBit_mod_two_pow]
  by_cases h1 : i < 15
  · rw [show (2 ^ 15 : Nat) = 32768 from rfl, top_bits _ h1, decide_eq_true h1]; simp
  · by_cases h2 : i = 15
    · subst h2
      rw [show (2 ^ 15 : Nat) = 32768 from rfl, top_bit15, top_bit h]; simp
    · rw [show (2 ^ 15 : Nat) = 32768 from rfl, Nat.testBit_lt_two_pow (Nat.lt_of_lt_of_le (show z < 2 ^ 16 by omega) (Nat.pow_le_pow_right (by decide) (by omega))), decide_eq_false h1]
      have : (if 32768 ≤ z then 32768 else 0 : Nat).testBit i = false := by
        split
        · exact Nat.testBit_two_pow_of_ne (n := 15) (by omega)
        · exact Nat.zero_testBit i
      rw [this]; rfl
theorem byte_step {v o : Nat} (ho : o < 256) : ∀ k, k ≤ 8 → sBits k (v ^^^ (o * 256)) = regL v ((oct8 (o : Int)).take k) ^^^ ((o * 2 ^ (8 + k)) % 65536)
  | 0, _ => by
    show v ^^^ (o * 256) = v ^^^ ((o * 256) % 65536)
    rw [Nat.mod_eq_of_lt (by omega)]
  | k + 1, hk => by
    have ih := byte_step (v := v) ho k (by omega)
    have hz : (o * 2 ^ (8 + k)) % 65536 < 65536 := Nat.mod_lt _ (by decide)
    have hl : (oct8 (o : Int)).length = 8 := oct8_length _
    have hg : (oct8 (o : Int))[k]? = some ((oct8 (o : Int)).getD k 0) := by
      rw [List.getD_eq_getElem?_getD, List.getElem?_eq_getElem (by omega)]; rfl
    have hb := bit_of_oct k (by omega) o ho
    show sN (sBits k (v ^^^ (o * 256))) = _
    rw [ih, List.take_add_one, hg, regL_append]
    generalize regL v ((oct8 (o : Int)).take k) = R
    show _ = sN (R ^^^ (if (oct8 (o : Int)).getD k 0 = 1 then 32768 else 0)) ^^^ _
    have e1 : (if (oct8 (o : Int)).getD k 0 = 1 then 32768 else 0 : Nat) = if 32768 ≤ (o * 2 ^ (8 + k)) % 65536 then 32768 else 0 := by
      by_cases q : 32768 ≤ (o * 2 ^ (8 + k)) % 65536
      · rw [decide_eq_true q] at hb
        rw [if_pos q, if_pos (of_decide_eq_true hb.symm)]
      · rw [decide_eq_false q] at hb
        rw [if_neg q, if_neg (of_decide_eq_false hb.symm)]
    have e2 : (o * 2 ^ (8 + (k + 1))) % 65536 = 2 * ((o * 2 ^ (8 + k)) % 65536 % 32768) := by
      rw [show 8 + (k + 1) = (8 + k) + 1 by omega, Nat.pow_succ, ← Nat.mul_assoc]
      generalize o * 2 ^ (8 + k) = w
      omega
    rw [e1, e2, ← sN_xor (Nat.mod_lt _ (by decide)), Nat.xor_assoc, ← split_top hz]
theorem byte_is {v o : Nat} (hv : v < 65536) (ho : o < 256) : crcByte (v : Int) (o : Int) = (regL v (oct8 (o : Int)) : Int) := by
  unfold crcByte
  rw [crcX_nat, crcBits_nat (xor_lt16 hv (by omega)), byte_step ho 8 (Nat.le_refl 8), List.take_of_length_le (by rw [oct8_length]; exact Nat.le_refl 8)]
  have : (o * 2 ^ (8 + 8)) % 65536 = 0 := Nat.mul_mod_left _ _
  rw [this, Nat.xor_zero]
theorem crc_is : ∀ (ns : List Int) (v : Nat), v < 65536 → (∀ n ∈ ns, 0 ≤ n ∧ n < 256) → ns.foldl crcByte (v : Int) = (regL v (bitsOf ns) : Int)
  | [], _, _, _ => rfl
  | n :: r, v, hv, h => by
    have hn := h n (.head _)
    obtain ⟨o, rfl⟩ : ∃ o : Nat, n = o := ⟨n.toNat, by omega⟩
    show r.foldl crcByte (crcByte (v : Int) (o : Int)) = (regL v (oct8 (o : Int) ++ bitsOf r) : Int)
    rw [byte_is hv (by omega), crc_is r _ (regL_lt hv _) fun x hx => h x (.tail _ hx), regL_append]
theorem oct8_bit (o : Int) : ∀ x ∈ oct8 o, Bit x := by
  intro x hx
  unfold oct8 at hx
  obtain ⟨i, _, rfl⟩ := List.mem_map.mp hx
  have h1 : ∀ a : Int, a.fmod 2 = 0 ∨ a.fmod 2 = 1 := fun a => by
    rw [Int.fmod_eq_emod_of_nonneg _ (by decide)]; omega
  exact h1 _
theorem padded_bit (ns : List Int) : ∀ i, Bit ((bitsOf ns ++ List.replicate 16 (0 : Int)).getD i 0) := by
  intro i
  rw [List.getD_eq_getElem?_getD]
  cases h : (bitsOf ns ++ List.replicate 16 (0 : Int))[i]? with
  | none => exact .inl rfl
  | some x =>
    rcases List.mem_append.mp (List.mem_of_getElem? h) with q | q
    · obtain ⟨o, _, ho⟩ := List.mem_flatMap.mp q
      exact oct8_bit o x ho
    · exact .inl (List.eq_of_mem_replicate q)
theorem padded_zero (ns : List Int) (j : Nat) (hj : j ≤ 15) : (bitsOf ns ++ List.replicate 16 (0 : Int)).getD (8 * ns.length + j) 0 = 0 := by
  rw [List.getD_eq_getElem?_getD, List.getElem?_append_right (by rw [bitsOf_length]; omega), bitsOf_length, List.getElem?_replicate]
  rw [if_pos (by omega)]; rfl
def bitsBE : Nat → Nat → List Int
  | 0, _ => []
  | n + 1, r => bitsBE n (r / 2) ++ [((r % 2 : Nat) : Int)]
theorem bitsBE_length : ∀ n r, (bitsBE n r).length = n
  | 0, _ => rfl
  | n + 1, r => by
    show (bitsBE n (r / 2) ++ _).length = _
    rw [List.length_append, bitsBE_length n]; rfl
theorem bitsBE_get : ∀ n r j, j < n → (bitsBE n r)[j]? = some (xorI 0 (r.testBit (n - 1 - j)))
  | 0, _, _, h => absurd h (Nat.not_lt_zero _)
  | n + 1, r, j, h => by
    show (bitsBE n (r / 2) ++ [((r % 2 : Nat) : Int)])[j]? = _
    by_cases q : j < n
    · rw [List.getElem?_append_left (by rw [bitsBE_length]; exact q), bitsBE_get n _ j q, show n + 1 - 1 - j = (n - 1 - j) + 1 by omega, Nat.testBit_succ]
    · have e : j = n := by omega
      subst e
      rw [List.getElem?_append_right (by rw [bitsBE_length]; exact Nat.le_refl _), bitsBE_length, Nat.sub_self, show j + 1 - 1 - j = 0 by omega, Nat.testBit_zero]
      rcases Nat.mod_two_eq_zero_or_one r with q | q <;> rw [q] <;> rfl
theorem foldB_BE : ∀ n r, r < 2 ^ n → foldB (bitsBE n r) = (r : Int)
  | 0, r, h => by
    have : r = 0 := by omega
    subst this; rfl
  | n + 1, r, h => by
    show foldB (bitsBE n (r / 2) ++ [((r % 2 : Nat) : Int)]) = _
    have e : foldB (bitsBE n (r / 2) ++ [((r % 2 : Nat) : Int)]) = 2 * foldB (bitsBE n (r / 2)) + ((r % 2 : Nat) : Int) := by
      unfold foldB
      rw [List.foldl_append]; rfl
    rw [e, foldB_BE n _ (by rw [Nat.pow_succ] at h; omega)]
    omega
theorem rest_is (ns : List Int) : restF ns = (regL 0 (bitsOf ns) : Int) := by
  have hlen : (bitsOf ns ++ List.replicate 16 (0 : Int)).length = 8 * ns.length + 16 := by rw [List.length_append, bitsOf_length, List.length_replicate]
  have hd := (div_holds (padded_bit ns) (8 * ns.length) (by omega)).1
  have hr : reg (bitsOf ns ++ List.replicate 16 (0 : Int)) (8 * ns.length) = regL 0 (bitsOf ns) := by
    rw [reg_is _ _ (by omega), List.take_left' (bitsOf_length ns)]
  rw [hr] at hd
  unfold restF
  have e : (divN (bitsOf ns ++ List.replicate 16 0) (8 * ns.length)).drop (8 * ns.length) = bitsBE 16 (regL 0 (bitsOf ns)) := by
    apply List.ext_getElem?
    intro j
    rw [List.getElem?_drop]
    by_cases q : j < 16
    · have h1 := hd j (by omega)
      rw [padded_zero ns j (by omega), List.getD_eq_getElem?_getD] at h1
      have h2 : 8 * ns.length + j < (divN (bitsOf ns ++ List.replicate 16 (0 : Int)) (8 * ns.length)).length := by rw [divN_length, hlen]; omega
      rw [List.getElem?_eq_getElem h2] at h1 ⊢
      rw [bitsBE_get 16 _ j q, show 16 - 1 - j = 15 - j by omega]
      exact congrArg some h1
    · rw [List.getElem?_eq_none (by rw [divN_length, hlen]; omega), List.getElem?_eq_none (by rw [bitsBE_length]; omega)]
  rw [e]
  exact foldB_BE 16 _ (regL_lt (by decide) _)
theorem crc_rest {ns : List Int} (h : ∀ n ∈ ns, 0 ≤ n ∧ n < 256) : crcF ns = restF ns := by
  rw [rest_is]
  exact crc_is ns 0 (by decide) h
end
end Mine
namespace Mine
section
open PySem PySem.W PyProof.Rows PySem.Calls
/-- the first place of a sign, from a place on -/
theorem find_run (c : Int) (p : Nat → Bool) : ∀ (L : List Int) (lo : Nat), (∀ j (hj : j < L.length), p (j + lo) = (L[j] == c)) →
    ((List.range L.length).map (· + lo)).find? p = if c ∈ L then some (L.idxOf c + lo) else none
  | [], lo, _ => rfl
  | x :: r, lo, h => by
    have h0 := h 0 (Nat.zero_lt_succ _)
    rw [List.length_cons, List.range_succ_eq_map, List.map_cons, List.find?_cons, h0]
    show (match x == c with | true => some (0 + lo) | false => _) = _
    by_cases q : x = c
    · subst q
      rw [beq_self_eq_true]
      show some (0 + lo) = _
      rw [if_pos (.head _), List.idxOf_cons_self]
    · have qb : (x == c) = false := by simpa using q
      rw [qb]
      show List.find? p _ = _
      have e : List.map (fun y => y + lo) (List.map Nat.succ (List.range r.length)) = (List.range r.length).map (· + (lo + 1)) := by
        rw [List.map_map]
        refine List.map_congr_left fun j _ => ?_
        show j.succ + lo = j + (lo + 1)
        omega
      rw [e, find_run c p r (lo + 1) fun j hj => by
        have := h (j + 1) (Nat.succ_lt_succ hj)
        rw [show j + (lo + 1) = j + 1 + lo by omega, this]; rfl]
      by_cases m : c ∈ r
      · rw [if_pos m, if_pos (.tail _ m), List.idxOf_cons, Bool.cond_eq_ite, if_neg (by simpa using q)]
        congr 1; omega
      · rw [if_neg m, if_neg (by
          intro m'
          rcases List.mem_cons.mp m' with e | e
          · exact q e.symm
          · exact m e)]
theorem one_at {b : Array UInt8} {c : UInt8} {i : Nat} (hi : i < b.size) : (b.extract i (i + 1) == #[c]) = (((b[i]).toNat : Int) == (c.toNat : Int)) := by
  have e : b.extract i (i + 1) = #[b[i]] := by
    apply Array.ext
    · simp; omega
    · intro j h1 h2
      have hj : j = 0 := by simp at h2; omega
      subst hj
      simp
  rw [e]
  by_cases q : b[i] = c
  · rw [q]; simp
  · have h1 : (#[b[i]] == #[c]) = false := by simpa using q
    have h2 : (((b[i]).toNat : Int) == (c.toNat : Int)) = false := by
      apply Bool.eq_false_iff.mpr
      intro h
      have := Int.ofNat.inj (beq_iff_eq.mp h)
      exact q (UInt8.toNat_inj.mp this)
    rw [h1, h2]
theorem findV_is (b : Array UInt8) (c : UInt8) (i : Nat) (hi : i ≤ b.size) :
    findV b #[c] (some (i : Int)) = if (c.toNat : Int) ∈ (KBw.bInts b).drop i then (((((KBw.bInts b).drop i).idxOf (c.toNat : Int) + i : Nat)) : Int) else (-1 : Int) := by
  have hl : ((KBw.bInts b).drop i).length = b.size - i := by rw [List.length_drop, KBw.ints_length]
  have hw : findW b #[c] (some (i : Int)) = if (c.toNat : Int) ∈ (KBw.bInts b).drop i then some (((KBw.bInts b).drop i).idxOf (c.toNat : Int) + i) else none := by
    have e1 : Builtin.Bytes.window b.size (some (i : Int)) none = ((i : Int), (b.size : Int)) := by
      unfold Builtin.Bytes.window
      simp only [Option.getD_some, Option.getD_none]
      rw [if_neg (by omega), if_neg (by omega)]
      congr 1
      omega
    unfold findW
    rw [e1]
    have e2 : (((#[c] : Array UInt8).size : Nat) : Int) = 1 := rfl
    show (if ((b.size : Int) - (i : Int) < ((#[c] : Array UInt8).size : Nat)) then none else some ((i : Int).toNat, (b.size : Int).toNat)).bind _ = _
    rw [e2]
    by_cases q : i < b.size
    · rw [if_neg (by omega)]
      show Builtin.Bytes.find? b #[c] (i : Int).toNat (b.size : Int).toNat = _
      rw [Int.toNat_natCast, Int.toNat_natCast]
      unfold Builtin.Bytes.find?
      have e3 : b.size + 1 - (i + (#[c] : Array UInt8).size) = ((KBw.bInts b).drop i).length := by
        rw [hl]; show b.size + 1 - (i + 1) = _; omega
      rw [e3]
      refine find_run (c.toNat : Int) _ _ _ fun j hj => ?_
      have hj' : j + i < b.size := by omega
      show (b.extract (j + i) (j + i + 1) == #[c]) = _
      rw [one_at hj']
      congr 1
      rw [List.getElem_drop]
      unfold KBw.bInts
      rw [List.getElem_map]
      have : i + j = j + i := Nat.add_comm _ _
      simp only [this]
      simp
    · have e4 : (KBw.bInts b).drop i = [] := List.drop_eq_nil_of_le (by rw [KBw.ints_length]; omega)
      rw [if_pos (by omega), e4, if_neg (by simp)]; rfl
  unfold findV
  rw [hw]
  by_cases q : (c.toNat : Int) ∈ (KBw.bInts b).drop i
  · rw [if_pos q, if_pos q]
  · rw [if_neg q, if_neg q]
theorem findV_none (b : Array UInt8) (c : UInt8) : findV b #[c] none = if (c.toNat : Int) ∈ KBw.bInts b then ((((KBw.bInts b).idxOf (c.toNat : Int) : Nat)) : Int) else (-1 : Int) := by
  have e : findV b #[c] none = findV b #[c] (some ((0 : Nat) : Int)) := rfl
  rw [e, findV_is b c 0 (Nat.zero_le _), List.drop_zero, Nat.add_zero]
theorem told_is (b : Array UInt8) : KBw.bInts (toldB b) = toldN (KBw.bInts b) := by
  have es : startOf b = if 123 ∈ KBw.bInts b then ((((KBw.bInts b).idxOf 123 : Nat)) : Int) else (-1 : Int) := findV_none b 123
  generalize hL : KBw.bInts b = L at es ⊢
  have hlen : L.length = b.size := by rw [← hL, KBw.ints_length]
  by_cases q : (123 : Int) ∈ L
  · rw [if_pos q] at es
    have hj : L.idxOf 123 < L.length := List.idxOf_lt_length_iff.mpr q
    have ee : endOf b = if 125 ∈ behindN L then ((((behindN L).idxOf 125 + (L.idxOf 123 + 1) : Nat)) : Int) else (-1 : Int) := by
      unfold endOf
      rw [es]
      have := findV_is b 125 (L.idxOf 123 + 1) (by omega)
      rw [hL] at this
      exact this
    by_cases r : (125 : Int) ∈ behindN L
    · rw [if_pos r] at ee
      have hk : (behindN L).idxOf 125 < (behindN L).length := List.idxOf_lt_length_iff.mpr r
      have hbl : (behindN L).length = L.length - (L.idxOf 123 + 1) := List.length_drop
      have h0 : ((behindN L).getD 0 0 ≠ 125) ↔ (behindN L).idxOf 125 ≠ 0 := by
        cases hB : behindN L with
        | nil => rw [hB] at r; cases r
        | cons x t =>
          by_cases hx : x = 125
          · subst hx; simp
          · constructor
            · intro _
              rw [List.idxOf_cons, Bool.cond_eq_ite, if_neg (by simpa using hx)]; omega
            · intro _; simpa using hx
      by_cases z : (behindN L).idxOf 125 = 0
      · have h1 : toldB b = b := by
          unfold toldB
          rw [if_neg (by rw [ee, es]; omega)]
        have h2 : toldN L = L := by
          unfold toldN
          rw [if_neg (fun h => h0.mp h.2.2 z)]
        rw [h1, h2, hL]
      · have h1 : toldB b = KBy.picked b (some (startOf b + 1)) (some (endOf b)) := by
          unfold toldB
          rw [if_pos (by rw [ee, es]; omega)]
        have h2 : toldN L = (behindN L).take ((behindN L).idxOf 125) := by
          unfold toldN
          rw [if_pos ⟨q, r, h0.mpr z⟩]
        rw [h1, h2, KBc.ints_picked hL, es, ee]
        have c1 : Option.elim (some (((L.idxOf 123 : Nat) : Int) + 1)) 0 (clipAt L.length) = L.idxOf 123 + 1 := by
          show clipAt L.length (((L.idxOf 123 : Nat) : Int) + 1) = _
          rw [show ((L.idxOf 123 : Nat) : Int) + 1 = ((L.idxOf 123 + 1 : Nat) : Int) by omega, clipAt_nat]
          omega
        have c2 : Option.elim (some ((((behindN L).idxOf 125 + (L.idxOf 123 + 1) : Nat) : Int))) L.length (clipAt L.length) = (behindN L).idxOf 125 + (L.idxOf 123 + 1) := by
          show clipAt L.length _ = _
          rw [clipAt_nat]
          omega
        rw [c1, c2, Nat.add_sub_cancel]
        rfl
    · rw [if_neg r] at ee
      have h1 : toldB b = b := by
        unfold toldB
        rw [if_neg (by rw [ee]; omega)]
      have h2 : toldN L = L := by
        unfold toldN
        rw [if_neg (fun h => r h.2.1)]
      rw [h1, h2, hL]
  · rw [if_neg q] at es
    have h1 : toldB b = b := by
      unfold toldB
      rw [if_neg (by rw [es]; omega)]
    have h2 : toldN L = L := by
      unfold toldN
      rw [if_neg (fun h => q h.1)]
    rw [h1, h2, hL]
theorem ints_byteArr {os : List Int} (hr : ∀ n ∈ os, 0 ≤ n ∧ n < 256) : KBw.bInts (byteArr os) = os := by
  unfold KBw.bInts byteArr
  show (os.map fun n => n.toNat.toUInt8).map _ = os
  rw [List.map_map]
  have : os.map ((fun c : UInt8 => (c.toNat : Int)) ∘ fun n : Int => n.toNat.toUInt8) = os.map id := List.map_congr_left fun n hn => byte_back (hr n hn).1 (hr n hn).2
  rw [this, List.map_id]
theorem told_sub' (ns : List Int) : ∀ x ∈ toldN ns, x ∈ ns := by
  intro x hx
  unfold toldN at hx
  split at hx
  · exact List.mem_of_mem_drop (List.mem_of_mem_take hx)
  · exact hx
theorem slot_law' {os : List Int} {k : Int} (hr : ∀ n ∈ os, 0 ≤ n ∧ n < 256) : slotF (byteArr os) k = (restF (toldN os)).fmod k := by
  unfold slotF
  rw [told_is, ints_byteArr hr, crc_rest fun n hn => hr n (told_sub' os n hn)]
end
end Mine
namespace Mine
section
open PySem PySem.W PyProof.Rows PySem.Calls
section
variable {prog : Program} {w : World} {A : Around} {E : Value → Shared → Prop} {s : Shared} {h₀ : Heap}
theorem menu_sub {L D : Addr} {news : List (Addr × Obj)} {vs : List Value} {ns : List Int} {n : Nat} {k lo hi : Int} {u : Tok} {value slice : PySem.Expr} {Q : Value → Shared → Prop} (N : News h₀ L s.heap news) (hm : (D, listOf vs.toArray n) ∈ news) (hi' : IntsAre vs ns)
    (hp : ∀ x ∈ ns, lo ≤ x ∧ x < hi) (h0 : 0 ≤ k) (h1 : k < ns.length) (hz : (ns.length : Int) < 1000) (h : ∀ x t, lo ≤ x → x < hi → Q (.int x t) s)
    (hs : subscripted slice false (.ref D) (.int k u) = operate [.ref D, .int k u] (getItem (.ref D) (.int k u)) := by with_unfolding_all rfl) :
    wpAny (model prog w) A (subscriptTail value slice (.ref D) (.int k u)) Q E s := by
  refine ksa_sub N hm hi' h0 h1 (by omega) (fun t => ?_) hs
  have hj : k.toNat < ns.length := by omega
  have e : ns.getD k.toNat 0 = ns[k.toNat] := by simp [List.getD, hj]
  rw [e]
  have := hp _ (List.getElem_mem hj)
  exact h _ t this.1 this.2
end
theorem menu8 (t0 t1 t2 t3 t4 t5 t6 t7 : Tok) : IntsAre [.int 123 t0, .int 125 t1, .int 97 t2, .int 98 t3, .int 0 t4, .int 255 t5, .int 123 t6, .int 125 t7] [123, 125, 97, 98, 0, 255, 123, 125] :=
  .cons _ _ (.cons _ _ (.cons _ _ (.cons _ _ (.cons _ _ (.cons _ _ (.cons _ _ (.cons _ _ .nil)))))))
theorem menu8_in : ∀ x ∈ ([123, 125, 97, 98, 0, 255, 123, 125] : List Int), 0 ≤ x ∧ x < 256 := by decide
theorem menu4 (t0 t1 t2 t3 : Tok) : IntsAre [.int 16384 t0, .int 7 t1, .int 1 t2, .int 1000 t3] [16384, 7, 1, 1000] :=
  .cons _ _ (.cons _ _ (.cons _ _ (.cons _ _ .nil)))
theorem menu4_in : ∀ x ∈ ([16384, 7, 1, 1000] : List Int), 1 ≤ x ∧ x < 20000 := by decide
theorem fmod_in {a : Int} {n : Int} (h : 0 < n) : 0 ≤ a.fmod n := by
  rw [Int.fmod_eq_emod_of_nonneg _ (by omega)]
  exact Int.emod_nonneg _ (by omega)
theorem fmod_lt {a : Int} {n : Int} (h : 0 < n) : a.fmod n < n := Int.fmod_lt_of_pos a h
theorem oct_0 : ([] : List Int).length = ([] : List Int).length ∧ ∀ v ∈ ([] : List Int), 0 ≤ v ∧ v < 256 := ⟨rfl, fun _ h => nomatch h⟩
theorem oct_t {o pre : List Int} {x k : Int} (h : o.length = pre.length) (hv : ∀ v ∈ o, 0 ≤ v ∧ v < 256) (h0 : 0 ≤ x) (h1 : x < 256) : (o ++ [x]).length = (pre ++ [k]).length ∧ ∀ v ∈ o ++ [x], 0 ≤ v ∧ v < 256 := by
  refine ⟨by rw [List.length_append, List.length_append, h]; rfl, fun v hm => ?_⟩
  rcases List.mem_append.mp hm with q | q
  · exact hv v q
  · rw [List.mem_singleton.mp q]; exact ⟨h0, h1⟩

theorem bytes_L {prog : Program} {w : World} {A : Around} {E : Value → Shared → Prop} {s : Shared} {h₀ : Heap} {L l : Addr} {m : PySem.Str → Option Value} {news : List (Addr × Obj)} {vs : List Value} {ns : List Int} {n : Nat} {Q : Value → Shared → Prop} (F : Fr h₀ L s.heap m) (N : News h₀ L s.heap news) (hm : (l, listOf vs.toArray n) ∈ news) (hi : IntsAre vs ns) (hr : ∀ n ∈ ns, 0 ≤ n ∧ n < 256) (hz : ns.length ≤ 100) (hh : A.handled = none)
    (h : ∀ h' t k, Fr h₀ L h' m → News h₀ L h' news → Q (.bytes (byteArr ns) t) { s with heap := h', toks := k }) : wpAny (model prog w) A (call (.type "bytes") [.ref l]) Q E s :=
  bytes_K F N (News.isList N hm) hi hr (by rw [PySem.sizeLine_eq, hi.length]; omega) hh fun h' t k F' N' _ => h h' t k F' N'
theorem slot_call {w : World} {mean : ExcName → Option Value} {mg mb : PySem.Str → Option Value} {news : List (Addr × Obj)} {os ks : List Int} {k : Int} {tb tk : Tok} {dp un : Nat} {gd : Option (List Code)} {cn : PySem.Str} {cs : Scope} {a : Addr} {ccd : Value} {cl : List (PySem.Str × Addr)} {outer : List Env} {A₀ : Around} {base h₀ : Heap} {L : Addr} {m : PySem.Str → Option Value} {s : Shared} {Q E : Value → Shared → Prop}
    (B : Below A₀ base outer h₀) (F : Fr h₀ L s.heap m) (X : (hd.heap_39 w.params).In h₀) (N : News h₀ L s.heap news) (T : Top hd.view_39 (looseW hd.view_39 [Str.ofString "key_slot"]) mean mg mb h₀) (hk : cs.kind = .function)
    (hd' : dp + 2 < recursionLimit) (hu : un + 16 < cLine) (hz : os.length ≤ 100) (h0 : 0 < k) (hr : ∀ n ∈ os, 0 ≤ n ∧ n < 256) (hks : toldN os = ks)
    (ret : ∀ (t : Tok) (h' : Heap) (tk' : Nat), Fr h₀ L h' m → News h₀ L h' news → Q (.int ((restF ks).fmod k) t) { s with heap := h', toks := tk' }) :
    wpAny (model PySem.Challenge.rw_ez0329_01.row.prog w) (ktrTop dp un gd cn cs L a ccd cl outer) (call (.ref 29) [.bytes (byteArr os) tb, .int k tk]) Q E s :=
  slot_use B F X N T hk hd' hu (by rw [byteArr_size]; exact hz) h0 fun t h' tk' F' N' => by
    rw [slot_law' hr, hks]; exact ret t h' tk' F' N'
theorem slot_call1 {w : World} {mean : ExcName → Option Value} {mg mb : PySem.Str → Option Value} {news : List (Addr × Obj)} {os ks : List Int} {tb : Tok} {dp un : Nat} {gd : Option (List Code)} {cn : PySem.Str} {cs : Scope} {a : Addr} {ccd : Value} {cl : List (PySem.Str × Addr)} {outer : List Env} {A₀ : Around} {base h₀ : Heap} {L : Addr} {m : PySem.Str → Option Value} {s : Shared} {Q E : Value → Shared → Prop}
    (B : Below A₀ base outer h₀) (F : Fr h₀ L s.heap m) (X : (hd.heap_39 w.params).In h₀) (N : News h₀ L s.heap news) (T : Top hd.view_39 (looseW hd.view_39 [Str.ofString "key_slot"]) mean mg mb h₀) (hk : cs.kind = .function)
    (hd' : dp + 2 < recursionLimit) (hu : un + 16 < cLine) (hz : os.length ≤ 100) (hr : ∀ n ∈ os, 0 ≤ n ∧ n < 256) (hks : toldN os = ks)
    (ret : ∀ (t : Tok) (h' : Heap) (tk' : Nat), Fr h₀ L h' m → News h₀ L h' news → Q (.int ((restF ks).fmod 16384) t) { s with heap := h', toks := tk' }) :
    wpAny (model PySem.Challenge.rw_ez0329_01.row.prog w) (ktrTop dp un gd cn cs L a ccd cl outer) (call (.ref 29) [.bytes (byteArr os) tb]) Q E s :=
  slot_use1 B F X N T hk hd' hu (by rw [byteArr_size]; exact hz) fun t h' tk' F' N' => by
    rw [slot_law' hr, hks]; exact ret t h' tk' F' N'
theorem oct_len {o : List Int} {a : Int} (h : o.length = (rangeKs 0 (a.fmod 13 - 0).toNat).length) : o.length ≤ 12 := by
  have h1 := fmod_in (a := a) (n := 13) (by decide)
  have h2 := fmod_lt (a := a) (n := 13) (by decide)
  rw [h, rangeKs_length]; omega
theorem told_sub (ns : List Int) : ∀ x ∈ toldN ns, x ∈ ns := by
  intro x hx
  unfold toldN at hx
  split at hx
  · exact List.mem_of_mem_drop (List.mem_of_mem_take hx)
  · exact hx
theorem told_in {ns : List Int} (h : ∀ n ∈ ns, 0 ≤ n ∧ n < 256) : ∀ n ∈ toldN ns, 0 ≤ n ∧ n < 256 := fun n hn => h n (told_sub ns n hn)
theorem told_len {ns : List Int} {k : Nat} (h : ns.length ≤ k) : (toldN ns).length ≤ k := by
  unfold toldN
  split
  · rw [List.length_take]
    unfold behindN
    rw [List.length_drop]
    omega
  · exact h
theorem told_other {p o : List Int} (h0 : 0 < (p.length : Int)) (h1 : (p.any fun x => x == 123) = false) (h2 : (p.any fun x => x == 125) = false) : toldN ([97, 125, 98] ++ [123] ++ p ++ [125] ++ o) = p := by
  have e0 : ([97, 125, 98] ++ [123] ++ p ++ [125] ++ o : List Int) = [97, 125, 98] ++ (123 :: (p ++ 125 :: o)) := by simp
  have i0 : (([97, 125, 98] ++ [123] ++ p ++ [125] ++ o : List Int)).idxOf 123 = 3 := by
    rw [e0, List.idxOf_append, if_neg (by decide), List.idxOf_cons_self]; rfl
  have b0 : behindN ([97, 125, 98] ++ [123] ++ p ++ [125] ++ o) = p ++ 125 :: o := by
    unfold behindN
    rw [i0, e0]
    rfl
  have n2 := none_in h2
  have i1 : (p ++ 125 :: o).idxOf 125 = p.length := by
    rw [List.idxOf_append, if_neg n2, List.idxOf_cons_self]; omega
  unfold toldN
  rw [b0, i1, if_pos]
  · exact List.take_left
  · refine ⟨by rw [e0]; simp, by simp, ?_⟩
    cases p with
    | nil => simp at h0
    | cons x r =>
      intro hx
      exact n2 (hx ▸ .head _)
theorem other_in {p o : List Int} (hp : ∀ n ∈ p, 0 ≤ n ∧ n < 256) (ho : ∀ n ∈ o, 0 ≤ n ∧ n < 256) : ∀ n ∈ ([97, 125, 98] ++ [123] ++ p ++ [125] ++ o : List Int), 0 ≤ n ∧ n < 256 := by
  have k1 : ∀ n ∈ ([97, 125, 98] : List Int), 0 ≤ n ∧ n < 256 := by decide
  have k2 : ∀ n ∈ ([123] : List Int), 0 ≤ n ∧ n < 256 := by decide
  have k3 : ∀ n ∈ ([125] : List Int), 0 ≤ n ∧ n < 256 := by decide
  intro n hn
  rcases List.mem_append.mp hn with h | h
  · rcases List.mem_append.mp h with h | h
    · rcases List.mem_append.mp h with h | h
      · rcases List.mem_append.mp h with h | h
        · exact k1 n h
        · exact k2 n h
      · exact hp n h
    · exact k3 n h
  · exact ho n h
theorem lit3 (t0 t1 t2 : Tok) : IntsAre [.int 97 t0, .int 125 t1, .int 98 t2] [97, 125, 98] := .cons _ _ (.cons _ _ (.cons _ _ .nil))
theorem lit1a (t0 : Tok) : IntsAre [.int 123 t0] [123] := .cons _ _ .nil
theorem lit1b (t0 : Tok) : IntsAre [.int 125 t0] [125] := .cons _ _ .nil
theorem star_sub (v s : PySem.Expr) (p : Pos) (r : List PySem.Expr) (env : Env) : starEach (PySem.Expr.Subscript v s p :: r) env = (false, eval (PySem.Expr.Subscript v s p) env) :: starEach r env := rfl
theorem star_no (pos : Pos) (env : Env) : (backTo pos (starEach [] env)).any (·.1) = false := rfl
local macro_rules | `(tactic| walk_at $s:str) => `(tactic| k_extra $s)
local macro_rules | `(tactic| walk_at "call ref") => `(tactic| (
  k_here
  with_reducible show wpAny _ _ (call (Value.ref 50) [Value.ref _]) _ _ _
  k_dflt (refine' told_use ?k1 ?k2 ?k3 ?k4 ?k5 ?k6 ?k7 ?k8 ?k9 ?k10 ?k11 ?_ ?_; (case k1 => k_asm); (case k2 => k_asm); (case k3 => k_asm); (case k4 => k_asm); (case k5 => k_asm); (case k6 => first | exact rfl | assumption); (case k7 => ktr_room); (case k8 => ktr_units); (case k9 => k_mem); (case k10 => assumption); (case k11 => exact oct_len (by assumption)))
  intro kTold h9 tk9 F9 N9
  have kLow := oct_len (by assumption)
  try dsimp only
  try k_fold
  rotate_left 1
  intro kD9 kWs9 h9 tk9 F9 N9 kLt9 kI9
  k_lt kLt9
  have kLow0 := oct_len (by assumption)
  have kLow := told_len kLow0
  have kIn9 := told_in (by assumption)
  try dsimp only
  try k_fold
  rotate_right 1))
local macro_rules | `(tactic| walk_at "call ref") => `(tactic| (
  k_here
  with_reducible show wpAny _ _ (call (Value.ref 43) [Value.ref _]) _ _ _
  k_dflt (refine' rest_use ?m1 ?m2 ?m3 ?m4 ?m5 ?m6 ?m7 ?m8 ?m9 ?m10 ?m11 ?m12 ?_; (case m1 => k_asm); (case m2 => k_asm); (case m3 => k_asm); (case m4 => k_asm); (case m5 => k_asm); (case m6 => first | exact rfl | assumption); (case m7 => ktr_room); (case m8 => ktr_units); (case m9 => k_mem); (case m10 => assumption); (case m11 => assumption); (case m12 => assumption))
  intro t8 h8 tk8 F8 N8
  try dsimp only
  try k_fold))
local macro_rules | `(tactic| walk_at "binaryOp Add ref ref") => `(tactic| (
  k_here
  with_reducible show wpAny _ _ (binaryOp _ (Value.ref _) (Value.ref _)) _ _ _
  k_dflt (refine' kmk_add_ints ?F ?N ?a ?b ?i ?j ?_ ?z; (case F => k_asm); (case N => k_asm); (case a => exact News.isList (by k_asm) (by k_mem)); (case b => exact News.isList (by k_asm) (by k_mem)); (case i => first | assumption | exact lit3 _ _ _ | exact lit1a _ | exact lit1b _); (case j => first | assumption | exact lit3 _ _ _ | exact lit1a _ | exact lit1b _); (case z => (simp only [List.length_append, List.length_cons, List.length_nil, PySem.sizeLine_eq]; omega)))
  intro D' ws' h' F' N' l1 hI'
  try k_lt l1
  try dsimp only))
local macro_rules | `(tactic| walk_at "call type:bytes") => `(tactic| (
  k_here
  with_reducible show wpAny _ _ (call (Value.type "bytes") [Value.ref _]) _ _ _
  k_dflt (refine' bytes_L ?m1 ?m2 ?m3 ?m4 ?m5 ?m6 ?m7 ?_; (case m1 => k_asm); (case m2 => k_asm); (case m3 => k_mem); (case m4 => assumption); (case m5 => first | assumption | exact other_in (by assumption) (by assumption)); (case m6 => first | omega | (simp only [List.length_append, List.length_cons, List.length_nil]; omega)); (case m7 => exact rfl))
  intro h8 t8 tk8 F8 N8
  try dsimp only
  try k_fold))
local macro_rules | `(tactic| walk_at "call ref") => `(tactic| (
  k_here
  first
    | (with_reducible show wpAny _ _ (call (Value.ref 29) [Value.bytes (byteArr _) _, Value.int _ _]) _ _ _
       k_dflt (refine' slot_call ?m1 ?m2 ?m3 ?m4 ?m5 ?m6 ?m7 ?m8 ?m9 ?m10 ?m11 ?m12 ?_; (case m10 => omega); (case m1 => k_asm); (case m2 => k_asm); (case m3 => k_asm); (case m4 => k_asm); (case m5 => k_asm); (case m6 => first | exact rfl | assumption); (case m7 => ktr_room); (case m8 => ktr_units); (case m9 => first | omega | (simp only [List.length_append, List.length_cons, List.length_nil]; omega)); (case m11 => first | assumption | exact other_in (by assumption) (by assumption)); (case m12 => first | assumption | exact told_other (by assumption) (by assumption) (by assumption) | exact rfl)))
    | (with_reducible show wpAny _ _ (call (Value.ref 29) [Value.bytes (byteArr _) _]) _ _ _
       k_dflt (refine' slot_call1 ?m1 ?m2 ?m3 ?m4 ?m5 ?m6 ?m7 ?m8 ?m9 ?m11 ?m12 ?_; (case m1 => k_asm); (case m2 => k_asm); (case m3 => k_asm); (case m4 => k_asm); (case m5 => k_asm); (case m6 => first | exact rfl | assumption); (case m7 => ktr_room); (case m8 => ktr_units); (case m9 => omega); (case m11 => assumption); (case m12 => first | assumption | exact rfl)))
  intro t8 h8 tk8 F8 N8
  try dsimp only
  try k_fold))
local macro_rules | `(tactic| walk_at "subscriptTail") => `(tactic| (
  k_here
  with_reducible show wpAny _ _ (subscriptTail _ _ (Value.ref _) (Value.int (Int.fmod _ _) _)) _ _ _
  rename News _ _ _ _ => lN'
  k_dflt (first
    | refine' menu_sub lN' (.head _) (menu8 _ _ _ _ _ _ _ _) menu8_in (fmod_in (by decide)) (fmod_lt (by decide)) (by decide) ?_
    | refine' menu_sub lN' (.head _) (menu4 _ _ _ _) menu4_in (fmod_in (by decide)) (fmod_lt (by decide)) (by decide) ?_)
  intro _ _ _ _
  try dsimp only))
set_option maxRecDepth 100000 in
set_option maxHeartbeats 2000000 in
theorem law_c : PySem.Challenge.rw_ez0329_01.Holds := by
  k_with_none
  k_with "state" => first
    | exact oct_0
    | exact oct_t (by assumption) (by assumption) (by assumption) (by assumption)
  k_with "pyIter ref" => k_state (fun pre o => o.length = pre.length ∧ ∀ v ∈ o, 0 ≤ v ∧ v < 256) "octets"
  k_with "callWith" => with_reducible refine callWith_method1 ?_ (star_sub _ _ _ _ _) (star_no _ _)
  refine hd ?_
  k_go0
  all_goals try k_fold
  k_steps
  all_goals w_report
end
end Mine
theorem PySem.Challenge.cw_ez0329_01_holds : PySem.Challenge.rw_ez0329_01.Holds :=
  Mine.law_c
