import PyProof.Rows.All
import Wide.All
import OpenK.AllK
import Wide.FinOn
import PySem.Challenge.RW_dn0050_05
set_option Elab.async false
namespace Mine
local macro_rules | `(tactic| walk_at "call builtin:len") => `(tactic| k_extra "mine call builtin:len")
local macro_rules | `(tactic| walk_at "subscriptTail Name Name ref int") => `(tactic| k_extra "mine subscriptTail Name Name ref int")
local macro_rules | `(tactic| walk_at "compareOp Lt") => `(tactic| k_extra "mine compareOp Lt")
local macro_rules | `(tactic| walk_at "compareOp Lt int") => `(tactic| k_extra "mine compareOp Lt int")
local macro_rules | `(tactic| walk_at "call ref") => `(tactic| k_extra "mine call ref")
local macro_rules | `(tactic| walk_at "call builtin:list.insert") => `(tactic| k_extra "mine call builtin:list.insert")
local macro_rules | `(tactic| walk_at "subscriptTail Name BinOp ref int") => `(tactic| k_extra "mine subscriptTail Name BinOp ref int")
local macro_rules | `(tactic| walk_at "binaryOp FloorDiv int int") => `(tactic| k_extra "mine binaryOp FloorDiv int int")
local macro_rules | `(tactic| walk_at "binaryOp Div int int") => `(tactic| k_extra "mine binaryOp Div int int")
local macro_rules | `(tactic| walk_at "call type:int") => `(tactic| k_extra "mine call type:int")
local macro_rules | `(tactic| walk_at "compareOp NotEq float int") => `(tactic| k_extra "mine compareOp NotEq float int")
section
open PySem PySem.W PyProof.Rows
set_option maxRecDepth 100000
set_option maxHeartbeats 8000000
open_top hd for PySem.Challenge.rw_dn0050_05
end
section
open PySem PySem.W PyProof.Rows PySem.Calls PySem.Spec

/-- a float that is a whole number -/
def FltIs (b : UInt64) (k : Int) : Prop := (∃ a m e, Float64.decode b = .fin a m e) ∧ Float64.val b = k * 2 ^ 1074

theorem pow_pos' : (0 : Int) < 2 ^ 1074 := Int.pow_pos (by decide)

theorem cmp_scale (p q K : Int) (hK : 0 < K) : compare (p * K) (q * K) = compare p q := by
  rcases Int.lt_trichotomy p q with h | h | h
  · rw [Int.compare_eq_lt.mpr h, Int.compare_eq_lt.mpr (Int.mul_lt_mul_of_pos_right h hK)]
  · subst h; simp
  · rw [Int.compare_eq_gt.mpr h, Int.compare_eq_gt.mpr (Int.mul_lt_mul_of_pos_right h hK)]

theorem FltIs.cmpInt {b : UInt64} {k : Int} (h : FltIs b k) (i : Int) : Float64.cmpInt b i = some (compare k i) := by
  obtain ⟨⟨a, m, e, hd⟩, hv⟩ := h
  rw [Float64.cmpInt_right hd, hv, cmp_scale _ _ _ pow_pos']

theorem FltIs.cmp {b b' : UInt64} {k k' : Int} (h : FltIs b k) (h' : FltIs b' k') : Float64.cmp b b' = some (compare k k') := by
  obtain ⟨⟨a, m, e, hd⟩, hv⟩ := h
  obtain ⟨⟨a', m', e', hd'⟩, hv'⟩ := h'
  rw [Float64.cmp_right hd hd', hv, hv', cmp_scale _ _ _ pow_pos']

theorem cmp_lt (k i : Int) : (some (compare k i) == some Ordering.lt) = decide (k < i) := by
  rcases Int.lt_trichotomy k i with h | h | h
  · rw [Int.compare_eq_lt.mpr h]; simp [h]
  · subst h; simp
  · rw [Int.compare_eq_gt.mpr h]; have : ¬ k < i := by omega
    simp [this]
theorem cmp_gt (k i : Int) : (some (compare k i) == some Ordering.gt) = decide (i < k) := by
  rcases Int.lt_trichotomy k i with h | h | h
  · rw [Int.compare_eq_lt.mpr h]; have : ¬ i < k := by omega
    simp [this]
  · subst h; simp
  · rw [Int.compare_eq_gt.mpr h]; simp [h]
theorem cmp_eq' (k i : Int) : (some (compare k i) == some Ordering.eq) = decide (k = i) := by
  rcases Int.lt_trichotomy k i with h | h | h
  · rw [Int.compare_eq_lt.mpr h]; have : ¬ k = i := by omega
    simp [this]
  · subst h; simp
  · rw [Int.compare_eq_gt.mpr h]; have : ¬ k = i := by omega
    simp [this]

theorem sgn_scale (a : Bool) (m : Nat) (e : Int) (he : -1074 ≤ e) (k : Int) (hv : Float64.sgn a (m * 2 ^ (e + 1074).toNat) = k * 2 ^ 1074) :
    if e ≥ 0 then Float64.sgn a m * 2 ^ e.toNat = k else Float64.sgn a m = k * 2 ^ (-e).toNat := by
  rw [Float64.sgn_mul] at hv
  have hp : ((2 ^ (e + 1074).toNat : Nat) : Int) = (2 : Int) ^ (e + 1074).toNat := by simp
  rw [hp] at hv
  split
  · rename_i h
    have e1 : (e + 1074).toNat = e.toNat + 1074 := by omega
    rw [e1, Int.pow_add, ← Int.mul_assoc] at hv
    exact Int.eq_of_mul_eq_mul_right (Int.ne_of_gt pow_pos') hv
  · rename_i h
    have e1 : 1074 = (-e).toNat + (e + 1074).toNat := by omega
    have e2 : (2 : Int) ^ 1074 = 2 ^ (-e).toNat * 2 ^ (e + 1074).toNat := by rw [← Int.pow_add, ← e1]
    rw [e2, ← Int.mul_assoc] at hv
    have hpos : (0 : Int) < 2 ^ (e + 1074).toNat := Int.pow_pos (by decide)
    exact Int.eq_of_mul_eq_mul_right (Int.ne_of_gt hpos) hv

theorem fdiv_exact (k : Int) (j : Nat) : (k * 2 ^ j).fdiv (2 ^ j) = k := by
  have hpos : (0 : Int) < 2 ^ j := Int.pow_pos (by decide)
  exact Int.mul_fdiv_cancel k (Int.ne_of_gt hpos)

/-- int(a) of such a float -/
theorem FltIs.trunc {b : UInt64} {k : Int} (h : FltIs b k) : ∃ a m e, Float64.decode b = .fin a m e ∧ Float64.truncOf a m e = k := by
  obtain ⟨⟨a, m, e, hd⟩, hv⟩ := h
  refine ⟨a, m, e, hd, ?_⟩
  rw [Float64.val_eq hd] at hv
  have he := Float64.decode_ge hd
  have hs := sgn_scale a m e he k hv
  have hneg := Float64.sgn_not a m
  unfold Float64.truncOf Float64.ceilOf Float64.floorOf
  split
  · rename_i ha
    subst ha
    rw [hneg]
    split
    · rename_i h1
      rw [if_pos h1] at hs
      rw [Int.neg_mul, hs]; omega
    · rename_i h1
      rw [if_neg h1] at hs
      rw [hs, ← Int.neg_mul, fdiv_exact]; omega
  · split
    · rename_i h1
      rw [if_pos h1] at hs
      exact hs
    · rename_i h1
      rw [if_neg h1] at hs
      rw [hs, fdiv_exact]

theorem V_exact (K : Nat) (h : K < 2 ^ 53) : ∃ t, Float64.V t = K * 2 ^ 1074 := by
  by_cases h0 : K = 0
  · exact ⟨0, by rw [Float64.V_zero, h0, Nat.zero_mul]⟩
  · -- K * 2 ^ j in [2^52, 2^53)
    have hl : K.log2 ≤ 52 := by
      have := (Nat.log2_lt h0).mpr h
      omega
    have h1 : 2 ^ K.log2 ≤ K := Nat.log2_self_le h0
    have h2 : K < 2 ^ (K.log2 + 1) := Nat.lt_log2_self
    have h3 : 2 ^ 52 ≤ K * 2 ^ (52 - K.log2) := by
      have : 2 ^ 52 = 2 ^ K.log2 * 2 ^ (52 - K.log2) := by rw [← Nat.pow_add]; congr 1; omega
      rw [this]
      exact Nat.mul_le_mul_right _ h1
    have h4 : K * 2 ^ (52 - K.log2) ≤ 2 ^ 53 := by
      have : 2 ^ 53 = 2 ^ (K.log2 + 1) * 2 ^ (52 - K.log2) := by rw [← Nat.pow_add]; congr 1; omega
      rw [this]
      exact Nat.mul_le_mul_right _ (Nat.le_of_lt h2)
    have hv := Float64.V_at (k := 1074 - (52 - K.log2)) (q := K * 2 ^ (52 - K.log2)) h4 (.inl h3)
    refine ⟨_, hv.trans ?_⟩
    rw [Nat.mul_assoc, ← Nat.pow_add]
    congr 2
    omega

theorem dist_zero {a b : Nat} (h : Float64.dist a b ≤ 0) : a = b := by unfold Float64.dist at h; omega

/-- an exact quotient -/
theorem quot_exact (neg : Bool) (K d : Nat) (hd : 0 < d) (hK : K < 2 ^ 53) : FltIs (Float64.ofFrac neg (d * K) d) (Float64.sgn neg K) := by
  have hW : d * K * 2 ^ 1074 * 1 = K * 2 ^ 1074 * d := by rw [Nat.mul_one]; generalize 2 ^ 1074 = P; ac_rfl
  obtain ⟨t, e, hle, hinf, hr⟩ := Float64.ofFrac_right (neg := neg) hd hW (by decide)
  have hlt : t < Float64.infMag := by
    rcases Nat.lt_or_eq_of_le hle with h | h
    · exact h
    · exfalso
      have h1 := hinf.mp h
      have e1 : 2 * (K * 2 ^ 1074) = (2 * K) * 2 ^ 1074 := by generalize 2 ^ 1074 = P; ac_rfl
      have e2 : 1 * ((2 ^ 54 - 1) * 2 ^ 2045) = ((2 ^ 54 - 1) * 2 ^ 971) * 2 ^ 1074 := by rw [Nat.one_mul, Nat.mul_assoc, ← Nat.pow_add]
      rw [e1, e2] at h1
      have h2 := Nat.le_of_mul_le_mul_right h1 (Nat.two_pow_pos 1074)
      have h3 : (2 ^ 54 - 1) * 2 ^ 1 ≤ (2 ^ 54 - 1) * 2 ^ 971 := Nat.mul_le_mul_left _ (Nat.pow_le_pow_right (by decide) (by decide))
      generalize (2 ^ 54 - 1) * 2 ^ 971 = Z at *
      omega
  obtain ⟨t', ht'⟩ := V_exact K hK
  have h0 := (hr hlt t').1
  rw [ht'] at h0
  have hV : K * 2 ^ 1074 = Float64.V t := by
    have : Float64.dist (K * 2 ^ 1074) (1 * (K * 2 ^ 1074)) = 0 := by rw [Nat.one_mul]; unfold Float64.dist; omega
    rw [this, Nat.one_mul] at h0
    exact dist_zero h0
  rw [e]
  obtain ⟨m, ex, hdec, _⟩ := Float64.decode_pack neg hlt
  refine ⟨⟨neg, m, ex, hdec⟩, ?_⟩
  rw [Float64.val_pack neg hlt, ← hV, Float64.sgn_mul]
  simp

/-- int / int, exact -/
theorem div_exact {prog : Program} {w : World} {A : Around} {E : Value → Shared → Prop} {s : Shared} {t u : Tok} {Q : Value → Shared → Prop} {a b k : Int}
    (hA : A.handled = none) (hb : 0 < b) (he : a = b * k) (hk : k.natAbs < 2 ^ 53)
    (h : ∀ f, FltIs f k → Q (.float f s.toks) { s with toks := s.toks + 1 }) : wpAny (model prog w) A (binaryOp .Div (.int a t) (.int b u)) Q E s := by
  have hd : 0 < b.natAbs := by omega
  have hn : a.natAbs = b.natAbs * k.natAbs := by rw [he, Int.natAbs_mul]
  have hq := quot_exact (decide (a < 0) != decide (b < 0)) k.natAbs b.natAbs hd hk
  rw [← hn] at hq
  have hs : Float64.sgn (decide (a < 0) != decide (b < 0)) k.natAbs = k := by
    have hb' : decide (b < 0) = false := by simp; omega
    rw [hb']
    by_cases h0 : a < 0
    · have hk0 : k < 0 := by
        rcases Int.lt_or_le k 0 with h1 | h1
        · exact h1
        · have := Int.mul_nonneg (Int.le_of_lt hb) h1
          omega
      simp [h0, Float64.sgn]; omega
    · have hk0 : 0 ≤ k := by
        rcases Int.lt_or_le k 0 with h1 | h1
        · have := Int.mul_neg_of_pos_of_neg hb h1
          omega
        · exact h1
      simp [h0, Float64.sgn]; omega
  rw [hs] at hq
  refine Flt.div_ii hA (fun h0 => absurd h0 (by omega)) (fun _ hi => ?_) fun _ _ => h _ hq
  exfalso
  obtain ⟨⟨_, _, _, hdec⟩, _⟩ := hq
  unfold Float64.isInf at hi
  rw [hdec] at hi
  cases hi

/-- an int, or a float that is whole -/
inductive NumIs : Value → Int → Prop
  | int (k : Int) (t : Tok) : NumIs (.int k t) k
  | flt {b : UInt64} {k : Int} (t : Tok) : FltIs b k → NumIs (.float b t) k
inductive NumsAre : List Value → List Int → Prop
  | nil : NumsAre [] []
  | cons {v : Value} {k : Int} {vs : List Value} {ks : List Int} : NumIs v k → NumsAre vs ks → NumsAre (v :: vs) (k :: ks)
structure Small (ks : List Int) : Prop where
  lt : ks.length < 100
theorem NumsAre.length {vs : List Value} {ks : List Int} (h : NumsAre vs ks) : vs.length = ks.length := by
  induction h with
  | nil => rfl
  | cons _ _ ih => simp [ih]
theorem NumsAre.get {vs : List Value} {ks : List Int} (h : NumsAre vs ks) : ∀ (i : Nat) (hi : i < ks.length), ∃ v, vs[i]? = some v ∧ NumIs v ks[i] := by
  induction h with
  | nil => intro i hi; simp at hi
  | @cons v k vs ks hv _ ih =>
    intro i hi
    cases i with
    | zero => exact ⟨v, rfl, hv⟩
    | succ i => exact ih i (by simpa using hi)
theorem NumsAre.of_ints {vs : List Value} {ks : List Int} (h : IntsAre vs ks) : NumsAre vs ks := by
  induction h with
  | nil => exact .nil
  | cons n t _ ih => exact .cons (.int n t) ih
theorem NumsAre.append {vs us : List Value} {ks js : List Int} (h : NumsAre vs ks) (h' : NumsAre us js) : NumsAre (vs ++ us) (ks ++ js) := by
  induction h with
  | nil => exact h'
  | cons hv _ ih => exact .cons hv ih

section
variable {prog : Program} {w : World} {A : Around} {E : Value → Shared → Prop} {s : Shared} {Q : Value → Shared → Prop}
theorem lt_num_int {v : Value} {k x : Int} {u : Tok} (hv : NumIs v k) (h : Q (.bool (decide (k < x))) s) : wpAny (model prog w) A (compareOp .Lt v (.int x u)) Q E s := by
  cases hv with
  | int k t => exact PyProof.Rows.lt_int h
  | flt t hf => exact lt_fi (by rw [hf.cmpInt, cmp_lt]; exact h)
theorem lt_int_num {v : Value} {k x : Int} {u : Tok} (hv : NumIs v k) (h : Q (.bool (decide (x < k))) s) : wpAny (model prog w) A (compareOp .Lt (.int x u) v) Q E s := by
  cases hv with
  | int k t => exact PyProof.Rows.lt_int h
  | flt t hf => exact lt_if (by rw [hf.cmpInt, cmp_gt]; exact h)
theorem len_num {h₀ : Heap} {L l : Addr} {news : List (Addr × Obj)} {vs : List Value} {ks : List Int} {c : Nat} (N : News h₀ L s.heap news) (hm : (l, listOf vs.toArray c) ∈ news) (hn : NumsAre vs ks) (hk : Small ks)
    (h : Q (.int (ks.length : Int) (s.toks + 1)) { s with toks := s.toks + 1 + 1 }) : wpAny (model prog w) A (call (.builtin "len") [.ref l]) Q E s :=
  kst_len N hm hn.length (by have := hk.lt; omega) h
theorem item_num {h₀ : Heap} {L l : Addr} {news : List (Addr × Obj)} {value slice : PySem.Expr} {vs : List Value} {ks : List Int} {c : Nat} {k : Int} {u : Tok} (N : News h₀ L s.heap news) (hm : (l, listOf vs.toArray c) ∈ news) (hn : NumsAre vs ks)
    (h0 : 0 ≤ k) (h1 : k < (ks.length : Int)) (hhi : Small ks) (h : ∀ v, NumIs v (ks.getD k.toNat 0) → Q v s)
    (hs : subscripted slice false (.ref l) (.int k u) = operate [.ref l, .int k u] (getItem (.ref l) (.int k u)) := by with_unfolding_all rfl) :
    wpAny (model prog w) A (subscriptTail value slice (.ref l) (.int k u)) Q E s := by
  have hl : s.heap.IsList l vs.toArray := ⟨_, (N _ hm).1, rfl, c, rfl⟩
  have hi : k.toNat < ks.length := by omega
  have h9 := hhi.lt
  obtain ⟨v, hx, hv⟩ := hn.get k.toNat hi
  have e : ks.getD k.toNat 0 = ks[k.toNat] := by simp [List.getD, hi]
  rw [← e] at hv
  exact tail_any hl.typeIs slot_list_getitem.lookup (wpAny_getItem_list hl h0 (by omega) (by simpa using hx) (h v hv)) hs
end
end
section
open PySem PySem.W PyProof.Rows PySem.Calls PySem.Spec
/-- what a call of the def at f does, from any frame of the text's: the ledger ahead of it is news -/
def Says (w : World) (f : Addr) (vs : List Value) (kws : List (Str × Value)) (d u : Nat) (news : List (Addr × Obj)) (Out : Value → List (Addr × Obj) → Prop) : Prop :=
  ∀ (mean : ExcName → Option Value) (mg mb : Str → Option Value) (dp un : Nat) (gd : Option (List Code)) (cn : Str) (cs : Scope) (a : Addr) (ccd : Value) (cl : List (Str × Addr)) (outer : List Env) (A₀ : Around) (base h₀ : Heap) (L : Addr) (m : Str → Option Value) (s : Shared) (Q E : Value → Shared → Prop),
    Below A₀ base outer h₀ → Fr h₀ L s.heap m → (Mine.hd.heap_39 w.params).In h₀ → News h₀ L s.heap news → Top Mine.hd.view_39 (looseW Mine.hd.view_39 [Str.ofString "quantiles", Str.ofString "insort_right", Str.ofString "bisect_right", Str.ofString "bisect_left"]) mean mg mb h₀ → cs.kind = .function →
    dp + d < recursionLimit → un + u < cLine →
    (∀ r news' h' tk', Fr h₀ L h' m → News h₀ L h' news' → Out r news' → Q r { s with heap := h', toks := tk' }) →
    wpAny (model PySem.Challenge.rw_dn0050_05.row.prog w) (ktrTop dp un gd cn cs L a ccd cl outer) (call (.ref f) vs kws) Q E s

def Rises (ks : List Int) : Prop := ∀ i j : Nat, i ≤ j → j < ks.length → ks.getD i 0 ≤ ks.getD j 0
def LeftAt (ks : List Int) (x : Int) (p : Nat) : Prop := p ≤ ks.length ∧ (∀ i, i < p → ks.getD i 0 < x) ∧ ∀ i, p ≤ i → i < ks.length → x ≤ ks.getD i 0
def RightAt (ks : List Int) (x : Int) (p : Nat) : Prop := p ≤ ks.length ∧ (∀ i, i < p → ks.getD i 0 ≤ x) ∧ ∀ i, p ≤ i → i < ks.length → x < ks.getD i 0
end
section
open PySem PySem.W PyProof.Rows PySem.Calls PySem.Spec
set_option maxRecDepth 100000
set_option maxHeartbeats 8000000
theorem fdiv2 (a : Int) : a.fdiv 2 = a / 2 := Int.fdiv_eq_ediv_of_nonneg a (by decide)
structure BisL (ks : List Int) (x lo hi : Int) : Prop where
  a : 0 ≤ lo
  b : lo ≤ hi
  c : hi ≤ ks.length
  d : ∀ i : Nat, (i : Int) < lo → ks.getD i 0 < x
  e : ∀ i : Nat, hi ≤ i → i < ks.length → x ≤ ks.getD i 0
theorem BisL.start {ks : List Int} {x : Int} : BisL ks x 0 ks.length := ⟨by omega, by omega, by omega, fun i h => by omega, fun i h h' => by omega⟩
theorem BisL.mid0 {ks : List Int} {x lo hi : Int} (h : BisL ks x lo hi) (h' : lo < hi) : 0 ≤ (lo + hi).fdiv 2 := by rw [fdiv2]; have := h.a; omega
theorem BisL.mid1 {ks : List Int} {x lo hi : Int} (h : BisL ks x lo hi) (h' : lo < hi) : (lo + hi).fdiv 2 < ks.length := by rw [fdiv2]; have := h.c; omega
theorem BisL.up {ks : List Int} {x lo hi : Int} (h : BisL ks x lo hi) (h' : lo < hi) (hs : Rises ks) (hc : ks.getD ((lo + hi).fdiv 2).toNat 0 < x) : BisL ks x ((lo + hi).fdiv 2 + 1) hi := by
  have h0 := h.mid0 h'
  have h1 := h.mid1 h'
  have ha := h.a; have hb := h.b; have hcc := h.c
  have e : (lo + hi).fdiv 2 = (lo + hi) / 2 := fdiv2 _
  generalize (lo + hi).fdiv 2 = mid at *
  refine ⟨by omega, by omega, hcc, fun i hi' => ?_, h.e⟩
  exact Int.lt_of_le_of_lt (hs i mid.toNat (by omega) (by omega)) hc
theorem BisL.dn {ks : List Int} {x lo hi : Int} (h : BisL ks x lo hi) (h' : lo < hi) (hs : Rises ks) (hc : ¬ ks.getD ((lo + hi).fdiv 2).toNat 0 < x) : BisL ks x lo ((lo + hi).fdiv 2) := by
  have h0 := h.mid0 h'
  have h1 := h.mid1 h'
  have ha := h.a; have hb := h.b; have hcc := h.c
  have e : (lo + hi).fdiv 2 = (lo + hi) / 2 := fdiv2 _
  generalize (lo + hi).fdiv 2 = mid at *
  refine ⟨ha, by omega, by omega, h.d, fun i hi' hl => ?_⟩
  exact Int.le_trans (Int.not_lt.mp hc) (hs mid.toNat i (by omega) hl)
theorem BisL.less {lo hi : Int} (h' : lo < hi) : (hi - ((lo + hi).fdiv 2 + 1)).toNat < (hi - lo).toNat ∧ ((lo + hi).fdiv 2 - lo).toNat < (hi - lo).toNat := by rw [fdiv2]; omega
theorem BisL.fin {ks : List Int} {x lo hi : Int} (h : BisL ks x lo hi) (h' : ¬ lo < hi) : ∃ p : Nat, lo = p ∧ LeftAt ks x p := by
  have ha := h.a; have hb := h.b; have hcc := h.c
  exact ⟨lo.toNat, by omega, by omega, fun i hi' => h.d i (by omega), fun i hi' hl => h.e i (by omega) hl⟩
structure BisR (ks : List Int) (x lo hi : Int) : Prop where
  a : 0 ≤ lo
  b : lo ≤ hi
  c : hi ≤ ks.length
  d : ∀ i : Nat, (i : Int) < lo → ks.getD i 0 ≤ x
  e : ∀ i : Nat, hi ≤ i → i < ks.length → x < ks.getD i 0
theorem BisR.start {ks : List Int} {x : Int} : BisR ks x 0 ks.length := ⟨by omega, by omega, by omega, fun i h => by omega, fun i h h' => by omega⟩
theorem BisR.mid0 {ks : List Int} {x lo hi : Int} (h : BisR ks x lo hi) (h' : lo < hi) : 0 ≤ (lo + hi).fdiv 2 := by rw [fdiv2]; have := h.a; omega
theorem BisR.mid1 {ks : List Int} {x lo hi : Int} (h : BisR ks x lo hi) (h' : lo < hi) : (lo + hi).fdiv 2 < ks.length := by rw [fdiv2]; have := h.c; omega
theorem BisR.up {ks : List Int} {x lo hi : Int} (h : BisR ks x lo hi) (h' : lo < hi) (hs : Rises ks) (hc : ¬ x < ks.getD ((lo + hi).fdiv 2).toNat 0) : BisR ks x ((lo + hi).fdiv 2 + 1) hi := by
  have h0 := h.mid0 h'
  have h1 := h.mid1 h'
  have ha := h.a; have hb := h.b; have hcc := h.c
  have e : (lo + hi).fdiv 2 = (lo + hi) / 2 := fdiv2 _
  generalize (lo + hi).fdiv 2 = mid at *
  refine ⟨by omega, by omega, hcc, fun i hi' => ?_, h.e⟩
  exact Int.le_trans (hs i mid.toNat (by omega) (by omega)) (Int.not_lt.mp hc)
theorem BisR.dn {ks : List Int} {x lo hi : Int} (h : BisR ks x lo hi) (h' : lo < hi) (hs : Rises ks) (hc : x < ks.getD ((lo + hi).fdiv 2).toNat 0) : BisR ks x lo ((lo + hi).fdiv 2) := by
  have h0 := h.mid0 h'
  have h1 := h.mid1 h'
  have ha := h.a; have hb := h.b; have hcc := h.c
  have e : (lo + hi).fdiv 2 = (lo + hi) / 2 := fdiv2 _
  generalize (lo + hi).fdiv 2 = mid at *
  refine ⟨ha, by omega, by omega, h.d, fun i hi' hl => ?_⟩
  exact Int.lt_of_lt_of_le hc (hs mid.toNat i (by omega) hl)
theorem BisR.less {lo hi : Int} (h' : lo < hi) : (hi - ((lo + hi).fdiv 2 + 1)).toNat < (hi - lo).toNat ∧ ((lo + hi).fdiv 2 - lo).toNat < (hi - lo).toNat := by rw [fdiv2]; omega
theorem BisR.fin {ks : List Int} {x lo hi : Int} (h : BisR ks x lo hi) (h' : ¬ lo < hi) : ∃ p : Nat, lo = p ∧ RightAt ks x p := by
  have ha := h.a; have hb := h.b; have hcc := h.c
  exact ⟨lo.toNat, by omega, by omega, fun i hi' => h.d i (by omega), fun i hi' hl => h.e i (by omega) hl⟩
theorem bisL (w : World) {news : List (Addr × Obj)} {l : Addr} {vs : List Value} {ks : List Int} {c : Nat} {x : Int} {tk : Tok}
    (hl : (l, listOf vs.toArray c) ∈ news) (hn : NumsAre vs ks) (hfit : Small ks) (hs : Rises ks) :
    Says w 62 [.ref l, .int x tk] [] 1 8 news (fun r news' => news = news' ∧ ∃ p t, r = .int (p : Nat) t ∧ LeftAt ks x p) := by
  unfold Says
  w_on
  w_strict (
    k_fill
    intro mean mg mb dp un gd cn cs a ccd cl outer A₀ base h₀ L m s Q E B F X N T hk hd hu hret
    refine wpAny_call ?_
    k_dflt (refine' code_def ?k1 ?k2 ?k3 ?k4 ?k5 ?kA ?kF ?kK ?k6 ?k7 ?k8 ?k9 ?kB ?_ ?zzc2 ?zzc3 ?zzc4 ?zzc5; (case kA => exact rfl); (case kF => exact rfl); (case kK => assumption); (case k1 => k_asm); (case k2 => k_asm); (case k3 => k_asm); (case k4 => k_asm); (case k5 => k_asm); (case k6 => k_is); (case k7 => k_is); (case k8 => ktr_room); (case k9 => first | exact BindsTo.of_eq rfl | (refine' kp_binds ?kx ?ke; (case kx => k_in); (case ke => exact fun _ => rfl)) | exact binds_K (by k_in) rfl (by k_is) rfl rfl rfl); (case zzc5 => decide); (case kB => exact locs rfl); (case zzc2 => exact rfl); (case zzc3 => exact rfl); (case zzc4 => exact rfl); k_whole; intro g' L' h' FG' F' N' B' X' T'; (try dsimp only); (try k_lift B'); (try k_fold))
    k_with_none
    (k_with "mine call builtin:len" => (k_here; (with_reducible show wpAny _ _ (call (Value.builtin "len") [Value.ref _]) _ _ _); k_dflt (refine' len_num ?k1 ?k2 ?k3 ?k4 ?_; (case k1 => k_asm); (case k2 => first | kst_mem | k_memK); (case k3 => assumption); (case k4 => assumption)); k_whole))
    (k_with "mine subscriptTail Name Name ref int" => (k_here; (with_reducible show wpAny _ _ (subscriptTail _ _ (Value.ref _) (Value.int _ _)) _ _ _); k_dflt (refine' item_num ?k1 ?k2 ?k3 ?k4 ?k5 ?k6 ?_ ?k7; (case k1 => k_asm); (case k2 => first | kst_mem | k_memK); (case k3 => assumption); (case k4 => first | exact BisL.mid0 (by assumption) (by assumption) | exact BisR.mid0 (by assumption) (by assumption)); (case k5 => first | exact BisL.mid1 (by assumption) (by assumption) | exact BisR.mid1 (by assumption) (by assumption)); (case k6 => assumption); (case k7 => with_unfolding_all rfl); k_whole); intro v' hv'))
    (k_with "mine compareOp Lt" => (with_reducible refine lt_num_int (by assumption) ?_))
    (k_with "mine compareOp Lt" => (with_reducible refine lt_int_num (by assumption) ?_))
    (k_with "mine compareOp Lt int" => (with_reducible refine lt_int_num (by assumption) ?_))
    (k_with "exec While Compare cons nil" => (
      k_here
      (rename Fr _ _ _ _ => lF'); (rename News _ _ _ _ => lN')
      (with_unfolding_all refine' ksw_while (σ := Int × Int × Tok × Tok) (fun _ => news) (fun c => [(Str.ofString "lo", .int c.1 c.2.2.1), (Str.ofString "hi", .int c.2.1 c.2.2.2)]) (fun _ => True) [Str.ofString "mid"] (fun c => BisL ks x c.1 c.2.1) (fun c => (c.2.1 - c.1).toNat) (0, ks.length, _, _) lF' lN' True.intro ?kk ?kp ?_)
      (case kk => kst_all)
      (case kp => exact BisL.start)
      clear lF' lN'
      rintro ⟨lo, hi, t1, t2⟩ u h tk _ hP F N
      dsimp only [kstB] at F hP
      k_fold))
    (k_with "state" => (first | exact BisL.up (by assumption) (by assumption) (by assumption) (by assumption) | exact BisL.dn (by assumption) (by assumption) (by assumption) (by assumption)))
    (k_with "measure" => (first | exact (BisL.less (by assumption)).1 | exact (BisL.less (by assumption)).2))
    k_steps
    all_goals (
      obtain ⟨p, rfl, hp⟩ := BisL.fin (by assumption) (by assumption)
      exact hret _ news _ _ (by k_asm) (by k_asm) ⟨rfl, p, _, rfl, hp⟩)
    k_with_none)
theorem bisR (w : World) {news : List (Addr × Obj)} {l : Addr} {vs : List Value} {ks : List Int} {c : Nat} {x : Int} {tk : Tok}
    (hl : (l, listOf vs.toArray c) ∈ news) (hn : NumsAre vs ks) (hfit : Small ks) (hs : Rises ks) :
    Says w 53 [.ref l, .int x tk] [] 1 8 news (fun r news' => news = news' ∧ ∃ p t, r = .int (p : Nat) t ∧ RightAt ks x p) := by
  unfold Says
  w_on
  w_strict (
    k_fill
    intro mean mg mb dp un gd cn cs a ccd cl outer A₀ base h₀ L m s Q E B F X N T hk hd hu hret
    refine wpAny_call ?_
    k_dflt (refine' code_def ?k1 ?k2 ?k3 ?k4 ?k5 ?kA ?kF ?kK ?k6 ?k7 ?k8 ?k9 ?kB ?_ ?zzc2 ?zzc3 ?zzc4 ?zzc5; (case kA => exact rfl); (case kF => exact rfl); (case kK => assumption); (case k1 => k_asm); (case k2 => k_asm); (case k3 => k_asm); (case k4 => k_asm); (case k5 => k_asm); (case k6 => k_is); (case k7 => k_is); (case k8 => ktr_room); (case k9 => first | exact BindsTo.of_eq rfl | (refine' kp_binds ?kx ?ke; (case kx => k_in); (case ke => exact fun _ => rfl)) | exact binds_K (by k_in) rfl (by k_is) rfl rfl rfl); (case zzc5 => decide); (case kB => exact locs rfl); (case zzc2 => exact rfl); (case zzc3 => exact rfl); (case zzc4 => exact rfl); k_whole; intro g' L' h' FG' F' N' B' X' T'; (try dsimp only); (try k_lift B'); (try k_fold))
    k_with_none
    (k_with "mine call builtin:len" => (k_here; (with_reducible show wpAny _ _ (call (Value.builtin "len") [Value.ref _]) _ _ _); k_dflt (refine' len_num ?k1 ?k2 ?k3 ?k4 ?_; (case k1 => k_asm); (case k2 => first | kst_mem | k_memK); (case k3 => assumption); (case k4 => assumption)); k_whole))
    (k_with "mine subscriptTail Name Name ref int" => (k_here; (with_reducible show wpAny _ _ (subscriptTail _ _ (Value.ref _) (Value.int _ _)) _ _ _); k_dflt (refine' item_num ?k1 ?k2 ?k3 ?k4 ?k5 ?k6 ?_ ?k7; (case k1 => k_asm); (case k2 => first | kst_mem | k_memK); (case k3 => assumption); (case k4 => first | exact BisL.mid0 (by assumption) (by assumption) | exact BisR.mid0 (by assumption) (by assumption)); (case k5 => first | exact BisL.mid1 (by assumption) (by assumption) | exact BisR.mid1 (by assumption) (by assumption)); (case k6 => assumption); (case k7 => with_unfolding_all rfl); k_whole); intro v' hv'))
    (k_with "mine compareOp Lt" => (with_reducible refine lt_num_int (by assumption) ?_))
    (k_with "mine compareOp Lt" => (with_reducible refine lt_int_num (by assumption) ?_))
    (k_with "mine compareOp Lt int" => (with_reducible refine lt_int_num (by assumption) ?_))
    (k_with "exec While Compare cons nil" => (
      k_here
      (rename Fr _ _ _ _ => lF'); (rename News _ _ _ _ => lN')
      (with_unfolding_all refine' ksw_while (σ := Int × Int × Tok × Tok) (fun _ => news) (fun c => [(Str.ofString "lo", .int c.1 c.2.2.1), (Str.ofString "hi", .int c.2.1 c.2.2.2)]) (fun _ => True) [Str.ofString "mid"] (fun c => BisR ks x c.1 c.2.1) (fun c => (c.2.1 - c.1).toNat) (0, ks.length, _, _) lF' lN' True.intro ?kk ?kp ?_)
      (case kk => kst_all)
      (case kp => exact BisR.start)
      clear lF' lN'
      rintro ⟨lo, hi, t1, t2⟩ u h tk _ hP F N
      dsimp only [kstB] at F hP
      k_fold))
    (k_with "state" => (first | exact BisR.up (by assumption) (by assumption) (by assumption) (by assumption) | exact BisR.dn (by assumption) (by assumption) (by assumption) (by assumption)))
    (k_with "measure" => (first | exact (BisR.less (by assumption)).1 | exact (BisR.less (by assumption)).2))
    k_steps
    all_goals (
      obtain ⟨p, rfl, hp⟩ := BisR.fin (by assumption) (by assumption)
      exact hret _ news _ _ (by k_asm) (by k_asm) ⟨rfl, p, _, rfl, hp⟩)
    k_with_none)
theorem bisR4 (w : World) {news : List (Addr × Obj)} {l : Addr} {vs : List Value} {ks : List Int} {c : Nat} {x : Int} {tk t0 : Tok}
    (hl : (l, listOf vs.toArray c) ∈ news) (hn : NumsAre vs ks) (hfit : Small ks) (hs : Rises ks) :
    Says w 53 [.ref l, .int x tk, .int 0 t0, .none] [] 1 8 news (fun r news' => news = news' ∧ ∃ p t, r = .int (p : Nat) t ∧ RightAt ks x p) := by
  unfold Says
  w_on
  w_strict (
    k_fill
    intro mean mg mb dp un gd cn cs a ccd cl outer A₀ base h₀ L m s Q E B F X N T hk hd hu hret
    refine wpAny_call ?_
    k_dflt (refine' code_def ?k1 ?k2 ?k3 ?k4 ?k5 ?kA ?kF ?kK ?k6 ?k7 ?k8 ?k9 ?kB ?_ ?zzc2 ?zzc3 ?zzc4 ?zzc5; (case kA => exact rfl); (case kF => exact rfl); (case kK => assumption); (case k1 => k_asm); (case k2 => k_asm); (case k3 => k_asm); (case k4 => k_asm); (case k5 => k_asm); (case k6 => k_is); (case k7 => k_is); (case k8 => ktr_room); (case k9 => first | exact BindsTo.of_eq rfl | (refine' kp_binds ?kx ?ke; (case kx => k_in); (case ke => exact fun _ => rfl)) | exact binds_K (by k_in) rfl (by k_is) rfl rfl rfl); (case zzc5 => decide); (case kB => exact locs rfl); (case zzc2 => exact rfl); (case zzc3 => exact rfl); (case zzc4 => exact rfl); k_whole; intro g' L' h' FG' F' N' B' X' T'; (try dsimp only); (try k_lift B'); (try k_fold))
    k_with_none
    (k_with "mine call builtin:len" => (k_here; (with_reducible show wpAny _ _ (call (Value.builtin "len") [Value.ref _]) _ _ _); k_dflt (refine' len_num ?k1 ?k2 ?k3 ?k4 ?_; (case k1 => k_asm); (case k2 => first | kst_mem | k_memK); (case k3 => assumption); (case k4 => assumption)); k_whole))
    (k_with "mine subscriptTail Name Name ref int" => (k_here; (with_reducible show wpAny _ _ (subscriptTail _ _ (Value.ref _) (Value.int _ _)) _ _ _); k_dflt (refine' item_num ?k1 ?k2 ?k3 ?k4 ?k5 ?k6 ?_ ?k7; (case k1 => k_asm); (case k2 => first | kst_mem | k_memK); (case k3 => assumption); (case k4 => first | exact BisL.mid0 (by assumption) (by assumption) | exact BisR.mid0 (by assumption) (by assumption)); (case k5 => first | exact BisL.mid1 (by assumption) (by assumption) | exact BisR.mid1 (by assumption) (by assumption)); (case k6 => assumption); (case k7 => with_unfolding_all rfl); k_whole); intro v' hv'))
    (k_with "mine compareOp Lt" => (with_reducible refine lt_num_int (by assumption) ?_))
    (k_with "mine compareOp Lt" => (with_reducible refine lt_int_num (by assumption) ?_))
    (k_with "mine compareOp Lt int" => (with_reducible refine lt_int_num (by assumption) ?_))
    (k_with "exec While Compare cons nil" => (
      k_here
      (rename Fr _ _ _ _ => lF'); (rename News _ _ _ _ => lN')
      (with_unfolding_all refine' ksw_while (σ := Int × Int × Tok × Tok) (fun _ => news) (fun c => [(Str.ofString "lo", .int c.1 c.2.2.1), (Str.ofString "hi", .int c.2.1 c.2.2.2)]) (fun _ => True) [Str.ofString "mid"] (fun c => BisR ks x c.1 c.2.1) (fun c => (c.2.1 - c.1).toNat) (0, ks.length, _, _) lF' lN' True.intro ?kk ?kp ?_)
      (case kk => kst_all)
      (case kp => exact BisR.start)
      clear lF' lN'
      rintro ⟨lo, hi, t1, t2⟩ u h tk _ hP F N
      dsimp only [kstB] at F hP
      k_fold))
    (k_with "state" => (first | exact BisR.up (by assumption) (by assumption) (by assumption) (by assumption) | exact BisR.dn (by assumption) (by assumption) (by assumption) (by assumption)))
    (k_with "measure" => (first | exact (BisR.less (by assumption)).1 | exact (BisR.less (by assumption)).2))
    k_steps
    all_goals (
      obtain ⟨p, rfl, hp⟩ := BisR.fin (by assumption) (by assumption)
      exact hret _ news _ _ (by k_asm) (by k_asm) ⟨rfl, p, _, rfl, hp⟩)
    k_with_none)
end
section
open PySem PySem.W PyProof.Rows PySem.Calls PySem.Spec
set_option maxRecDepth 100000
set_option maxHeartbeats 8000000
theorem says_use {w : World} {f : Addr} {vs : List Value} {kws : List (Str × Value)} {d u : Nat} {news : List (Addr × Obj)} {Out : Value → List (Addr × Obj) → Prop} (C : Says w f vs kws d u news Out)
    {mean : ExcName → Option Value} {mg mb : Str → Option Value} {dp un : Nat} {gd : Option (List Code)} {cn : Str} {cs : Scope} {a : Addr} {ccd : Value} {cl : List (Str × Addr)} {outer : List Env} {A₀ : Around} {base h₀ : Heap} {L : Addr} {m : Str → Option Value} {s : Shared} {Q E : Value → Shared → Prop}
    (B : Below A₀ base outer h₀) (F : Fr h₀ L s.heap m) (X : (Mine.hd.heap_39 w.params).In h₀) (N : News h₀ L s.heap news) (T : Top Mine.hd.view_39 (looseW Mine.hd.view_39 [Str.ofString "quantiles", Str.ofString "insort_right", Str.ofString "bisect_right", Str.ofString "bisect_left"]) mean mg mb h₀) (hk : cs.kind = .function)
    (hd : dp + d < recursionLimit) (hu : un + u < cLine)
    (ret : ∀ r news' h' tk', Fr h₀ L h' m → News h₀ L h' news' → Out r news' → Q r { s with heap := h', toks := tk' }) :
    wpAny (model PySem.Challenge.rw_dn0050_05.row.prog w) (ktrTop dp un gd cn cs L a ccd cl outer) (call (.ref f) vs kws) Q E s :=
  C mean mg mb dp un gd cn cs a ccd cl outer A₀ base h₀ L m s Q E B F X N T hk hd hu ret

theorem upd_of {l : Addr} {o o' : Obj} {post : List (Addr × Obj)} (h2 : ∀ p ∈ post, p.1 ≠ l) : ∀ {pre : List (Addr × Obj)}, (∀ p ∈ pre, p.1 ≠ l) → Upd l o o' (pre ++ (l, o) :: post) (pre ++ (l, o') :: post)
  | [], _ => .head h2
  | p :: _, h1 => .tail (h1 p (.head _)) (upd_of h2 fun q hq => h1 q (.tail _ hq))
theorem IntsAre_take {vs : List Value} {ks : List Int} (h : IntsAre vs ks) : ∀ p : Nat, IntsAre (vs.take p) (ks.take p) := by
  induction h with
  | nil => intro p; simp; exact .nil
  | cons n t _ ih => intro p; cases p with
    | zero => exact .nil
    | succ p => exact .cons n t (ih p)
theorem IntsAre_drop {vs : List Value} {ks : List Int} (h : IntsAre vs ks) : ∀ p : Nat, IntsAre (vs.drop p) (ks.drop p) := by
  induction h with
  | nil => intro p; simp; exact .nil
  | cons n t h ih => intro p; cases p with
    | zero => exact .cons n t h
    | succ p => exact ih p
theorem kl_ins_ints {vs : List Value} {ks : List Int} {x : Int} {t : Tok} {p : Nat} (h : IntsAre vs ks) (hp : p ≤ ks.length) : IntsAre (kl_ins vs (p : Int) (.int x t)) (ks.take p ++ x :: ks.drop p) := by
  unfold kl_ins
  have hl := h.length
  have e : (if ((p : Int) < 0) then ((p : Int) + (vs.length : Int)).toNat else min ((p : Int)).toNat vs.length) = p := by
    rw [if_neg (by omega)]; omega
  rw [e]
  exact IntsAre.append (IntsAre_take h p) (.cons x t (IntsAre_drop h p))
theorem insert_num {prog : Program} {w : World} {A : Around} {E : Value → Shared → Prop} {s : Shared} {h₀ : Heap} {L l : Addr} {m : Str → Option Value} {pre post : List (Addr × Obj)} {vs : List Value} {ks : List Int} {c p : Nat} {x : Int} {u t : Tok} {Q : Value → Shared → Prop}
    (F : Fr h₀ L s.heap m) (N : News h₀ L s.heap (pre ++ (l, listOf vs.toArray c) :: post)) (h1 : ∀ p ∈ pre, p.1 ≠ l) (h2 : ∀ p ∈ post, p.1 ≠ l) (hn : IntsAre vs ks) (hfit : Small ks) (hp : RightAt ks x p)
    (h : ∀ h' vs', Fr h₀ L h' m → IntsAre vs' (ks.take p ++ x :: ks.drop p) → News h₀ L h' (pre ++ (l, listOf vs'.toArray (c + 1)) :: post) → Q .none { s with heap := h' }) :
    wpAny (model prog w) A (call (.builtin "list.insert") [.ref l, .int (p : Int) u, .int x t]) Q E s := by
  have hl := hn.length
  have hk := hfit.lt
  have hp0 := hp.1
  refine kl_insert F N (by unfold Builtin.List.listFitsIndex; simp; omega) rfl (upd_of h2 h1) (by rw [PySem.sizeLine_eq]; simp; omega) fun h' F' N' => h h' _ F' (kl_ins_ints hn hp0) N'
theorem insort (w : World) {pre post : List (Addr × Obj)} {l : Addr} {vs : List Value} {ks : List Int} {c : Nat} {x : Int} {tk : Tok}
    (h1 : ∀ p ∈ pre, p.1 ≠ l) (h2 : ∀ p ∈ post, p.1 ≠ l) (hn : IntsAre vs ks) (hfit : Small ks) (hs : Rises ks) :
    Says w 44 [.ref l, .int x tk] [] 2 16 (pre ++ (l, listOf vs.toArray c) :: post) (fun r news' => r = .none ∧ ∃ p vs' c', RightAt ks x p ∧ IntsAre vs' (ks.take p ++ x :: ks.drop p) ∧ news' = pre ++ (l, listOf vs'.toArray c') :: post) := by
  have hl : (l, listOf vs.toArray c) ∈ (pre ++ (l, listOf vs.toArray c) :: post) := List.mem_append.mpr (.inr (.head _))
  unfold Says
  w_on
  w_strict (
    k_fill
    intro mean mg mb dp un gd cn cs a ccd cl outer A₀ base h₀ L m s Q E B F X N T hk hd hu hret
    refine wpAny_call ?_
    k_dflt (refine' code_def ?k1 ?k2 ?k3 ?k4 ?k5 ?kA ?kF ?kK ?k6 ?k7 ?k8 ?k9 ?kB ?_ ?zzc2 ?zzc3 ?zzc4 ?zzc5; (case kA => exact rfl); (case kF => exact rfl); (case kK => assumption); (case k1 => k_asm); (case k2 => k_asm); (case k3 => k_asm); (case k4 => k_asm); (case k5 => k_asm); (case k6 => k_is); (case k7 => k_is); (case k8 => ktr_room); (case k9 => first | exact BindsTo.of_eq rfl | (refine' kp_binds ?kx ?ke; (case kx => k_in); (case ke => exact fun _ => rfl)) | exact binds_K (by k_in) rfl (by k_is) rfl rfl rfl); (case zzc5 => decide); (case kB => exact locs rfl); (case zzc2 => exact rfl); (case zzc3 => exact rfl); (case zzc4 => exact rfl); k_whole; intro g' L' h' FG' F' N' B' X' T'; (try dsimp only); (try k_lift B'); (try k_fold))
    k_with_none
    (k_with "mine call ref" => (k_here; (with_reducible show wpAny _ _ (call (Value.ref 53) [Value.ref _, Value.int _ _, Value.int _ _, Value.none]) _ _ _); k_dflt (refine' says_use (bisR4 _ (by assumption) (NumsAre.of_ints (by assumption)) (by assumption) (by assumption)) ?k1 ?k2 ?k3 ?k4 ?k5 ?k6 ?k7 ?k8 ?_; (case k1 => k_asm); (case k2 => k_asm); (case k3 => k_asm); (case k4 => k_asm); (case k5 => k_asm); (case k6 => first | exact rfl | assumption); (case k7 => ktr_room); (case k8 => ktr_units)); (rintro r' news' h' tk' F' N' ⟨e1', p', t', e2', hp'⟩); subst e1'; subst e2'; (try dsimp only); (try k_fold)))
    (k_with "mine call builtin:list.insert" => (k_here; k_dflt (show wpAny _ _ (call (Value.builtin _) [Value.ref _, Value.int _ _, _]) _ _ _); k_dflt (refine' insert_num ?zzF ?zzN ?zzh1 ?zzh2 ?zzhn ?zzhf ?zzhp ?_; (case zzF => k_asm); (case zzN => k_asm); (case zzh1 => assumption); (case zzh2 => assumption); (case zzhn => assumption); (case zzhf => assumption); (case zzhp => assumption)); intro h' vs' F' hI' N'))
    k_steps
    all_goals (rename RightAt _ _ _ => hR; rename IntsAre _ (_ ++ _) => hI; exact hret _ _ _ _ (by k_asm) (by k_asm) ⟨rfl, _, _, _, hR, hI, rfl⟩)
    k_with_none)
end
section
open PySem PySem.W PyProof.Rows PySem.Calls PySem.Spec
set_option maxRecDepth 100000
set_option maxHeartbeats 8000000

theorem item_int {prog : Program} {w : World} {A : Around} {E : Value → Shared → Prop} {s : Shared} {Q : Value → Shared → Prop} {h₀ : Heap} {L l : Addr} {news : List (Addr × Obj)} {value slice : PySem.Expr} {vs : List Value} {ks : List Int} {c : Nat} {k : Int} {u : Tok} (N : News h₀ L s.heap news) (hm : (l, listOf vs.toArray c) ∈ news) (hn : IntsAre vs ks)
    (h0 : 0 ≤ k) (h1 : k < (ks.length : Int)) (hhi : Small ks) (h : ∀ t, Q (.int (ks.getD k.toNat 0) t) s)
    (hs : subscripted slice false (.ref l) (.int k u) = operate [.ref l, .int k u] (getItem (.ref l) (.int k u)) := by with_unfolding_all rfl) :
    wpAny (model prog w) A (subscriptTail value slice (.ref l) (.int k u)) Q E s := by
  have hl : s.heap.IsList l vs.toArray := ⟨_, (N _ hm).1, rfl, c, rfl⟩
  have hi : k.toNat < ks.length := by omega
  have h9 := hhi.lt
  obtain ⟨t, hx⟩ := hn.get k.toNat ks[k.toNat] (by simp [hi])
  have e : ks.getD k.toNat 0 = ks[k.toNat] := by simp [List.getD, hi]
  have := h t
  rw [e] at this
  exact tail_any hl.typeIs slot_list_getitem.lookup (wpAny_getItem_list hl h0 (by omega) (by simpa using hx) this) hs
def gapOf (ks : List Int) (p : Nat) : Int := ks.getD ((p : Int)).toNat 0 - ks.getD ((p : Int) - 1).toNat 0
def goneOf (ks : List Int) (n x : Int) (p : Nat) : Int := n * (((p : Int) - 1) * (ks.getD ((p : Int)).toNat 0 - ks.getD ((p : Int) - 1).toNat 0) + x - ks.getD ((p : Int) - 1).toNat 0)
def everyOf (ks : List Int) (p : Nat) : Int := ((ks.length : Int) - 1) * (ks.getD ((p : Int)).toNat 0 - ks.getD ((p : Int) - 1).toNat 0)
def belowL (ks : List Int) (n x : Int) (p : Nat) : Int := if (p : Int) = 0 then 0 else if (p : Int) = ks.length then n - 1 else (goneOf ks n x p - 1).fdiv (everyOf ks p)
def belowR (ks : List Int) (n x : Int) (p : Nat) : Int := if (p : Int) = 0 then 0 else if (p : Int) = ks.length then n - 1 else (goneOf ks n x p).fdiv (everyOf ks p)
/-- no item is far from 0 -/
structure Near (ks : List Int) : Prop where
  b : ∀ i, (ks.getD i 0).natAbs < 2 ^ 46
theorem log_small {y : Int} (h : y.natAbs < 2 ^ 80) : y.natAbs.log2 < 9000 := by
  by_cases h0 : y.natAbs = 0
  · rw [h0]; decide +kernel
  · have := (Nat.log2_lt h0).mpr h
    omega
theorem every_small {ks : List Int} (hk : Small ks) (hb : Near ks) (i j : Nat) : (((ks.length : Int) - 1) * (ks.getD i 0 - ks.getD j 0)).natAbs < 2 ^ 80 := by
  have h1 := hb.b i
  have h2 := hb.b j
  have h3 := hk.lt
  rw [Int.natAbs_mul]
  have h4 : (ks.getD i 0 - ks.getD j 0).natAbs ≤ 2 ^ 61 := by omega
  have h5 : ((ks.length : Int) - 1).natAbs ≤ 2 ^ 10 := by omega
  calc _ ≤ 2 ^ 10 * 2 ^ 61 := Nat.mul_le_mul h5 h4
    _ < 2 ^ 80 := by decide
theorem every_ne {ks : List Int} {p : Nat} (hp : p ≤ ks.length) (h0 : (p : Int) ≠ 0) (h1 : (p : Int) ≠ ks.length) (hg : ks.getD ((p : Int) - 1).toNat 0 < ks.getD ((p : Int)).toNat 0) :
    ((ks.length : Int) - 1) * (ks.getD ((p : Int)).toNat 0 - ks.getD ((p : Int) - 1).toNat 0) ≠ 0 := by
  have := Int.mul_pos (show 0 < (ks.length : Int) - 1 by omega) (show 0 < ks.getD ((p : Int)).toNat 0 - ks.getD ((p : Int) - 1).toNat 0 by omega)
  omega
theorem LeftAt.gap {ks : List Int} {x : Int} {p : Nat} (h : LeftAt ks x p) (h0 : (p : Int) ≠ 0) (h1 : (p : Int) ≠ ks.length) : ks.getD ((p : Int) - 1).toNat 0 < ks.getD ((p : Int)).toNat 0 := by
  have hp := h.1
  exact Int.lt_of_lt_of_le (h.2.1 _ (by omega)) (h.2.2 _ (by omega) (by omega))
theorem RightAt.gap {ks : List Int} {x : Int} {p : Nat} (h : RightAt ks x p) (h0 : (p : Int) ≠ 0) (h1 : (p : Int) ≠ ks.length) : ks.getD ((p : Int) - 1).toNat 0 < ks.getD ((p : Int)).toNat 0 := by
  have hp := h.1
  exact Int.lt_of_le_of_lt (h.2.1 _ (by omega)) (h.2.2 _ (by omega) (by omega))
theorem div_everyL {prog : Program} {w : World} {A : Around} {E : Value → Shared → Prop} {s : Shared} {Q : Value → Shared → Prop} {ks : List Int} {x a : Int} {p : Nat} {t u : Tok} (h : LeftAt ks x p) (h0 : (p : Int) ≠ 0) (h1 : (p : Int) ≠ ks.length) (hk : Small ks) (hb : Near ks)
    (hq : Q (.int (a.fdiv (((ks.length : Int) - 1) * (ks.getD ((p : Int)).toNat 0 - ks.getD ((p : Int) - 1).toNat 0))) s.toks) { s with toks := s.toks + 1 }) :
    wpAny (model prog w) A (binaryOp .FloorDiv (.int a t) (.int (((ks.length : Int) - 1) * (ks.getD ((p : Int)).toNat 0 - ks.getD ((p : Int) - 1).toNat 0)) u)) Q E s :=
  floordiv_int (every_ne h.1 h0 h1 (h.gap h0 h1)) hq (Or.inl (PyProof.noPylong_of_log2 (log_small (every_small hk hb _ _))))
theorem div_everyR {prog : Program} {w : World} {A : Around} {E : Value → Shared → Prop} {s : Shared} {Q : Value → Shared → Prop} {ks : List Int} {x a : Int} {p : Nat} {t u : Tok} (h : RightAt ks x p) (h0 : (p : Int) ≠ 0) (h1 : (p : Int) ≠ ks.length) (hk : Small ks) (hb : Near ks)
    (hq : Q (.int (a.fdiv (((ks.length : Int) - 1) * (ks.getD ((p : Int)).toNat 0 - ks.getD ((p : Int) - 1).toNat 0))) s.toks) { s with toks := s.toks + 1 }) :
    wpAny (model prog w) A (binaryOp .FloorDiv (.int a t) (.int (((ks.length : Int) - 1) * (ks.getD ((p : Int)).toNat 0 - ks.getD ((p : Int) - 1).toNat 0)) u)) Q E s :=
  floordiv_int (every_ne h.1 h0 h1 (h.gap h0 h1)) hq (Or.inl (PyProof.noPylong_of_log2 (log_small (every_small hk hb _ _))))
structure Mid (n : Int) : Prop where
  lo : 2 ≤ n
  hi : n ≤ 16
theorem LeftAt.le {ks : List Int} {x : Int} {p : Nat} (h : LeftAt ks x p) : p ≤ ks.length := h.1
theorem RightAt.le {ks : List Int} {x : Int} {p : Nat} (h : RightAt ks x p) : p ≤ ks.length := h.1

theorem belowFalse (w : World) {news : List (Addr × Obj)} {l : Addr} {vs : List Value} {ks : List Int} {c : Nat} {n x : Int} {tk tk2 : Tok}
    (hl : (l, listOf vs.toArray c) ∈ news) (hn : IntsAre vs ks) (hfit : Small ks) (hs : Rises ks) (hB : Near ks) (hM : Mid n) :
    Says w 69 [.ref l, .int n tk, .int x tk2, .bool false] [] 2 16 news (fun r news' => news = news' ∧ ∃ p t, r = .int (belowL ks n x p) t ∧ LeftAt ks x p) := by
  have hN := NumsAre.of_ints hn
  have hM1 := hM.lo
  have hM2 := hM.hi
  have hF := hfit.lt
  unfold Says
  w_on
  w_strict (
    k_fill
    intro mean mg mb dp un gd cn cs a ccd cl outer A₀ base h₀ L m s Q E B F X N T hk hd hu hret
    refine wpAny_call ?_
    k_dflt (refine' code_def ?k1 ?k2 ?k3 ?k4 ?k5 ?kA ?kF ?kK ?k6 ?k7 ?k8 ?k9 ?kB ?_ ?zzc2 ?zzc3 ?zzc4 ?zzc5; (case kA => exact rfl); (case kF => exact rfl); (case kK => assumption); (case k1 => k_asm); (case k2 => k_asm); (case k3 => k_asm); (case k4 => k_asm); (case k5 => k_asm); (case k6 => k_is); (case k7 => k_is); (case k8 => ktr_room); (case k9 => first | exact BindsTo.of_eq rfl | (refine' kp_binds ?kx ?ke; (case kx => k_in); (case ke => exact fun _ => rfl)) | exact binds_K (by k_in) rfl (by k_is) rfl rfl rfl); (case zzc5 => decide); (case kB => exact locs rfl); (case zzc2 => exact rfl); (case zzc3 => exact rfl); (case zzc4 => exact rfl); k_whole; intro g' L' h' FG' F' N' B' X' T'; (try dsimp only); (try k_lift B'); (try k_fold))
    k_with_none
    (k_with "mine call ref" => (k_here; (with_reducible show wpAny _ _ (call (Value.ref 53) [Value.ref _, Value.int _ _]) _ _ _); k_dflt (refine' says_use (bisR _ (by assumption) (by assumption) (by assumption) (by assumption)) ?k1 ?k2 ?k3 ?k4 ?k5 ?k6 ?k7 ?k8 ?_; (case k1 => k_asm); (case k2 => k_asm); (case k3 => k_asm); (case k4 => k_asm); (case k5 => k_asm); (case k6 => first | exact rfl | assumption); (case k7 => ktr_room); (case k8 => ktr_units)); (rintro r' news' h' tk' F' N' ⟨e1', p', t', e2', hp'⟩); subst e1'; subst e2'; (have hq' := hp'.1); (try dsimp only); (try k_fold)))
    (k_with "mine call ref" => (k_here; (with_reducible show wpAny _ _ (call (Value.ref 62) [Value.ref _, Value.int _ _]) _ _ _); k_dflt (refine' says_use (bisL _ (by assumption) (by assumption) (by assumption) (by assumption)) ?k1 ?k2 ?k3 ?k4 ?k5 ?k6 ?k7 ?k8 ?_; (case k1 => k_asm); (case k2 => k_asm); (case k3 => k_asm); (case k4 => k_asm); (case k5 => k_asm); (case k6 => first | exact rfl | assumption); (case k7 => ktr_room); (case k8 => ktr_units)); (rintro r' news' h' tk' F' N' ⟨e1', p', t', e2', hp'⟩); subst e1'; subst e2'; (have hq' := hp'.1); (try dsimp only); (try k_fold)))
    (k_with "mine call builtin:len" => (k_here; (with_reducible show wpAny _ _ (call (Value.builtin "len") [Value.ref _]) _ _ _); k_dflt (refine' len_num ?k1 ?k2 ?k3 ?k4 ?_; (case k1 => k_asm); (case k2 => first | kst_mem | k_memK); (case k3 => assumption); (case k4 => assumption)); k_whole))
    (k_with "mine subscriptTail Name Name ref int" => (k_here; (with_reducible show wpAny _ _ (subscriptTail _ _ (Value.ref _) (Value.int _ _)) _ _ _); k_dflt (refine' item_int ?k1 ?k2 ?k3 ?k4 ?k5 ?k6 ?_ ?k7; (case k1 => k_asm); (case k2 => first | kst_mem | k_memK); (case k3 => assumption); (case k6 => assumption); (case k4 => omega); (case k5 => omega); (case k7 => with_unfolding_all rfl); k_whole); intro t'))
    (k_with "mine subscriptTail Name BinOp ref int" => (k_here; (with_reducible show wpAny _ _ (subscriptTail _ _ (Value.ref _) (Value.int _ _)) _ _ _); k_dflt (refine' item_int ?k1 ?k2 ?k3 ?k4 ?k5 ?k6 ?_ ?k7; (case k1 => k_asm); (case k2 => first | kst_mem | k_memK); (case k3 => assumption); (case k6 => assumption); (case k4 => omega); (case k5 => omega); (case k7 => with_unfolding_all rfl); k_whole); intro t'))
    (k_with "mine binaryOp FloorDiv int int" => (k_here; k_dflt (first | refine div_everyL (by assumption) (by assumption) (by assumption) (by assumption) (by assumption) ?_ | refine div_everyR (by assumption) (by assumption) (by assumption) (by assumption) (by assumption) ?_)))
    k_steps
    · exact hret _ _ _ _ (by k_asm) (by k_asm) ⟨rfl, _, _, (by unfold belowL; rw [if_pos (by assumption)]), (by assumption)⟩
    · exact hret _ _ _ _ (by k_asm) (by k_asm) ⟨rfl, _, _, (by unfold belowL; rw [if_neg (by assumption), if_pos (by assumption)]), (by assumption)⟩
    · exact hret _ _ _ _ (by k_asm) (kst_newsOf (by assumption) fun p9 h9 => List.Mem.tail _ h9) ⟨rfl, _, _, (by unfold belowL goneOf everyOf; rw [if_neg (by assumption), if_neg (by assumption)]), (by assumption)⟩
    k_with_none)

theorem belowTrue (w : World) {news : List (Addr × Obj)} {l : Addr} {vs : List Value} {ks : List Int} {c : Nat} {n x : Int} {tk tk2 : Tok}
    (hl : (l, listOf vs.toArray c) ∈ news) (hn : IntsAre vs ks) (hfit : Small ks) (hs : Rises ks) (hB : Near ks) (hM : Mid n) :
    Says w 69 [.ref l, .int n tk, .int x tk2, .bool true] [] 2 16 news (fun r news' => news = news' ∧ ∃ p t, r = .int (belowR ks n x p) t ∧ RightAt ks x p) := by
  have hN := NumsAre.of_ints hn
  have hM1 := hM.lo
  have hM2 := hM.hi
  have hF := hfit.lt
  unfold Says
  w_on
  w_strict (
    k_fill
    intro mean mg mb dp un gd cn cs a ccd cl outer A₀ base h₀ L m s Q E B F X N T hk hd hu hret
    refine wpAny_call ?_
    k_dflt (refine' code_def ?k1 ?k2 ?k3 ?k4 ?k5 ?kA ?kF ?kK ?k6 ?k7 ?k8 ?k9 ?kB ?_ ?zzc2 ?zzc3 ?zzc4 ?zzc5; (case kA => exact rfl); (case kF => exact rfl); (case kK => assumption); (case k1 => k_asm); (case k2 => k_asm); (case k3 => k_asm); (case k4 => k_asm); (case k5 => k_asm); (case k6 => k_is); (case k7 => k_is); (case k8 => ktr_room); (case k9 => first | exact BindsTo.of_eq rfl | (refine' kp_binds ?kx ?ke; (case kx => k_in); (case ke => exact fun _ => rfl)) | exact binds_K (by k_in) rfl (by k_is) rfl rfl rfl); (case zzc5 => decide); (case kB => exact locs rfl); (case zzc2 => exact rfl); (case zzc3 => exact rfl); (case zzc4 => exact rfl); k_whole; intro g' L' h' FG' F' N' B' X' T'; (try dsimp only); (try k_lift B'); (try k_fold))
    k_with_none
    (k_with "mine call ref" => (k_here; (with_reducible show wpAny _ _ (call (Value.ref 53) [Value.ref _, Value.int _ _]) _ _ _); k_dflt (refine' says_use (bisR _ (by assumption) (by assumption) (by assumption) (by assumption)) ?k1 ?k2 ?k3 ?k4 ?k5 ?k6 ?k7 ?k8 ?_; (case k1 => k_asm); (case k2 => k_asm); (case k3 => k_asm); (case k4 => k_asm); (case k5 => k_asm); (case k6 => first | exact rfl | assumption); (case k7 => ktr_room); (case k8 => ktr_units)); (rintro r' news' h' tk' F' N' ⟨e1', p', t', e2', hp'⟩); subst e1'; subst e2'; (have hq' := hp'.1); (try dsimp only); (try k_fold)))
    (k_with "mine call ref" => (k_here; (with_reducible show wpAny _ _ (call (Value.ref 62) [Value.ref _, Value.int _ _]) _ _ _); k_dflt (refine' says_use (bisL _ (by assumption) (by assumption) (by assumption) (by assumption)) ?k1 ?k2 ?k3 ?k4 ?k5 ?k6 ?k7 ?k8 ?_; (case k1 => k_asm); (case k2 => k_asm); (case k3 => k_asm); (case k4 => k_asm); (case k5 => k_asm); (case k6 => first | exact rfl | assumption); (case k7 => ktr_room); (case k8 => ktr_units)); (rintro r' news' h' tk' F' N' ⟨e1', p', t', e2', hp'⟩); subst e1'; subst e2'; (have hq' := hp'.1); (try dsimp only); (try k_fold)))
    (k_with "mine call builtin:len" => (k_here; (with_reducible show wpAny _ _ (call (Value.builtin "len") [Value.ref _]) _ _ _); k_dflt (refine' len_num ?k1 ?k2 ?k3 ?k4 ?_; (case k1 => k_asm); (case k2 => first | kst_mem | k_memK); (case k3 => assumption); (case k4 => assumption)); k_whole))
    (k_with "mine subscriptTail Name Name ref int" => (k_here; (with_reducible show wpAny _ _ (subscriptTail _ _ (Value.ref _) (Value.int _ _)) _ _ _); k_dflt (refine' item_int ?k1 ?k2 ?k3 ?k4 ?k5 ?k6 ?_ ?k7; (case k1 => k_asm); (case k2 => first | kst_mem | k_memK); (case k3 => assumption); (case k6 => assumption); (case k4 => omega); (case k5 => omega); (case k7 => with_unfolding_all rfl); k_whole); intro t'))
    (k_with "mine subscriptTail Name BinOp ref int" => (k_here; (with_reducible show wpAny _ _ (subscriptTail _ _ (Value.ref _) (Value.int _ _)) _ _ _); k_dflt (refine' item_int ?k1 ?k2 ?k3 ?k4 ?k5 ?k6 ?_ ?k7; (case k1 => k_asm); (case k2 => first | kst_mem | k_memK); (case k3 => assumption); (case k6 => assumption); (case k4 => omega); (case k5 => omega); (case k7 => with_unfolding_all rfl); k_whole); intro t'))
    (k_with "mine binaryOp FloorDiv int int" => (k_here; k_dflt (first | refine div_everyL (by assumption) (by assumption) (by assumption) (by assumption) (by assumption) ?_ | refine div_everyR (by assumption) (by assumption) (by assumption) (by assumption) (by assumption) ?_)))
    k_steps
    · exact hret _ _ _ _ (by k_asm) (by k_asm) ⟨rfl, _, _, (by unfold belowR; rw [if_pos (by assumption)]), (by assumption)⟩
    · exact hret _ _ _ _ (by k_asm) (by k_asm) ⟨rfl, _, _, (by unfold belowR; rw [if_neg (by assumption), if_pos (by assumption)]), (by assumption)⟩
    · exact hret _ _ _ _ (by k_asm) (kst_newsOf (by assumption) fun p9 h9 => List.Mem.tail _ h9) ⟨rfl, _, _, (by unfold belowR goneOf everyOf; rw [if_neg (by assumption), if_neg (by assumption)]), (by assumption)⟩
    k_with_none)
end
section
open PySem PySem.W PyProof.Rows PySem.Calls PySem.Spec
/-- each item a multiple of n -/
structure Mult (n : Int) (ks : List Int) : Prop where
  m : ∀ i, ∃ q, ks.getD i 0 = n * q
def jI (ks : List Int) (n i : Int) : Int := (i * ((ks.length : Int) - 1)).fdiv n
def dI (ks : List Int) (n i : Int) : Int := (i * ((ks.length : Int) - 1)).fmod n
def numI (ks : List Int) (n i : Int) : Int := ks.getD (jI ks n i).toNat 0 * (n - dI ks n i) + ks.getD (jI ks n i + 1).toNat 0 * dI ks n i
def cutI (ks : List Int) (n i : Int) : Int := numI ks n i / n
theorem fdiv_eq {a n : Int} (h : 0 < n) : a.fdiv n = a / n := Int.fdiv_eq_ediv_of_nonneg a (Int.le_of_lt h)
theorem fmod_eq {a n : Int} (h : 0 < n) : a.fmod n = a % n := Int.fmod_eq_emod_of_nonneg a (Int.le_of_lt h)
theorem jI_lo {ks : List Int} {n i : Int} (hM : Mid n) (hi : 1 ≤ i) (hk : 2 ≤ ks.length) : 0 ≤ jI ks n i := by
  have h1 := hM.lo
  unfold jI
  rw [fdiv_eq (by omega)]
  exact Int.ediv_nonneg (Int.mul_nonneg (by omega) (by omega)) (by omega)
theorem jI_hi {ks : List Int} {n i : Int} (hM : Mid n) (hi : i < n) (hk : 2 ≤ ks.length) : jI ks n i + 1 < ks.length := by
  have h1 := hM.lo
  unfold jI
  rw [fdiv_eq (by omega)]
  have : i * ((ks.length : Int) - 1) < ((ks.length : Int) - 1) * n := by
    rw [Int.mul_comm i]
    exact Int.mul_lt_mul_of_pos_left hi (by omega)
  have h2 := Int.ediv_lt_of_lt_mul (by omega) this
  omega
theorem dI_lo {ks : List Int} {n i : Int} (hM : Mid n) : 0 ≤ dI ks n i := by
  have h1 := hM.lo
  unfold dI; rw [fmod_eq (by omega)]; exact Int.emod_nonneg _ (by omega)
theorem dI_hi {ks : List Int} {n i : Int} (hM : Mid n) : dI ks n i < n := by
  have h1 := hM.lo
  unfold dI; rw [fmod_eq (by omega)]; exact Int.emod_lt_of_pos _ (by omega)
theorem comb_mult {n a b p q : Int} (hp : a = n * p) (hq : b = n * q) (d : Int) : a * (n - d) + b * d = n * (p * (n - d) + q * d) := by
  subst hp; subst hq
  rw [Int.mul_add, Int.mul_assoc, Int.mul_assoc]
theorem comb_bound {n a b d : Int} (ha : a.natAbs < 2 ^ 46) (hb : b.natAbs < 2 ^ 46) (h1 : (n - d).natAbs ≤ 32) (h2 : d.natAbs ≤ 32) : (a * (n - d) + b * d).natAbs ≤ 2 ^ 46 * 64 := by
  have e1 : (a * (n - d)).natAbs ≤ 2 ^ 46 * 32 := by rw [Int.natAbs_mul]; exact Nat.mul_le_mul (Nat.le_of_lt ha) h1
  have e2 : (b * d).natAbs ≤ 2 ^ 46 * 32 := by rw [Int.natAbs_mul]; exact Nat.mul_le_mul (Nat.le_of_lt hb) h2
  have e3 := Int.natAbs_add_le (a * (n - d)) (b * d)
  omega
theorem quo_bound {n a : Int} (h : a.natAbs ≤ 2 ^ 46 * 64) : (a / n).natAbs < 2 ^ 53 := by
  have : (a / n).natAbs ≤ a.natAbs := Int.natAbs_ediv_le_natAbs a n
  omega
theorem cutI_eq {ks : List Int} {n i : Int} (hM : Mid n) (hm : Mult n ks) : numI ks n i = n * cutI ks n i := by
  have h1 := hM.lo
  obtain ⟨p, hp⟩ := hm.m (jI ks n i).toNat
  obtain ⟨q, hq⟩ := hm.m (jI ks n i + 1).toNat
  unfold cutI numI
  rw [comb_mult hp hq, Int.mul_ediv_cancel_left _ (by omega)]
theorem cutI_small {ks : List Int} {n i : Int} (hM : Mid n) (hN : Near ks) : (cutI ks n i).natAbs < 2 ^ 53 := by
  have h1 := hM.lo
  have h2 := hM.hi
  have h3 := dI_lo (ks := ks) (i := i) hM
  have h4 := dI_hi (ks := ks) (i := i) hM
  unfold cutI numI
  exact quo_bound (comb_bound (hN.b (jI ks n i).toNat) (hN.b (jI ks n i + 1).toNat) (show (n - dI ks n i).natAbs ≤ 32 by omega) (show (dI ks n i).natAbs ≤ 32 by omega))
/-- the exclusive method's -/
def jE (ks : List Int) (n i : Int) : Int := if (i * ((ks.length : Int) + 1)).fdiv n < 1 then 1 else if (i * ((ks.length : Int) + 1)).fdiv n > (ks.length : Int) - 1 then (ks.length : Int) - 1 else (i * ((ks.length : Int) + 1)).fdiv n
def dE (ks : List Int) (n i : Int) : Int := i * ((ks.length : Int) + 1) - jE ks n i * n
def numE (ks : List Int) (n i : Int) : Int := ks.getD (jE ks n i - 1).toNat 0 * (n - dE ks n i) + ks.getD (jE ks n i).toNat 0 * dE ks n i
def cutE (ks : List Int) (n i : Int) : Int := numE ks n i / n
theorem jE_lo {ks : List Int} {n i : Int} (hk : 2 ≤ ks.length) : 1 ≤ jE ks n i := by
  unfold jE
  split
  · omega
  · split <;> omega
theorem jE_hi {ks : List Int} {n i : Int} (hk : 2 ≤ ks.length) : jE ks n i < ks.length := by
  unfold jE
  split
  · omega
  · split <;> omega
/-- where the place lies between its neighbours, or one gap off -/
theorem dE_bounds {ks : List Int} {n i : Int} (hM : Mid n) (h1 : 1 ≤ i) (h2 : i < n) (hk : 2 ≤ ks.length) : -n ≤ dE ks n i ∧ dE ks n i ≤ 2 * n := by
  have hn := hM.lo
  unfold dE jE
  have e : (i * ((ks.length : Int) + 1)).fdiv n = (i * ((ks.length : Int) + 1)) / n := fdiv_eq (by omega)
  rw [e]
  have h3 := Int.emod_add_mul_ediv (i * ((ks.length : Int) + 1)) n
  have h4 := Int.emod_nonneg (i * ((ks.length : Int) + 1)) (show n ≠ 0 by omega)
  have h5 := Int.emod_lt_of_pos (i * ((ks.length : Int) + 1)) (show 0 < n by omega)
  have h6 : i * ((ks.length : Int) + 1) < n * (ks.length : Int) + n := by
    have := Int.mul_lt_mul_of_pos_right h2 (show 0 < (ks.length : Int) + 1 by omega)
    rw [Int.mul_add n, Int.mul_one] at this
    exact this
  have h7 : 0 ≤ i * ((ks.length : Int) + 1) := Int.mul_nonneg (by omega) (by omega)
  generalize i * ((ks.length : Int) + 1) = a at *
  generalize a / n = q at *
  split
  · rename_i h8
    have h10 : n * q ≤ n * 0 := Int.mul_le_mul_of_nonneg_left (by omega) (by omega)
    omega
  · split
    · rw [Int.sub_mul, Int.mul_comm (ks.length : Int) n, Int.one_mul]
      rename_i h8 h9
      have h10 : n * ((ks.length : Int) - 1 + 1) ≤ n * q := Int.mul_le_mul_of_nonneg_left (by omega) (by omega)
      rw [Int.sub_add_cancel] at h10
      omega
    · rw [Int.mul_comm q n]
      omega
theorem cutE_eq {ks : List Int} {n i : Int} (hM : Mid n) (hm : Mult n ks) : numE ks n i = n * cutE ks n i := by
  have h1 := hM.lo
  obtain ⟨p, hp⟩ := hm.m (jE ks n i - 1).toNat
  obtain ⟨q, hq⟩ := hm.m (jE ks n i).toNat
  unfold cutE numE
  rw [comb_mult hp hq, Int.mul_ediv_cancel_left _ (by omega)]
theorem cutE_small {ks : List Int} {n i : Int} (hM : Mid n) (hN : Near ks) (h1 : 1 ≤ i) (h2 : i < n) (hk : 2 ≤ ks.length) : (cutE ks n i).natAbs < 2 ^ 53 := by
  have h3 := hM.hi
  have h4 := dE_bounds hM h1 h2 hk
  have h5 := hM.lo
  unfold cutE numE
  exact quo_bound (comb_bound (hN.b (jE ks n i - 1).toNat) (hN.b (jE ks n i).toNat) (show (n - dE ks n i).natAbs ≤ 32 by omega) (show (dE ks n i).natAbs ≤ 32 by omega))
end
section
open PySem PyProof.Rows
def gallop' : Bool → Keyed → Array Keyed → Nat → Nat → Nat → StateT SortSt Sem (Option Nat) := sortPriv% PySem.Builtin.gallop
section
variable {M : Model} {A : Around} {E : Value → Shared → Prop} {s : Shared} {left : Bool} {key : Keyed} {arr : Array Keyed} {base n hint : Nat} {st : SortSt} {Q : Option Nat → SortSt → Prop} {P : Nat → Bool}
/-- a search by halves, of whatever body that halves -/
theorem wpS_halves {body : Nat → Option (Option Nat) × Nat × Nat → StateT SortSt Sem (ForInStep (Option (Option Nat) × Nat × Nat))} {lo hi : Nat} (hmono : ∀ i j, i ≤ j → j < n → P j = true → P i = true)
    (hb : ∀ x l r (Q' : ForInStep (Option (Option Nat) × Nat × Nat) → SortSt → Prop), (l ≥ r → Q' (.done (none, l, r)) st) →
      (l < r → P (l + (r - l) / 2) = true → Q' (.yield (none, l + (r - l) / 2 + 1, r)) st) → (l < r → P (l + (r - l) / 2) = false → Q' (.yield (none, l, l + (r - l) / 2)) st) → r ≤ n → wpS M A E s (body x (none, l, r)) Q' st)
    (h1 : lo ≤ hi) (h2 : hi ≤ n) (h3 : ∀ i, i < lo → P i = true) (h4 : ∀ i, hi ≤ i → i < n → P i = false) {Q : Option (Option Nat) × Nat × Nat → SortSt → Prop}
    (h : ∀ k, k ≤ n → (∀ i, i < k → P i = true) → (∀ i, k ≤ i → i < n → P i = false) → Q (none, k, k) st) : wpS M A E s (forIn [0:n] (none, lo, hi) body) Q st := by
  refine (wpS_mono (wpS_forRange
    (I := fun x c st' => st' = st ∧ ∃ l r, c = (none, l, r) ∧ l ≤ r ∧ r ≤ n ∧ r - l ≤ n - x ∧ (∀ i, i < l → P i = true) ∧ (∀ i, r ≤ i → i < n → P i = false))
    (Q := fun c st' => st' = st ∧ ∃ l r, c = (none, l, r) ∧ l = r ∧ r ≤ n ∧ (∀ i, i < l → P i = true) ∧ (∀ i, r ≤ i → i < n → P i = false)) ?step ?fin ?init) ?post)
  case init => exact ⟨rfl, lo, hi, rfl, h1, h2, by omega, h3, h4⟩
  case fin =>
    rintro c st' ⟨rfl, l, r, rfl, a1, a2, a3, a4, a5⟩
    exact ⟨rfl, l, r, rfl, by omega, a2, a4, a5⟩
  case step =>
    rintro x c st' _ hx ⟨rfl, l, r, rfl, a1, a2, a3, a4, a5⟩
    refine hb x l r _ ?_ ?_ ?_ a2
    · intro hge
      exact ⟨rfl, l, r, rfl, by omega, a2, a4, a5⟩
    · intro hlt hP
      exact ⟨rfl, _, r, rfl, by omega, a2, by omega, fun i hi' => hmono i _ (by omega) (by omega) hP, a5⟩
    · intro hlt hP
      refine ⟨rfl, l, _, rfl, by omega, by omega, by omega, a4, fun i hi' hn' => ?_⟩
      cases hi2 : P i with
      | false => rfl
      | true => rw [hmono _ i hi' hn' hi2] at hP; cases hP
  case post =>
    rintro c st' ⟨rfl, l, r, rfl, rfl, a2, a4, a5⟩
    exact h l a2 a4 a5

theorem wpS_gallop (hn : hint < n) (hmono : ∀ i j, i ≤ j → j < n → P j = true → P i = true)
    (hbL : left = true → ∀ i (Q' : Option Bool → SortSt → Prop), i < n → Q' (some (P i)) st → wpS M A E s (elem' arr (base + i) >>= fun x => lt' x key) Q' st)
    (hbR : left = false → ∀ i (Q' : Option Bool → SortSt → Prop), i < n → Q' (some (P i)) st → wpS M A E s (elem' arr (base + i) >>= fun x => lt' key x >>= fun r => pure (r.map not)) Q' st)
    (h : ∀ k, k ≤ n → (∀ i, i < k → P i = true) → (∀ i, k ≤ i → i < n → P i = false) → Q (some k) st) : wpS M A E s (gallop' left key arr base n hint) Q st := by
  have anti : ∀ i j, i ≤ j → j < n → P i = false → P j = false := fun i j hij hj hi => by
    cases hj2 : P j with
    | false => rfl
    | true => rw [hmono i j hij hj hj2] at hi; cases hi
  cases left
  all_goals (
    first | have hb := hbL rfl | have hb := hbR rfl
    delta gallop'
    with_unfolding_all refine wpS_bind ?_
    dsimp only
    with_unfolding_all refine hb _ _ hn ?_
    dsimp only
    cases hP : P hint with
    | true =>
      rw [if_pos rfl]
      refine wpS_bind (wpS_mono (wpS_forRange
        (I := fun x c st' => st' = st ∧ ∃ l o, c = (none, l, o) ∧ hint + l < n ∧ P (hint + l) = true ∧ l < o ∧ x + 1 ≤ o)
        (Q := fun c st' => st' = st ∧ ∃ l o, c = (none, l, o) ∧ hint + l < n ∧ P (hint + l) = true ∧ l < o ∧ (o ≥ n - hint ∨ (hint + o < n ∧ P (hint + o) = false))) ?step ?fin ?init) ?post)
      case init => exact ⟨rfl, 0, 1, rfl, by omega, hP, by omega, by omega⟩
      case fin =>
        rintro c st' ⟨rfl, l, o, rfl, a1, a2, a3, a4⟩
        exact ⟨rfl, l, o, rfl, a1, a2, a3, .inl (by omega)⟩
      case step =>
        rintro x c st' _ hx ⟨rfl, l, o, rfl, a1, a2, a3, a4⟩
        dsimp only
        by_cases hge : o ≥ n - hint
        · rw [if_pos hge]
          exact wpS_pure ⟨rfl, l, o, rfl, a1, a2, a3, .inl hge⟩
        · rw [if_neg hge]
          with_unfolding_all refine wpS_bind (hb _ _ (by omega) ?_)
          dsimp only
          cases hP2 : P (hint + o) with
          | false =>
            rw [if_pos (by rfl)]
            exact wpS_pure ⟨rfl, l, o, rfl, a1, a2, a3, .inr ⟨by omega, hP2⟩⟩
          | true =>
            rw [if_neg (by simp)]
            exact wpS_pure ⟨rfl, o, 2 * o + 1, rfl, by omega, hP2, by omega, by omega⟩
      case post =>
        rintro c st' ⟨rfl, l, o, rfl, a1, a2, a3, a4⟩
        dsimp only
        refine wpS_bind (wpS_halves hmono (fun x l r Q' b1 b2 b3 b4 => ?half) (by omega) (by omega) (fun i hi => hmono i _ (by omega) a1 a2) (fun i hi hi2 => ?lowpart) (fun k k1 k2 k3 => wpS_pure (h k k1 k2 k3)))
        case half =>
          dsimp only
          by_cases hge : l ≥ r
          · rw [if_pos hge]
            exact wpS_pure (b1 hge)
          · rw [if_neg hge]
            with_unfolding_all refine wpS_bind (hb _ _ (by omega) ?_)
            dsimp only
            cases hP9 : P (l + (r - l) / 2) with
            | true =>
              rw [if_pos rfl]
              exact wpS_pure (b2 (by omega) hP9)
            | false =>
              rw [if_neg (by simp)]
              exact wpS_pure (b3 (by omega) hP9)
        case lowpart =>
          rcases a4 with a4 | ⟨a4, a5⟩
          · omega
          · exact anti _ i (by omega) hi2 a5
    | false =>
      rw [if_neg (by simp)]
      refine wpS_bind (wpS_mono (wpS_forRange
        (I := fun x c st' => st' = st ∧ ∃ l o, c = (none, l, o) ∧ l ≤ hint ∧ P (hint - l) = false ∧ l < o ∧ x + 1 ≤ o)
        (Q := fun c st' => st' = st ∧ ∃ l o, c = (none, l, o) ∧ l ≤ hint ∧ P (hint - l) = false ∧ l < o ∧ (o ≥ hint + 1 ∨ (o ≤ hint ∧ P (hint - o) = true))) ?step ?fin ?init) ?post)
      case init => exact ⟨rfl, 0, 1, rfl, by omega, hP, by omega, by omega⟩
      case fin =>
        rintro c st' ⟨rfl, l, o, rfl, a1, a2, a3, a4⟩
        exact ⟨rfl, l, o, rfl, a1, a2, a3, .inl (by omega)⟩
      case step =>
        rintro x c st' _ hx ⟨rfl, l, o, rfl, a1, a2, a3, a4⟩
        dsimp only
        by_cases hge : o ≥ hint + 1
        · rw [if_pos hge]
          exact wpS_pure ⟨rfl, l, o, rfl, a1, a2, a3, .inl hge⟩
        · rw [if_neg hge]
          with_unfolding_all refine wpS_bind (hb _ _ (by omega) ?_)
          dsimp only
          cases hP2 : P (hint - o) with
          | true =>
            rw [if_pos rfl]
            exact wpS_pure ⟨rfl, l, o, rfl, a1, a2, a3, .inr ⟨by omega, hP2⟩⟩
          | false =>
            rw [if_neg (by simp)]
            exact wpS_pure ⟨rfl, o, 2 * o + 1, rfl, by omega, hP2, by omega, by omega⟩
      case post =>
        rintro c st' ⟨rfl, l, o, rfl, a1, a2, a3, a4⟩
        dsimp only
        refine wpS_bind (wpS_halves hmono (fun x l r Q' b1 b2 b3 b4 => ?half) (by omega) (by omega) (fun i hi => ?lowpart) (fun i hi hi2 => anti _ i hi hi2 a2) (fun k k1 k2 k3 => wpS_pure (h k k1 k2 k3)))
        case half =>
          dsimp only
          by_cases hge : l ≥ r
          · rw [if_pos hge]
            exact wpS_pure (b1 hge)
          · rw [if_neg hge]
            with_unfolding_all refine wpS_bind (hb _ _ (by omega) ?_)
            dsimp only
            cases hP9 : P (l + (r - l) / 2) with
            | true =>
              rw [if_pos rfl]
              exact wpS_pure (b2 (by omega) hP9)
            | false =>
              rw [if_neg (by simp)]
              exact wpS_pure (b3 (by omega) hP9)
        case lowpart =>
          rcases a4 with a4 | ⟨a4, a5⟩
          · omega
          · exact hmono i _ (by omega) (by omega) a5)
end
end
section
open PySem PyProof.Rows
abbrev kv (x : Keyed) : Int := numOf x.1
def Ints (a : Array Keyed) : Prop := ∀ x ∈ a.toList, ∃ n t, x.1 = .int n t
def Srt (a : Array Keyed) : Prop := a.toList.Pairwise (fun x y => kv x ≤ kv y)
theorem K_get {a : Array Keyed} {i : Nat} (h : i < a.size) : K a i = kv a[i] := by unfold K; rw [getElem?_pos a i h]
theorem Srt.le {a : Array Keyed} (h : Srt a) {i j : Nat} (hij : i ≤ j) (hj : j < a.size) : K a i ≤ K a j := by
  have hi : i < a.size := by omega
  rw [K_get hi, K_get hj]
  rcases Nat.lt_or_eq_of_le hij with h' | h'
  · have := List.pairwise_iff_getElem.mp h i j (by simpa using hi) (by simpa using hj) h'
    simpa using this
  · subst h'; exact Int.le_refl _

def Same (st st' : SortSt) : Prop := arrOf st' = arrOf st ∧ kindOf st' = kindOf st ∧ pendingOf st' = pendingOf st ∧ failedOf st' = failedOf st
theorem Same.rfl' {st : SortSt} : Same st st := ⟨rfl, rfl, rfl, rfl⟩

section
variable {prog : Program} {w : World} {A : Around} {E : Value → Shared → Prop} {s : Shared} {st : SortSt}
theorem wpS_elem {a : Array Keyed} {i : Nat} {Q : Keyed → SortSt → Prop} (h : i < a.size) (hq : Q a[i] st) : wpS (model prog w) A E s (elem' a i) Q st := by
  rw [elem'_eq, getElem?_pos a i h]
  exact wpS_pure hq
theorem wpS_lt {x y : Keyed} {Q : Option Bool → SortSt → Prop} (hk : kindOf st = oneType') (hx : ∃ n t, x.1 = .int n t) (hy : ∃ n t, y.1 = .int n t) (h : Q (some (decide (kv x < kv y))) st) :
    wpS (model prog w) A E s (lt' x y) Q st := by
  obtain ⟨a, t, ex⟩ := hx
  obtain ⟨b, u, ey⟩ := hy
  rw [lt'_eq]
  refine wpS_bind (wpS_get ?_)
  rw [hk, keyLt'_oneType, ex, ey]
  have e : decide (kv x < kv y) = decide (a < b) := by unfold kv; rw [ex, ey]; rfl
  rw [e] at h
  refine wpS_bind (wpS_lift (wpAny_attempt (oneLt_int ⟨rfl, ?_⟩)))
  exact wpS_pure h
theorem Ints.at {a : Array Keyed} (h : Ints a) {i : Nat} (hi : i < a.size) : ∃ n t, a[i].1 = .int n t := h _ (by simp)
/-- an item against the key -/
theorem wpS_beyondL {key : Keyed} {arr : Array Keyed} {base i : Nat} {Q : Option Bool → SortSt → Prop} (hk : kindOf st = oneType') (hI : Ints arr) (hy : ∃ n t, key.1 = .int n t) (hi : base + i < arr.size)
    (h : Q (some (decide (K arr (base + i) < kv key))) st) : wpS (model prog w) A E s (elem' arr (base + i) >>= fun x => lt' x key) Q st := by
  refine wpS_bind (wpS_elem hi ?_)
  rw [K_get hi] at h
  exact wpS_lt hk (hI.at hi) hy h
theorem wpS_beyondR {key : Keyed} {arr : Array Keyed} {base i : Nat} {Q : Option Bool → SortSt → Prop} (hk : kindOf st = oneType') (hI : Ints arr) (hy : ∃ n t, key.1 = .int n t) (hi : base + i < arr.size)
    (h : Q (some (decide (K arr (base + i) ≤ kv key))) st) : wpS (model prog w) A E s (elem' arr (base + i) >>= fun x => lt' key x >>= fun r => pure (r.map not)) Q st := by
  refine wpS_bind (wpS_elem hi ?_)
  rw [K_get hi] at h
  refine wpS_bind (wpS_lt hk hy (hI.at hi) ?_)
  refine wpS_pure ?_
  have e : (Option.map not (some (decide (kv key < kv arr[base + i])))) = some (decide (kv arr[base + i] ≤ kv key)) := by
    simp only [Option.map_some]
    congr 1
    by_cases h1 : kv key < kv arr[base + i]
    · have h2 : ¬ kv arr[base + i] ≤ kv key := by omega
      simp [h1, h2]
    · have h2 : kv arr[base + i] ≤ kv key := by omega
      simp [h1, h2]
  rw [e]
  exact h
/-- gallop_right: how many are not above the key -/
theorem wpS_gallopR {key : Keyed} {arr : Array Keyed} {base n hint : Nat} {Q : Option Nat → SortSt → Prop} (hk : kindOf st = oneType') (hI : Ints arr) (hs : Srt arr) (hy : ∃ n t, key.1 = .int n t) (hn : base + n ≤ arr.size) (hh : hint < n)
    (h : ∀ k, k ≤ n → (∀ i, i < k → K arr (base + i) ≤ kv key) → (∀ i, k ≤ i → i < n → kv key < K arr (base + i)) → Q (some k) st) :
    wpS (model prog w) A E s (gallop' false key arr base n hint) Q st := by
  refine wpS_gallop (P := fun i => decide (K arr (base + i) ≤ kv key)) hh ?_ (fun h9 => Bool.noConfusion h9) ?_ ?_
  · intro i j hij hj hP
    simp only [decide_eq_true_eq] at hP ⊢
    exact Int.le_trans (hs.le (by omega) (by omega)) hP
  · intro _ i Q' hi hQ
    exact wpS_beyondR hk hI hy (by omega) hQ
  · intro k h1 h2 h3
    refine h k h1 (fun i hi => by simpa using h2 i hi) fun i hi hi2 => ?_
    have := h3 i hi hi2
    simp only [decide_eq_false_iff_not] at this
    omega
/-- gallop_left: how many are below the key -/
theorem wpS_gallopL {key : Keyed} {arr : Array Keyed} {base n hint : Nat} {Q : Option Nat → SortSt → Prop} (hk : kindOf st = oneType') (hI : Ints arr) (hs : Srt arr) (hy : ∃ n t, key.1 = .int n t) (hn : base + n ≤ arr.size) (hh : hint < n)
    (h : ∀ k, k ≤ n → (∀ i, i < k → K arr (base + i) < kv key) → (∀ i, k ≤ i → i < n → kv key ≤ K arr (base + i)) → Q (some k) st) :
    wpS (model prog w) A E s (gallop' true key arr base n hint) Q st := by
  refine wpS_gallop (P := fun i => decide (K arr (base + i) < kv key)) hh ?_ ?_ (fun h9 => Bool.noConfusion h9) ?_
  · intro i j hij hj hP
    simp only [decide_eq_true_eq] at hP ⊢
    exact Int.lt_of_le_of_lt (hs.le (by omega) (by omega)) hP
  · intro _ i Q' hi hQ
    exact wpS_beyondL hk hI hy (by omega) hQ
  · intro k h1 h2 h3
    refine h k h1 (fun i hi => by simpa using h2 i hi) fun i hi hi2 => ?_
    have := h3 i hi hi2
    simp only [decide_eq_false_iff_not] at this
    omega
end

def setMinGallop' : Nat → StateT SortSt Sem Unit := sortPriv% PySem.Builtin.setMinGallop
theorem wpS_setMin {M : Model} {A : Around} {E : Value → Shared → Prop} {s : Shared} {st : SortSt} {g : Nat} {Q : Unit → SortSt → Prop} (h : ∀ st', Same st st' → Q () st') : wpS M A E s (setMinGallop' g) Q st := by
  delta setMinGallop'
  with_unfolding_all exact wpS_modify (h _ ⟨rfl, rfl, rfl, rfl⟩)
theorem Same.trans {st st' st'' : SortSt} (h : Same st st') (h' : Same st' st'') : Same st st'' :=
  ⟨h'.1.trans h.1, h'.2.1.trans h.2.1, h'.2.2.1.trans h.2.2.1, h'.2.2.2.trans h.2.2.2⟩

/-- what the merge from the left has done so far -/
structure Mg (a b out : Array Keyed) (ia ib : Nat) : Prop where
  ha : ia ≤ a.size
  hb : ib ≤ b.size
  perm : out.toList.Perm (a.toList.take ia ++ b.toList.take ib)
  srt : out.toList.Pairwise (fun x y => kv x ≤ kv y)
  la : ∀ x ∈ out.toList, ia < a.size → kv x ≤ K a ia
  lb : ∀ x ∈ out.toList, ib < b.size → kv x ≤ K b ib
theorem Mg.size {a b out : Array Keyed} {ia ib : Nat} (h : Mg a b out ia ib) : out.size = ia + ib := by
  have := h.perm.length_eq
  have h1 := h.ha
  have h2 := h.hb
  simp only [List.length_append, List.length_take, Array.length_toList] at this
  omega
theorem take_snoc {a : Array Keyed} {i : Nat} (h : i < a.size) : a.toList.take (i + 1) = a.toList.take i ++ [a[i]] := by
  rw [List.take_add_one]
  have : a.toList[i]? = some a[i] := by simp [h]
  rw [this]
  rfl
theorem pw_snoc {l : List Keyed} {x : Keyed} (h : l.Pairwise (fun x y => kv x ≤ kv y)) (hx : ∀ y ∈ l, kv y ≤ kv x) : (l ++ [x]).Pairwise (fun x y => kv x ≤ kv y) := by
  rw [List.pairwise_append]
  exact ⟨h, List.pairwise_singleton _ _, fun y hy z hz => by rw [List.mem_singleton.mp hz]; exact hx y hy⟩
theorem Mg.pushA {a b out : Array Keyed} {ia ib : Nat} (h : Mg a b out ia ib) (hsa : Srt a) (hi : ia < a.size) (hc : ib < b.size → K a ia ≤ K b ib) : Mg a b (out.push a[ia]) (ia + 1) ib := by
  have e : (out.push a[ia]).toList = out.toList ++ [a[ia]] := by simp
  refine ⟨hi, h.hb, ?_, ?_, ?_, ?_⟩
  · rw [e, take_snoc hi]
    have p1 : (out.toList ++ [a[ia]]).Perm (a.toList.take ia ++ b.toList.take ib ++ [a[ia]]) := h.perm.append_right _
    refine p1.trans ?_
    rw [List.append_assoc, List.append_assoc]
    exact List.Perm.append_left _ List.perm_append_comm
  · rw [e]
    exact pw_snoc h.srt fun y hy => by rw [← K_get hi]; exact h.la y hy hi
  · intro x hx hi2
    rw [e] at hx
    rcases List.mem_append.mp hx with hx | hx
    · exact Int.le_trans (h.la x hx hi) (hsa.le (by omega) hi2)
    · rw [List.mem_singleton.mp hx, ← K_get hi]; exact hsa.le (by omega) hi2
  · intro x hx hi2
    rw [e] at hx
    rcases List.mem_append.mp hx with hx | hx
    · exact h.lb x hx hi2
    · rw [List.mem_singleton.mp hx, ← K_get hi]; exact hc hi2
theorem Mg.pushB {a b out : Array Keyed} {ia ib : Nat} (h : Mg a b out ia ib) (hsb : Srt b) (hi : ib < b.size) (hc : ia < a.size → K b ib ≤ K a ia) : Mg a b (out.push b[ib]) ia (ib + 1) := by
  have e : (out.push b[ib]).toList = out.toList ++ [b[ib]] := by simp
  refine ⟨h.ha, hi, ?_, ?_, ?_, ?_⟩
  · rw [e, take_snoc hi, ← List.append_assoc]
    exact h.perm.append_right _
  · rw [e]
    exact pw_snoc h.srt fun y hy => by rw [← K_get hi]; exact h.lb y hy hi
  · intro x hx hi2
    rw [e] at hx
    rcases List.mem_append.mp hx with hx | hx
    · exact h.la x hx hi2
    · rw [List.mem_singleton.mp hx, ← K_get hi]; exact hc hi2
  · intro x hx hi2
    rw [e] at hx
    rcases List.mem_append.mp hx with hx | hx
    · exact Int.le_trans (h.lb x hx hi) (hsb.le (by omega) hi2)
    · rw [List.mem_singleton.mp hx, ← K_get hi]; exact hsb.le (by omega) hi2
theorem ext_snoc {a : Array Keyed} {i k : Nat} (h : i + k < a.size) : a.extract i (i + (k + 1)) = (a.extract i (i + k)).push a[i + k] := by
  apply Array.toList_inj.mp
  simp only [Array.toList_extract, Array.toList_push, List.extract_eq_take_drop]
  have e1 : i + (k + 1) - i = k + 1 := by omega
  have e2 : i + k - i = k := by omega
  rw [e1, e2, List.take_add_one, List.getElem?_drop]
  have : a.toList[i + k]? = some a[i + k] := by simp [h]
  rw [this]
  rfl
theorem Mg.chunkA {a b out : Array Keyed} {ia ib : Nat} (h : Mg a b out ia ib) (hsa : Srt a) : ∀ k, ia + k ≤ a.size → (∀ i, i < k → ib < b.size → K a (ia + i) ≤ K b ib) → Mg a b (out ++ a.extract ia (ia + k)) (ia + k) ib
  | 0, _, _ => by
    have e : out ++ a.extract ia (ia + 0) = out := by
      apply Array.toList_inj.mp
      simp
    rw [e]; exact h
  | k + 1, hk, hc => by
    have ih := Mg.chunkA h hsa k (by omega) fun i hi hb => hc i (by omega) hb
    have e : out ++ a.extract ia (ia + (k + 1)) = (out ++ a.extract ia (ia + k)).push a[ia + k] := by
      rw [ext_snoc (by omega), Array.append_push]
    rw [e]
    exact ih.pushA hsa (by omega) fun hb => hc k (by omega) hb
theorem Mg.chunkB {a b out : Array Keyed} {ia ib : Nat} (h : Mg a b out ia ib) (hsb : Srt b) : ∀ k, ib + k ≤ b.size → (∀ i, i < k → ia < a.size → K b (ib + i) ≤ K a ia) → Mg a b (out ++ b.extract ib (ib + k)) ia (ib + k)
  | 0, _, _ => by
    have e : out ++ b.extract ib (ib + 0) = out := by
      apply Array.toList_inj.mp
      simp
    rw [e]; exact h
  | k + 1, hk, hc => by
    have ih := Mg.chunkB h hsb k (by omega) fun i hi hb => hc i (by omega) hb
    have e : out ++ b.extract ib (ib + (k + 1)) = (out ++ b.extract ib (ib + k)).push b[ib + k] := by
      rw [ext_snoc (by omega), Array.append_push]
    rw [e]
    exact ih.pushB hsb (by omega) fun hb => hc k (by omega) hb
structure Merged (a b r : Array Keyed) : Prop where
  perm : r.toList.Perm (a.toList ++ b.toList)
  srt : Srt r
theorem Mg.all {a b out : Array Keyed} (h : Mg a b out a.size b.size) : Merged a b out := by
  refine ⟨?_, h.srt⟩
  have := h.perm
  rw [List.take_of_length_le (by simp), List.take_of_length_le (by simp)] at this
  exact this
def doneLo (a b out : Array Keyed) (ia ib : Nat) : Array Keyed := out ++ a.extract ia a.size ++ b.extract ib b.size
def lastLo (a b out : Array Keyed) (ia ib : Nat) : Array Keyed := out ++ b.extract ib b.size ++ a.extract ia a.size
theorem Mg.doneB {a b out : Array Keyed} {ia ib : Nat} (h : Mg a b out ia ib) (hsa : Srt a) (hb : ib = b.size) : Merged a b (doneLo a b out ia ib) := by
  subst hb
  have h1 := h.ha
  have h2 := h.chunkA hsa (a.size - ia) (by omega) (fun i _ hb => absurd hb (Nat.lt_irrefl _))
  rw [show ia + (a.size - ia) = a.size by omega] at h2
  have e : doneLo a b out ia b.size = out ++ a.extract ia a.size := by
    unfold doneLo
    apply Array.toList_inj.mp
    simp
  rw [e]
  exact h2.all
theorem Mg.doneA {a b out : Array Keyed} {ia ib : Nat} (h : Mg a b out ia ib) (hsb : Srt b) (ha : ia = a.size) : Merged a b (doneLo a b out ia ib) := by
  subst ha
  have h1 := h.hb
  have h2 := h.chunkB hsb (b.size - ib) (by omega) (fun i _ hb => absurd hb (Nat.lt_irrefl _))
  rw [show ib + (b.size - ib) = b.size by omega] at h2
  have e : doneLo a b out a.size ib = out ++ b.extract ib b.size := by
    unfold doneLo
    apply Array.toList_inj.mp
    simp
  rw [e]
  exact h2.all
theorem Mg.last {a b out : Array Keyed} {ia ib : Nat} (h : Mg a b out ia ib) (hsa : Srt a) (hsb : Srt b) (ha : ia + 1 = a.size) (hl : ∀ i, i < b.size → K b i ≤ K a (a.size - 1)) : Merged a b (lastLo a b out ia ib) := by
  have h1 := h.hb
  have h2 := h.chunkB hsb (b.size - ib) (by omega) (fun i hi hb => by
    have := hl (ib + i) (by omega)
    rw [show a.size - 1 = ia by omega] at this
    exact this)
  rw [show ib + (b.size - ib) = b.size by omega] at h2
  have h3 := h2.chunkA hsa 1 (by omega) (fun i _ hb => absurd hb (Nat.lt_irrefl _))
  rw [show ia + 1 = a.size by omega] at h3
  exact h3.all
end
section
open PySem PyProof.Rows
def mergeLo' : Array Keyed → Array Keyed → StateT SortSt Sem (Array Keyed) := sortPriv% PySem.Builtin.mergeLo
/-- inside the merge: both sides still have some -/
def In (a b out : Array Keyed) (ia ib N : Nat) : Prop := Mg a b out ia ib ∧ ia + 1 < a.size ∧ ib < b.size ∧ N ≤ out.size

section
variable {prog : Program} {w : World} {A : Around} {E : Value → Shared → Prop} {s : Shared} {st : SortSt} {a b : Array Keyed}
theorem wpS_mergeLo {Q : Array Keyed → SortSt → Prop} (hk : kindOf st = oneType') (hIa : Ints a) (hIb : Ints b) (hsa : Srt a) (hsb : Srt b) (ha : 0 < a.size) (hb : 0 < b.size)
    (h1 : K b 0 ≤ K a 0) (h2 : ∀ i, i < b.size → K b i ≤ K a (a.size - 1))
    (h : ∀ r st', Same st st' → Merged a b r → Q r st') : wpS (model prog w) A E s (mergeLo' a b) Q st := by
  delta mergeLo'
  with_unfolding_all refine wpS_bind (wpS_lift (wpAny_rule ⟨rfl, ?_⟩))
  dsimp only
  refine wpS_bind (wpS_elem hb ?_)
  have M0 : Mg a b #[b[0]] 0 1 := by
    have m : Mg a b #[] 0 0 := ⟨Nat.zero_le _, Nat.zero_le _, by simp, by simp, fun x hx => by simp at hx, fun x hx => by simp at hx⟩
    exact m.pushB hsb hb fun _ => h1
  by_cases hb1 : (1 == b.size) = true
  · rw [if_pos hb1]
    exact wpS_pure (h _ _ Same.rfl' (M0.doneB hsa (by simpa using hb1)))
  rw [if_neg hb1]
  by_cases ha1 : (0 + 1 == a.size) = true
  · rw [if_pos ha1]
    exact wpS_pure (h _ _ Same.rfl' (M0.last hsa hsb (by simpa using ha1) h2))
  rw [if_neg ha1]
  have hb2 : 1 < b.size := by
    have : ¬ 1 = b.size := by simpa using hb1
    omega
  have ha2 : 1 < a.size := by
    have : ¬ 1 = a.size := by simpa using ha1
    omega
  refine wpS_bind (wpS_get ?_)
  refine wpS_bind (wpS_mono (wpS_forRange
    (I := fun x c st' => ∃ out ia ib g, c = (none, out, ia, ib, g) ∧ Same st st' ∧ In a b out ia ib (x + 1))
    (Q := fun c st' => ∃ r rest, c = (some r, rest) ∧ Same st st' ∧ Merged a b r) ?step ?fin ?init) ?post)
  case init => exact ⟨_, _, _, _, rfl, Same.rfl', M0, by omega, hb2, by simp⟩
  case fin =>
    rintro c st' ⟨out, ia, ib, g, rfl, hS, hM, q1, q2, q3⟩
    have := hM.size
    omega
  case post =>
    rintro c st' ⟨r, rest, rfl, hS, hM⟩
    exact wpS_pure (h _ _ hS hM)
  case step =>
    rintro x c st' _ hx ⟨out, ia, ib, g, rfl, hS, hIn⟩
    have hk' : kindOf st' = oneType' := hS.2.1.trans hk
    dsimp only
    refine wpS_bind (wpS_mono (wpS_forRange
      (I := fun y c st'' => ∃ out' ia' ib' ac bc, c = (none, out', ia', ib', ac, bc) ∧ st'' = st' ∧ In a b out' ia' ib' (x + 1 + y))
      (Q := fun c st'' => (∃ r rest, c = (some r, rest) ∧ st'' = st' ∧ Merged a b r) ∨ (∃ out' ia' ib' ac bc, c = (none, out', ia', ib', ac, bc) ∧ st'' = st' ∧ In a b out' ia' ib' (x + 2))) ?step1 ?fin1 ?init1) ?post1)
    case init1 => exact ⟨_, _, _, _, _, rfl, rfl, hIn⟩
    case fin1 =>
      rintro c st'' ⟨out', ia', ib', ac, bc, rfl, rfl, hM, q1, q2, q3⟩
      exact .inr ⟨_, _, _, _, _, rfl, rfl, hM, q1, q2, by omega⟩
    case step1 =>
      rintro y c st'' _ hy ⟨out', ia', ib', ac, bc, rfl, rfl, hM, q1, q2, q3⟩
      dsimp only
      have qa : ia' < a.size := by omega
      refine wpS_bind (wpS_elem q2 ?_)
      refine wpS_bind (wpS_elem qa ?_)
      refine wpS_bind (wpS_lt hk' (hIb.at q2) (hIa.at qa) ?_)
      dsimp only
      have hsz := hM.size
      by_cases hlt : kv b[ib'] < kv a[ia']
      · simp only [hlt, decide_true, if_true]
        refine wpS_bind (wpS_elem q2 ?_)
        have M1 := hM.pushB hsb q2 fun _ => by rw [K_get q2, K_get qa]; omega
        by_cases e : (ib' + 1 == b.size) = true
        · rw [if_pos e]
          exact wpS_pure (.inl ⟨_, _, rfl, rfl, M1.doneB hsa (by simpa using e)⟩)
        · rw [if_neg e]
          have e' : ib' + 1 < b.size := by
            have : ¬ ib' + 1 = b.size := by simpa using e
            omega
          split
          · exact wpS_pure (.inr ⟨_, _, _, _, _, rfl, rfl, M1, q1, e', by simp; omega⟩)
          · exact wpS_pure ⟨_, _, _, _, _, rfl, rfl, M1, q1, e', by simp; omega⟩
      · simp only [hlt, decide_false, Bool.false_eq_true, if_false]
        refine wpS_bind (wpS_elem qa ?_)
        have M1 := hM.pushA hsa qa fun _ => by rw [K_get q2, K_get qa]; omega
        by_cases e : (ia' + 1 + 1 == a.size) = true
        · rw [if_pos e]
          exact wpS_pure (.inl ⟨_, _, rfl, rfl, M1.last hsa hsb (by simpa using e) h2⟩)
        · rw [if_neg e]
          have e' : ia' + 1 + 1 < a.size := by
            have : ¬ ia' + 1 + 1 = a.size := by simpa using e
            omega
          split
          · exact wpS_pure (.inr ⟨_, _, _, _, _, rfl, rfl, M1, e', q2, by simp; omega⟩)
          · exact wpS_pure ⟨_, _, _, _, _, rfl, rfl, M1, e', q2, by simp; omega⟩
    case post1 =>
      rintro c st'' (⟨r, rest, rfl, rfl, hM⟩ | ⟨out', ia', ib', ac, bc, rfl, rfl, hIn'⟩)
      · exact wpS_pure ⟨_, _, rfl, hS, hM⟩
      dsimp only
      refine wpS_bind (wpS_lift (wpAny_rule ⟨rfl, ?_⟩))
      refine wpS_bind (wpS_mono (wpS_forRange
        (I := fun y c st3 => ∃ out' ia' ib' g ac bc, c = (none, out', ia', ib', g, ac, bc) ∧ Same st st3 ∧ In a b out' ia' ib' (x + 2))
        (Q := fun c st3 => (∃ r rest, c = (some r, rest) ∧ Same st st3 ∧ Merged a b r) ∨ (∃ out' ia' ib' g ac bc, c = (none, out', ia', ib', g, ac, bc) ∧ Same st st3 ∧ In a b out' ia' ib' (x + 2))) ?step2 ?fin2 ?init2) ?post2)
      case init2 => exact ⟨_, _, _, _, _, _, rfl, hS, hIn'⟩
      case fin2 =>
        rintro c st3 hI
        exact .inr hI
      case post2 =>
        rintro c st3 (⟨r, rest, rfl, hS3, hM⟩ | ⟨out3, ia3, ib3, g3, ac3, bc3, rfl, hS3, hIn3⟩)
        · exact wpS_pure ⟨_, _, rfl, hS3, hM⟩
        · refine wpS_bind (wpS_setMin fun st4 hS4 => ?_)
          exact wpS_pure ⟨_, _, _, _, rfl, hS3.trans hS4, hIn3⟩
      case step2 =>
        clear hIn' hIn out' ia' ib' ac bc
        rintro y c st3 _ hy ⟨out', ia', ib', g3, ac, bc, rfl, hS3, hM, q1, q2, q3⟩
        dsimp only
        have qa : ia' < a.size := by omega
        by_cases hg : g3 > 1
        case' pos => rw [if_pos hg]
        case' neg => rw [if_neg hg]
        all_goals (
          refine wpS_bind (wpS_setMin fun st4 hS4 => ?_)
          have hS5 := hS3.trans hS4
          have hk5 : kindOf st4 = oneType' := hS5.2.1.trans hk
          refine wpS_bind (wpS_elem q2 ?_)
          refine wpS_bind (wpS_gallopR hk5 hIa hsa (hIb.at q2) (by omega) (by omega) fun k hk1 hk2 hk3 => ?_)
          dsimp only
          have MA := hM.chunkA hsa k (by omega) fun i hi _ => by rw [K_get q2]; exact hk2 i hi
          -- the state behind the first gallop
          have step3 : ∀ (out'' : Array Keyed) (ia'' : Nat), out'' = out' ++ a.extract ia' (ia' + k) → ia'' = ia' + k → ia'' + 1 < a.size → Mg a b (out''.push b[ib']) ia'' (ib' + 1) ∧ x + 2 ≤ (out''.push b[ib']).size := by
            rintro out'' ia'' rfl rfl hlt
            refine ⟨MA.pushB hsb q2 fun _ => ?_, ?_⟩
            · have := hk3 k (Nat.le_refl _) (by omega)
              rw [K_get q2]; omega
            · simp; omega
          have e0 : k = 0 → out' = out' ++ a.extract ia' (ia' + k) := by
            rintro rfl
            apply Array.toList_inj.mp
            simp
          by_cases hkp : k > 0
          case' pos =>
            rw [if_pos hkp]
            by_cases e : (ia' + k + 1 == a.size) = true
            · rw [if_pos e]
              exact wpS_pure (.inl ⟨_, _, rfl, hS5, MA.last hsa hsb (by simpa using e) h2⟩)
            rw [if_neg e]
            by_cases e2 : (ia' + k == a.size) = true
            · rw [if_pos e2]
              exact wpS_pure (.inl ⟨_, _, rfl, hS5, MA.doneA hsb (by simpa using e2)⟩)
            rw [if_neg e2]
            have e' : ia' + k + 1 < a.size := by
              have h8 : ¬ ia' + k + 1 = a.size := by simpa using e
              have h9 : ¬ ia' + k = a.size := by simpa using e2
              omega
            obtain ⟨MB, q5⟩ := step3 _ _ rfl rfl e'
          case' neg =>
            rw [if_neg hkp]
            have e' : ia' + 1 < a.size := q1
            obtain ⟨MB, q5⟩ := step3 out' ia' (e0 (by omega)) (by omega) e'
          all_goals (
            refine wpS_bind (wpS_elem q2 ?_)
            by_cases e6 : (ib' + 1 == b.size) = true
            · rw [if_pos e6]
              exact wpS_pure (.inl ⟨_, _, rfl, hS5, MB.doneB hsa (by simpa using e6)⟩)
            rw [if_neg e6]
            have q6 : ib' + 1 < b.size := by
              have h8 : ¬ ib' + 1 = b.size := by simpa using e6
              omega
            refine wpS_bind (wpS_elem (by omega) ?_)
            refine wpS_bind (wpS_gallopL hk5 hIb hsb (hIa.at (by omega)) (by omega) (by omega) fun k2 hj1 hj2 hj3 => ?_)
            dsimp only
            have MC := MB.chunkB hsb k2 (by omega) fun i hi ha' => by rw [K_get ha']; exact Int.le_of_lt (hj2 i hi)
            by_cases hkq : k2 > 0
            case' pos =>
              rw [if_pos hkq]
              by_cases e7 : (ib' + 1 + k2 == b.size) = true
              · rw [if_pos e7]
                exact wpS_pure (.inl ⟨_, _, rfl, hS5, MC.doneB hsa (by simpa using e7)⟩)
              rw [if_neg e7]
              have q7 : ib' + 1 + k2 < b.size := by
                have h8 : ¬ ib' + 1 + k2 = b.size := by simpa using e7
                omega
            case' neg =>
              rw [if_neg hkq]
              have hk20 : k2 = 0 := by omega
              subst hk20
              have q7 : ib' + 1 < b.size := q6
              replace MC := MB
            all_goals (
              refine wpS_bind (wpS_elem (by omega) ?_)
              have MD := MC.pushA hsa (by omega) fun hb' => by
                rw [K_get (by omega)]
                exact hj3 _ (Nat.le_refl _) (by omega)
              split
              · rename_i e8
                exact wpS_pure (.inl ⟨_, _, rfl, hS5, MD.last hsa hsb (by simpa using e8) h2⟩)
              rename_i e8
              have q8 := e8
              simp only [beq_iff_eq] at q8
              split
              · exact wpS_pure (.inr ⟨_, _, _, _, _, _, rfl, hS5, MD, by omega, q7, by simp at q5 ⊢; omega⟩)
              · exact wpS_pure ⟨_, _, _, _, _, _, rfl, hS5, MD, by omega, q7, by simp at q5 ⊢; omega⟩)))
end
end
section
open PySem PyProof.Rows
/-- what the merge from the right has done so far -/
structure Mh (a b out : Array Keyed) (na nb : Nat) : Prop where
  ha : na ≤ a.size
  hb : nb ≤ b.size
  perm : out.toList.Perm (a.toList.drop na ++ b.toList.drop nb)
  srt : out.toList.Pairwise (fun x y => kv y ≤ kv x)
  la : ∀ x ∈ out.toList, 0 < na → K a (na - 1) ≤ kv x
  lb : ∀ x ∈ out.toList, 0 < nb → K b (nb - 1) ≤ kv x
theorem Mh.size {a b out : Array Keyed} {na nb : Nat} (h : Mh a b out na nb) : out.size = (a.size - na) + (b.size - nb) := by
  have := h.perm.length_eq
  simp only [List.length_append, List.length_drop, Array.length_toList] at this
  omega
theorem drop_cons' {a : Array Keyed} {i : Nat} (h : i < a.size) : a.toList.drop i = a[i] :: a.toList.drop (i + 1) := by
  rw [List.drop_eq_getElem_cons (by simpa using h)]
  simp
theorem pw_snoc' {l : List Keyed} {x : Keyed} (h : l.Pairwise (fun x y => kv y ≤ kv x)) (hx : ∀ y ∈ l, kv x ≤ kv y) : (l ++ [x]).Pairwise (fun x y => kv y ≤ kv x) := by
  rw [List.pairwise_append]
  exact ⟨h, List.pairwise_singleton _ _, fun y hy z hz => by rw [List.mem_singleton.mp hz]; exact hx y hy⟩
theorem Mh.pushA {a b out : Array Keyed} {i nb : Nat} (h : Mh a b out (i + 1) nb) (hsa : Srt a) (hi : i < a.size) (hc : 0 < nb → K b (nb - 1) ≤ K a i) : Mh a b (out.push a[i]) i nb := by
  have e : (out.push a[i]).toList = out.toList ++ [a[i]] := by simp
  have hl : ∀ y ∈ out.toList, K a i ≤ kv y := fun y hy => h.la y hy (by omega)
  refine ⟨by omega, h.hb, ?_, ?_, ?_, ?_⟩
  · rw [e, drop_cons' hi]
    have p1 : (out.toList ++ [a[i]]).Perm ([a[i]] ++ out.toList) := List.perm_append_comm
    refine p1.trans ?_
    exact List.Perm.cons _ h.perm
  · rw [e]
    exact pw_snoc' h.srt fun y hy => by rw [← K_get hi]; exact hl y hy
  · intro x hx hi2
    rw [e] at hx
    have h9 : K a (i - 1) ≤ K a i := hsa.le (by omega) hi
    rcases List.mem_append.mp hx with hx | hx
    · exact Int.le_trans h9 (hl x hx)
    · rw [List.mem_singleton.mp hx, ← K_get hi]; exact h9
  · intro x hx hi2
    rw [e] at hx
    rcases List.mem_append.mp hx with hx | hx
    · exact h.lb x hx hi2
    · rw [List.mem_singleton.mp hx, ← K_get hi]; exact hc hi2
theorem Mh.pushB {a b out : Array Keyed} {na i : Nat} (h : Mh a b out na (i + 1)) (hsb : Srt b) (hi : i < b.size) (hc : 0 < na → K a (na - 1) ≤ K b i) : Mh a b (out.push b[i]) na i := by
  have e : (out.push b[i]).toList = out.toList ++ [b[i]] := by simp
  have hl : ∀ y ∈ out.toList, K b i ≤ kv y := fun y hy => h.lb y hy (by omega)
  refine ⟨h.ha, by omega, ?_, ?_, ?_, ?_⟩
  · rw [e, drop_cons' hi]
    have p1 : (out.toList ++ [b[i]]).Perm ([b[i]] ++ out.toList) := List.perm_append_comm
    refine p1.trans ?_
    have p2 : ([b[i]] ++ out.toList).Perm ([b[i]] ++ (a.toList.drop na ++ b.toList.drop (i + 1))) := h.perm.append_left _
    refine p2.trans ?_
    rw [← List.append_assoc]
    have p3 : ([b[i]] ++ a.toList.drop na).Perm (a.toList.drop na ++ [b[i]]) := List.perm_append_comm
    have p4 := p3.append_right (b.toList.drop (i + 1))
    rw [List.append_assoc (a.toList.drop na)] at p4
    exact p4
  · rw [e]
    exact pw_snoc' h.srt fun y hy => by rw [← K_get hi]; exact hl y hy
  · intro x hx hi2
    rw [e] at hx
    rcases List.mem_append.mp hx with hx | hx
    · exact h.la x hx hi2
    · rw [List.mem_singleton.mp hx, ← K_get hi]; exact hc hi2
  · intro x hx hi2
    rw [e] at hx
    have h9 : K b (i - 1) ≤ K b i := hsb.le (by omega) hi
    rcases List.mem_append.mp hx with hx | hx
    · exact Int.le_trans h9 (hl x hx)
    · rw [List.mem_singleton.mp hx, ← K_get hi]; exact h9
theorem ext_rev {a : Array Keyed} {at_ k : Nat} (h : at_ + (k + 1) ≤ a.size) : (a.extract at_ (at_ + (k + 1))).reverse = (a.extract (at_ + 1) (at_ + 1 + k)).reverse.push (a[at_]'(by omega)) := by
  apply Array.toList_inj.mp
  simp only [Array.toList_reverse, Array.toList_extract, Array.toList_push, List.extract_eq_take_drop]
  have e1 : at_ + (k + 1) - at_ = k + 1 := by omega
  have e2 : at_ + 1 + k - (at_ + 1) = k := by omega
  rw [e1, e2, drop_cons' (by omega), List.take_succ_cons, List.reverse_cons]
theorem Mh.chunkA {a b : Array Keyed} {nb : Nat} (hsa : Srt a) : ∀ (k at_ : Nat) {out : Array Keyed}, Mh a b out (at_ + k) nb → (∀ i, at_ ≤ i → i < at_ + k → 0 < nb → K b (nb - 1) ≤ K a i) → Mh a b (out ++ (a.extract at_ (at_ + k)).reverse) at_ nb
  | 0, at_, out, h, _ => by
    have e : out ++ (a.extract at_ (at_ + 0)).reverse = out := by
      apply Array.toList_inj.mp
      simp
    rw [e]; exact h
  | k + 1, at_, out, h, hc => by
    have h0 : at_ + (k + 1) ≤ a.size := h.ha
    have ih := Mh.chunkA (nb := nb) hsa k (at_ + 1) (out := out) (by rw [show at_ + 1 + k = at_ + (k + 1) by omega]; exact h) fun i hi hi2 hb => hc i (by omega) (by omega) hb
    rw [ext_rev h0, Array.append_push]
    exact ih.pushA hsa (by omega) fun hb => hc at_ (Nat.le_refl _) (by omega) hb
theorem Mh.chunkB {a b : Array Keyed} {na : Nat} (hsb : Srt b) : ∀ (k at_ : Nat) {out : Array Keyed}, Mh a b out na (at_ + k) → (∀ i, at_ ≤ i → i < at_ + k → 0 < na → K a (na - 1) ≤ K b i) → Mh a b (out ++ (b.extract at_ (at_ + k)).reverse) na at_
  | 0, at_, out, h, _ => by
    have e : out ++ (b.extract at_ (at_ + 0)).reverse = out := by
      apply Array.toList_inj.mp
      simp
    rw [e]; exact h
  | k + 1, at_, out, h, hc => by
    have h0 : at_ + (k + 1) ≤ b.size := h.hb
    have ih := Mh.chunkB (na := na) hsb k (at_ + 1) (out := out) (by rw [show at_ + 1 + k = at_ + (k + 1) by omega]; exact h) fun i hi hi2 hb => hc i (by omega) (by omega) hb
    rw [ext_rev h0, Array.append_push]
    exact ih.pushB hsb (by omega) fun hb => hc at_ (Nat.le_refl _) (by omega) hb
theorem Mh.all {a b out : Array Keyed} (h : Mh a b out 0 0) : Merged a b out.reverse := by
  refine ⟨?_, ?_⟩
  · have := h.perm
    rw [List.drop_zero, List.drop_zero] at this
    rw [Array.toList_reverse]
    exact (List.reverse_perm _).trans this
  · unfold Srt
    rw [Array.toList_reverse, List.pairwise_reverse]
    exact h.srt
def doneHi (a b out : Array Keyed) (na nb : Nat) : Array Keyed := a.extract 0 na ++ b.extract 0 nb ++ out.reverse
def firstHi (a b out : Array Keyed) (na nb : Nat) : Array Keyed := b.extract 0 nb ++ a.extract 0 na ++ out.reverse
theorem Mh.doneA {a b out : Array Keyed} {na nb : Nat} (h : Mh a b out na nb) (hsb : Srt b) (ha : na = 0) : Merged a b (doneHi a b out na nb) := by
  subst ha
  have h2 := Mh.chunkB (na := 0) hsb nb 0 (out := out) (by rw [Nat.zero_add]; exact h) (fun i _ _ hb => absurd hb (Nat.lt_irrefl _))
  have e : doneHi a b out 0 nb = (out ++ (b.extract 0 (0 + nb)).reverse).reverse := by
    unfold doneHi
    apply Array.toList_inj.mp
    simp
  rw [e]
  exact h2.all
theorem Mh.doneB {a b out : Array Keyed} {na nb : Nat} (h : Mh a b out na nb) (hsa : Srt a) (hb : nb = 0) : Merged a b (doneHi a b out na nb) := by
  subst hb
  have h2 := Mh.chunkA (nb := 0) hsa na 0 (out := out) (by rw [Nat.zero_add]; exact h) (fun i _ _ hb => absurd hb (Nat.lt_irrefl _))
  have e : doneHi a b out na 0 = (out ++ (a.extract 0 (0 + na)).reverse).reverse := by
    unfold doneHi
    apply Array.toList_inj.mp
    simp
  rw [e]
  exact h2.all
theorem Mh.first {a b out : Array Keyed} {na nb : Nat} (h : Mh a b out na nb) (hsa : Srt a) (hsb : Srt b) (hb : nb = 1) (hl : ∀ i, i < a.size → K b 0 ≤ K a i) : Merged a b (firstHi a b out na nb) := by
  subst hb
  have h0 := h.ha
  have h2 := Mh.chunkA (nb := 1) hsa na 0 (out := out) (by rw [Nat.zero_add]; exact h) (fun i _ hi _ => hl i (by omega))
  have h3 := Mh.chunkB (na := 0) hsb 1 0 h2 (fun i _ _ hb => absurd hb (Nat.lt_irrefl _))
  have e : firstHi a b out na 1 = (out ++ (a.extract 0 (0 + na)).reverse ++ (b.extract 0 (0 + 1)).reverse).reverse := by
    unfold firstHi
    apply Array.toList_inj.mp
    simp
  rw [e]
  exact h3.all

def mergeHi' : Array Keyed → Array Keyed → StateT SortSt Sem (Array Keyed) := sortPriv% PySem.Builtin.mergeHi
end
section
open PySem PyProof.Rows
def Inh (a b out : Array Keyed) (na nb N : Nat) : Prop := Mh a b out na nb ∧ 0 < na ∧ 1 < nb ∧ N ≤ out.size
theorem Mh.popA {a b out : Array Keyed} {na nb : Nat} (h : Mh a b out na nb) (hsa : Srt a) (h0 : 0 < na) (hi : na - 1 < a.size) (hc : 0 < nb → K b (nb - 1) ≤ K a (na - 1)) : Mh a b (out.push a[na - 1]) (na - 1) nb :=
  Mh.pushA (i := na - 1) (by rw [show na - 1 + 1 = na by omega]; exact h) hsa hi hc
theorem Mh.popB {a b out : Array Keyed} {na nb : Nat} (h : Mh a b out na nb) (hsb : Srt b) (h0 : 0 < nb) (hi : nb - 1 < b.size) (hc : 0 < na → K a (na - 1) ≤ K b (nb - 1)) : Mh a b (out.push b[nb - 1]) na (nb - 1) :=
  Mh.pushB (i := nb - 1) (by rw [show nb - 1 + 1 = nb by omega]; exact h) hsb hi hc
theorem Mh.cutA {a b out : Array Keyed} {na nb at_ : Nat} (h : Mh a b out na nb) (hsa : Srt a) (ht : at_ ≤ na) (hc : ∀ i, at_ ≤ i → i < na → 0 < nb → K b (nb - 1) ≤ K a i) : Mh a b (out ++ (a.extract at_ na).reverse) at_ nb := by
  have h1 := Mh.chunkA (nb := nb) hsa (na - at_) at_ (out := out) (by rw [show at_ + (na - at_) = na by omega]; exact h) (by rw [show at_ + (na - at_) = na by omega]; exact hc)
  rw [show at_ + (na - at_) = na by omega] at h1
  exact h1
theorem Mh.cutB {a b out : Array Keyed} {na nb at_ : Nat} (h : Mh a b out na nb) (hsb : Srt b) (ht : at_ ≤ nb) (hc : ∀ i, at_ ≤ i → i < nb → 0 < na → K a (na - 1) ≤ K b i) : Mh a b (out ++ (b.extract at_ nb).reverse) na at_ := by
  have h1 := Mh.chunkB (na := na) hsb (nb - at_) at_ (out := out) (by rw [show at_ + (nb - at_) = nb by omega]; exact h) (by rw [show at_ + (nb - at_) = nb by omega]; exact hc)
  rw [show at_ + (nb - at_) = nb by omega] at h1
  exact h1
section
variable {prog : Program} {w : World} {A : Around} {E : Value → Shared → Prop} {s : Shared} {st : SortSt} {a b : Array Keyed}
theorem wpS_mergeHi {Q : Array Keyed → SortSt → Prop} (hk : kindOf st = oneType') (hIa : Ints a) (hIb : Ints b) (hsa : Srt a) (hsb : Srt b) (ha : 0 < a.size) (hb : 0 < b.size)
    (h1 : ∀ i, i < a.size → K b 0 ≤ K a i) (h2 : K b (b.size - 1) ≤ K a (a.size - 1))
    (h : ∀ r st', Same st st' → Merged a b r → Q r st') : wpS (model prog w) A E s (mergeHi' a b) Q st := by
  delta mergeHi'
  with_unfolding_all refine wpS_bind (wpS_lift (wpAny_rule ⟨rfl, ?_⟩))
  dsimp only
  have hal : a.size - 1 < a.size := by omega
  refine wpS_bind (wpS_elem hal ?_)
  have M0 : Mh a b #[a[a.size - 1]] (a.size - 1) b.size := by
    have m : Mh a b #[] a.size b.size := ⟨Nat.le_refl _, Nat.le_refl _, by simp, by simp, fun x hx => by simp at hx, fun x hx => by simp at hx⟩
    exact m.popA hsa ha hal fun _ => h2
  by_cases ha1 : (a.size - 1 == 0) = true
  · rw [if_pos ha1]
    exact wpS_pure (h _ _ Same.rfl' (M0.doneA hsb (by simpa using ha1)))
  rw [if_neg ha1]
  by_cases hb1 : (b.size == 1) = true
  · rw [if_pos hb1]
    exact wpS_pure (h _ _ Same.rfl' (M0.first hsa hsb (by simpa using hb1) h1))
  rw [if_neg hb1]
  simp only [beq_iff_eq] at ha1 hb1
  refine wpS_bind (wpS_get ?_)
  refine wpS_bind (wpS_mono (wpS_forRange
    (I := fun x c st' => ∃ na nb out g, c = (none, na, nb, out, g) ∧ Same st st' ∧ Inh a b out na nb (x + 1))
    (Q := fun c st' => ∃ r rest, c = (some r, rest) ∧ Same st st' ∧ Merged a b r) ?step ?fin ?init) ?post)
  case init => exact ⟨_, _, _, _, rfl, Same.rfl', M0, by omega, by omega, by simp⟩
  case fin =>
    rintro c st' ⟨na, nb, out, g, rfl, hS, hM, q1, q2, q3⟩
    have := hM.size
    have := hM.ha
    have := hM.hb
    omega
  case post =>
    rintro c st' ⟨r, rest, rfl, hS, hM⟩
    exact wpS_pure (h _ _ hS hM)
  case step =>
    rintro x c st' _ hx ⟨na, nb, out, g, rfl, hS, hIn⟩
    have hk' : kindOf st' = oneType' := hS.2.1.trans hk
    dsimp only
    refine wpS_bind (wpS_mono (wpS_forRange
      (I := fun y c st'' => ∃ na' nb' out' ac bc, c = (none, na', nb', out', ac, bc) ∧ st'' = st' ∧ Inh a b out' na' nb' (x + 1 + y))
      (Q := fun c st'' => (∃ r rest, c = (some r, rest) ∧ st'' = st' ∧ Merged a b r) ∨ (∃ na' nb' out' ac bc, c = (none, na', nb', out', ac, bc) ∧ st'' = st' ∧ Inh a b out' na' nb' (x + 2))) ?step1 ?fin1 ?init1) ?post1)
    case init1 => exact ⟨_, _, _, _, _, rfl, rfl, hIn⟩
    case fin1 =>
      rintro c st'' ⟨na', nb', out', ac, bc, rfl, rfl, hM, q1, q2, q3⟩
      exact .inr ⟨_, _, _, _, _, rfl, rfl, hM, q1, q2, by omega⟩
    case step1 =>
      rintro y c st'' _ hy ⟨na', nb', out', ac, bc, rfl, rfl, hM, q1, q2, q3⟩
      dsimp only
      have hsA := hM.ha
      have hsB := hM.hb
      have qa : na' - 1 < a.size := by omega
      have qb : nb' - 1 < b.size := by omega
      refine wpS_bind (wpS_elem qb ?_)
      refine wpS_bind (wpS_elem qa ?_)
      refine wpS_bind (wpS_lt hk' (hIb.at qb) (hIa.at qa) ?_)
      dsimp only
      by_cases hlt : kv b[nb' - 1] < kv a[na' - 1]
      · simp only [hlt, decide_true, if_true]
        refine wpS_bind (wpS_elem qa ?_)
        have M1 := hM.popA hsa q1 qa fun _ => by rw [K_get qb, K_get qa]; omega
        by_cases e : (na' - 1 == 0) = true
        · rw [if_pos e]
          exact wpS_pure (.inl ⟨_, _, rfl, rfl, M1.doneA hsb (by simpa using e)⟩)
        · rw [if_neg e]
          simp only [beq_iff_eq] at e
          split
          · exact wpS_pure (.inr ⟨_, _, _, _, _, rfl, rfl, M1, by omega, q2, by simp; omega⟩)
          · exact wpS_pure ⟨_, _, _, _, _, rfl, rfl, M1, by omega, q2, by simp; omega⟩
      · simp only [hlt, decide_false, Bool.false_eq_true, if_false]
        refine wpS_bind (wpS_elem qb ?_)
        have M1 := hM.popB hsb (by omega) qb fun _ => by rw [K_get qb, K_get qa]; omega
        by_cases e : (nb' - 1 == 1) = true
        · rw [if_pos e]
          exact wpS_pure (.inl ⟨_, _, rfl, rfl, M1.first hsa hsb (by simpa using e) h1⟩)
        · rw [if_neg e]
          simp only [beq_iff_eq] at e
          split
          · exact wpS_pure (.inr ⟨_, _, _, _, _, rfl, rfl, M1, q1, by omega, by simp; omega⟩)
          · exact wpS_pure ⟨_, _, _, _, _, rfl, rfl, M1, q1, by omega, by simp; omega⟩
    case post1 =>
      rintro c st'' (⟨r, rest, rfl, rfl, hM⟩ | ⟨na', nb', out', ac, bc, rfl, rfl, hIn'⟩)
      · exact wpS_pure ⟨_, _, rfl, hS, hM⟩
      dsimp only
      refine wpS_bind (wpS_lift (wpAny_rule ⟨rfl, ?_⟩))
      refine wpS_bind (wpS_mono (wpS_forRange
        (I := fun y c st3 => ∃ na' nb' out' g ac bc, c = (none, na', nb', out', g, ac, bc) ∧ Same st st3 ∧ Inh a b out' na' nb' (x + 2))
        (Q := fun c st3 => (∃ r rest, c = (some r, rest) ∧ Same st st3 ∧ Merged a b r) ∨ (∃ na' nb' out' g ac bc, c = (none, na', nb', out', g, ac, bc) ∧ Same st st3 ∧ Inh a b out' na' nb' (x + 2))) ?step2 ?fin2 ?init2) ?post2)
      case init2 => exact ⟨_, _, _, _, _, _, rfl, hS, hIn'⟩
      case fin2 =>
        rintro c st3 hI
        exact .inr hI
      case post2 =>
        rintro c st3 (⟨r, rest, rfl, hS3, hM⟩ | ⟨na3, nb3, out3, g3, ac3, bc3, rfl, hS3, hIn3⟩)
        · exact wpS_pure ⟨_, _, rfl, hS3, hM⟩
        · refine wpS_bind (wpS_setMin fun st4 hS4 => ?_)
          exact wpS_pure ⟨_, _, _, _, rfl, hS3.trans hS4, hIn3⟩
      case step2 =>
        clear hIn' hIn out' na' nb' ac bc
        rintro y c st3 _ hy ⟨na', nb', out', g3, ac, bc, rfl, hS3, hM, q1, q2, q3⟩
        dsimp only
        have hsA := hM.ha
        have hsB := hM.hb
        have qa : na' - 1 < a.size := by omega
        have qb : nb' - 1 < b.size := by omega
        by_cases hg : g3 > 1
        case' pos => rw [if_pos hg]
        case' neg => rw [if_neg hg]
        all_goals (
          refine wpS_bind (wpS_setMin fun st4 hS4 => ?_)
          have hS5 := hS3.trans hS4
          have hk5 : kindOf st4 = oneType' := hS5.2.1.trans hk
          refine wpS_bind (wpS_elem qb ?_)
          refine wpS_bind (wpS_gallopR hk5 hIa hsa (hIb.at qb) (by omega) (by omega) fun k hk1 hk2 hk3 => ?_)
          dsimp only
          simp only [Nat.zero_add] at hk2 hk3
          have MA := hM.cutA hsa hk1 fun i hi hi2 _ => by rw [K_get qb]; exact Int.le_of_lt (hk3 i hi hi2)
          have step3 : ∀ (out'' : Array Keyed) (na'' : Nat), Mh a b out'' na'' nb' → na'' = k → x + 2 ≤ out''.size → Mh a b (out''.push b[nb' - 1]) na'' (nb' - 1) ∧ x + 2 ≤ (out''.push b[nb' - 1]).size := by
            rintro out'' na'' hM2 rfl hsz
            refine ⟨hM2.popB hsb (by omega) qb fun h0 => ?_, ?_⟩
            · have := hk2 (na'' - 1) (by omega)
              rw [K_get qb]; exact this
            · simp; omega
          by_cases hkp : na' - k > 0
          case' pos =>
            rw [if_pos hkp]
            by_cases e : (k == 0) = true
            · rw [if_pos e]
              exact wpS_pure (.inl ⟨_, _, rfl, hS5, MA.doneA hsb (by simpa using e)⟩)
            rw [if_neg e]
            simp only [beq_iff_eq] at e
            have e' : 0 < k := by omega
            obtain ⟨MB, q5⟩ := step3 _ _ MA rfl (by simp; omega)
          case' neg =>
            rw [if_neg hkp]
            have e' : 0 < na' := q1
            obtain ⟨MB, q5⟩ := step3 out' na' hM (by omega) q3
          all_goals (
            have hsA2 := MB.ha
            refine wpS_bind (wpS_elem qb ?_)
            by_cases e6 : (nb' - 1 == 1) = true
            · rw [if_pos e6]
              exact wpS_pure (.inl ⟨_, _, rfl, hS5, MB.first hsa hsb (by simpa using e6) h1⟩)
            rw [if_neg e6]
            simp only [beq_iff_eq] at e6
            refine wpS_bind (wpS_elem (by omega) ?_)
            refine wpS_bind (wpS_gallopL hk5 hIb hsb (hIa.at (by omega)) (by omega) (by omega) fun k2 hj1 hj2 hj3 => ?_)
            dsimp only
            simp only [Nat.zero_add] at hj2 hj3
            have MC := MB.cutB hsb hj1 fun i hi hi2 h0 => by rw [K_get (by omega)]; exact hj3 i hi hi2
            by_cases hkq : nb' - 1 - k2 > 0
            case' pos =>
              rw [if_pos hkq]
              by_cases e7 : (k2 == 1) = true
              · rw [if_pos e7]
                exact wpS_pure (.inl ⟨_, _, rfl, hS5, MC.first hsa hsb (by simpa using e7) h1⟩)
              rw [if_neg e7]
              by_cases e9 : (k2 == 0) = true
              · rw [if_pos e9]
                exact wpS_pure (.inl ⟨_, _, rfl, hS5, MC.doneB hsa (by simpa using e9)⟩)
              rw [if_neg e9]
              simp only [beq_iff_eq] at e7 e9
              have q7 : 1 < k2 := by omega
            case' neg =>
              rw [if_neg hkq]
              have q7 : 1 < nb' - 1 := by omega
              have hk20 : k2 = nb' - 1 := by omega
              replace MC := MB
            all_goals (
              refine wpS_bind (wpS_elem (by omega) ?_)
              have MD := MC.popA hsa e' (by omega) fun hb' => by
                rw [K_get (by omega : _ - 1 < a.size)]
                exact Int.le_of_lt (hj2 _ (by omega))
              split
              · rename_i e8
                exact wpS_pure (.inl ⟨_, _, rfl, hS5, MD.doneA hsb (by simpa using e8)⟩)
              rename_i e8
              simp only [beq_iff_eq] at e8
              split
              · exact wpS_pure (.inr ⟨_, _, _, _, _, _, rfl, hS5, MD, by omega, q7, by simp at q5 ⊢; omega⟩)
              · exact wpS_pure ⟨_, _, _, _, _, _, rfl, hS5, MD, by omega, q7, by simp at q5 ⊢; omega⟩)))
end
end
section
open PySem PyProof.Rows
structure SB (b₀ : Array Keyed) (lo : Nat) (pend : Array (Nat × Nat × Nat)) (st : SortSt) : Prop where
  perm : (arrOf st).Perm b₀
  pre : ∀ i, i < lo → (arrOf st)[i]? = b₀[i]?
  kind : kindOf st = oneType'
  failed : failedOf st = none
  pend : pendingOf st = pend
theorem SB.size {b₀ : Array Keyed} {lo : Nat} {pend : Array (Nat × Nat × Nat)} {st : SortSt} (h : SB b₀ lo pend st) : (arrOf st).size = b₀.size := h.perm.size_eq
theorem SB.ints {b₀ : Array Keyed} {lo : Nat} {pend : Array (Nat × Nat × Nat)} {st : SortSt} (h : SB b₀ lo pend st) (h0 : Ints b₀) : Ints (arrOf st) := fun x hx => h0 x ((Array.perm_iff_toList_perm.mp h.perm).mem_iff.mp hx)
theorem SB.setArr {b₀ : Array Keyed} {lo : Nat} {pend : Array (Nat × Nat × Nat)} {st : SortSt} (h : SB b₀ lo pend st) {xs : Array Keyed} (hp : xs.Perm (arrOf st)) (hq : ∀ i, i < lo → xs[i]? = (arrOf st)[i]?) : SB b₀ lo pend (setArr st xs) :=
  ⟨hp.trans h.perm, fun i hi => (hq i hi).trans (h.pre i hi), h.kind, h.failed, h.pend⟩
def IncF (xs : Array Keyed) (lo k : Nat) : Prop := ∀ i j, i ≤ j → j < k → K xs (lo + i) ≤ K xs (lo + j)
def DecF (xs : Array Keyed) (lo k : Nat) : Prop := ∀ i j, i ≤ j → j < k → K xs (lo + j) ≤ K xs (lo + i)

section
variable {prog : Program} {w : World} {A : Around} {E : Value → Shared → Prop} {s : Shared} {b₀ : Array Keyed} {lo : Nat} {pend : Array (Nat × Nat × Nat)} {st : SortSt}
theorem wpS_ltI {i j : Nat} {Q : Option Bool → SortSt → Prop} (hB : SB b₀ lo pend st) (h0 : Ints b₀) (hi : i < b₀.size) (hj : j < b₀.size)
    (h : Q (some (decide (K (arrOf st) i < K (arrOf st) j))) st) : wpS (model prog w) A E s (ltAt' i j) Q st := by
  have hs := hB.size
  have hi' : i < (arrOf st).size := by omega
  have hj' : j < (arrOf st).size := by omega
  rw [ltAt'_eq]
  refine wpS_bind (wpS_get ?_)
  refine wpS_bind (wpS_elem hi' ?_)
  refine wpS_bind (wpS_elem hj' ?_)
  rw [K_get hi', K_get hj'] at h
  exact wpS_lt hB.kind ((hB.ints h0).at hi') ((hB.ints h0).at hj') h
theorem SB.mirror {i j : Nat} (hB : SB b₀ lo pend st) (hi : lo ≤ i) (hj : j ≤ b₀.size) : SB b₀ lo pend (PyProof.Rows.setArr st (PyProof.Rows.mirror (arrOf st) i j ((j - i) / 2))) := by
  refine hB.setArr (mirror_perm _ _ _ _) fun k hk => ?_
  rw [getElem?_mirror_all (by rw [hB.size]; exact hj), if_neg (by omega)]
/-- a climb, of whatever body that climbs -/
theorem wpS_climb {body : Nat → Option (Option Nat) × Nat → StateT SortSt Sem (ForInStep (Option (Option Nat) × Nat))} {a nrem : Nat} {Q : Option (Option Nat) × Nat → SortSt → Prop} (ha : 1 ≤ a) (han : a ≤ nrem)
    (hb : ∀ x (Q' : ForInStep (Option (Option Nat) × Nat) → SortSt → Prop), a ≤ x → x < nrem → (K (arrOf st) (lo + x) < K (arrOf st) (lo + x - 1) → Q' (.done (none, x)) st) → (¬ K (arrOf st) (lo + x) < K (arrOf st) (lo + x - 1) → Q' (.yield (none, x + 1)) st) → wpS (model prog w) A E s (body x (none, x)) Q' st)
    (hs : IncF (arrOf st) lo a)
    (h : ∀ n, a ≤ n → n ≤ nrem → IncF (arrOf st) lo n → (n = nrem ∨ K (arrOf st) (lo + n) < K (arrOf st) (lo + n - 1)) → Q (none, n) st) :
    wpS (model prog w) A E s (forIn [a:nrem] (none, a) body) Q st := by
  refine (wpS_mono (wpS_forRange (I := fun x c st' => st' = st ∧ c = (none, x) ∧ IncF (arrOf st) lo x)
    (Q := fun c st' => st' = st ∧ ∃ n, c = (none, n) ∧ a ≤ n ∧ n ≤ nrem ∧ IncF (arrOf st) lo n ∧ (n = nrem ∨ K (arrOf st) (lo + n) < K (arrOf st) (lo + n - 1))) ?step ?fin ⟨rfl, rfl, hs⟩) ?post)
  case post =>
    rintro c st' ⟨rfl, n, rfl, h1, h2, h3, h4⟩
    exact h n h1 h2 h3 h4
  case fin =>
    rintro c st' ⟨rfl, rfl, hs'⟩
    rw [show max a nrem = nrem by omega] at hs' ⊢
    exact ⟨rfl, nrem, rfl, han, Nat.le_refl _, hs', .inl rfl⟩
  case step =>
    rintro x c st' hax hxn ⟨rfl, rfl, hs'⟩
    refine hb x _ hax hxn ?_ ?_
    · intro hless
      exact ⟨rfl, x, rfl, hax, by omega, hs', .inr hless⟩
    · intro hless
      refine ⟨rfl, rfl, fun i j hij hj => ?_⟩
      by_cases hjx : j < x
      · exact hs' i j hij hjx
      · have hj' : j = x := by omega
        subst hj'
        by_cases hi' : i = j
        · subst hi'; exact Int.le_refl _
        · have h8 := hs' i (j - 1) (by omega) (by omega)
          rw [show lo + (j - 1) = lo + j - 1 by omega] at h8
          omega
theorem DecF.mirror {n : Nat} (hsz : lo + n ≤ (arrOf st).size) (hs : DecF (arrOf st) lo n) : IncF (PyProof.Rows.mirror (arrOf st) lo (lo + n) ((lo + n - lo) / 2)) lo n := by
  intro i j hij hj
  rw [K_mirror hsz, K_mirror hsz, if_pos (by omega), if_pos (by omega)]
  have h8 := hs (n - 1 - j) (n - 1 - i) (by omega) (by omega)
  rw [show lo + (n - 1 - i) = lo + (lo + n) - 1 - (lo + i) by omega, show lo + (n - 1 - j) = lo + (lo + n) - 1 - (lo + j) by omega] at h8
  exact h8
/-- what a fall keeps: m items that fall, the last neq + 1 of them alike -/
structure Fell (b₀ : Array Keyed) (lo : Nat) (pend : Array (Nat × Nat × Nat)) (m neq : Nat) (st : SortSt) : Prop where
  sb : SB b₀ lo pend st
  dec : DecF (arrOf st) lo m
  le : neq + 1 ≤ m
  eq : ∀ i, lo + m - (neq + 1) ≤ i → i < lo + m → K (arrOf st) i = K (arrOf st) (lo + m - 1)
theorem wpS_fall {body : Nat → Option (Option Nat) × Nat × Nat → StateT SortSt Sem (ForInStep (Option (Option Nat) × Nat × Nat))} {n nrem : Nat} {Q : Option (Option Nat) × Nat × Nat → SortSt → Prop} (hn : lo + nrem ≤ b₀.size) (hnn : n + 1 ≤ nrem) (hB : SB b₀ lo pend st)
    (hb : ∀ x neq st' (Q' : ForInStep (Option (Option Nat) × Nat × Nat) → SortSt → Prop), SB b₀ lo pend st' → n + 1 ≤ x → x < nrem → neq + 1 ≤ x →
      (K (arrOf st') (lo + x) < K (arrOf st') (lo + x - 1) → 0 < neq → Q' (.yield (none, x + 1, 0)) (PyProof.Rows.setArr st' (PyProof.Rows.mirror (arrOf st') (lo + x - (neq + 1)) (lo + x) ((lo + x - (lo + x - (neq + 1))) / 2)))) →
      (K (arrOf st') (lo + x) < K (arrOf st') (lo + x - 1) → neq = 0 → Q' (.yield (none, x + 1, 0)) st') →
      (K (arrOf st') (lo + x - 1) < K (arrOf st') (lo + x) → Q' (.done (none, x, neq)) st') →
      (K (arrOf st') (lo + x) = K (arrOf st') (lo + x - 1) → Q' (.yield (none, x + 1, neq + 1)) st') → wpS (model prog w) A E s (body x (none, x, neq)) Q' st')
    (hs : DecF (arrOf st) lo (n + 1)) (h : ∀ m neq st', n + 1 ≤ m → m ≤ nrem → Fell b₀ lo pend m neq st' → Q (none, m, neq) st') :
    wpS (model prog w) A E s (forIn [n + 1:nrem] (none, n + 1, 0) body) Q st := by
  refine (wpS_mono (wpS_forRange
    (I := fun x c st' => ∃ neq, c = (none, x, neq) ∧ Fell b₀ lo pend x neq st')
    (Q := fun c st' => ∃ m neq, c = (none, m, neq) ∧ n + 1 ≤ m ∧ m ≤ nrem ∧ Fell b₀ lo pend m neq st') ?step ?fin ?init) ?post)
  case init => exact ⟨0, rfl, hB, hs, by omega, fun i h1 h2 => by congr 1; omega⟩
  case fin =>
    rintro c st' ⟨neq, rfl, hF⟩
    rw [show max (n + 1) nrem = nrem by omega] at hF ⊢
    exact ⟨nrem, neq, rfl, hnn, Nat.le_refl _, hF⟩
  case post =>
    rintro c st' ⟨m, neq, rfl, h1, h2, h3⟩
    exact h m neq st' h1 h2 h3
  case step =>
    rintro x c st' hax hxn ⟨neq, rfl, hB', hs', hq, he⟩
    have hsz : lo + x ≤ (arrOf st').size := by rw [hB'.size]; omega
    have step1 : K (arrOf st') (lo + x) < K (arrOf st') (lo + x - 1) → ∀ xs : Array Keyed, (∀ k, K xs k = K (arrOf st') k) → DecF xs lo (x + 1) := by
      intro hless xs hk i j hij hj
      rw [hk, hk]
      by_cases hjx : j < x
      · exact hs' i j hij hjx
      · have hj' : j = x := by omega
        subst hj'
        by_cases hi' : i = j
        · subst hi'; exact Int.le_refl _
        · have h8 := hs' i (j - 1) (by omega) (by omega)
          rw [show lo + (j - 1) = lo + j - 1 by omega] at h8
          omega
    refine hb x neq st' _ hB' hax hxn hq ?_ ?_ ?_ ?_
    · intro hless hneq
      exact ⟨0, rfl, hB'.mirror (by omega) (by omega), step1 hless _ (K_mirror_equal hsz he), by omega, fun i h1 h2 => by congr 1; omega⟩
    · intro hless hneq
      exact ⟨0, rfl, hB', step1 hless _ (fun _ => rfl), by omega, fun i h1 h2 => by congr 1; omega⟩
    · intro hlarger
      exact ⟨x, neq, rfl, hax, by omega, hB', hs', hq, he⟩
    · intro heqx
      refine ⟨neq + 1, rfl, hB', fun i j hij hj => ?_, by omega, fun i h1 h2 => ?_⟩
      · by_cases hjx : j < x
        · exact hs' i j hij hjx
        · have hj' : j = x := by omega
          subst hj'
          by_cases hi' : i = j
          · subst hi'; exact Int.le_refl _
          · have h8 := hs' i (j - 1) (by omega) (by omega)
            rw [show lo + (j - 1) = lo + j - 1 by omega] at h8
            omega
      · rw [show lo + (x + 1) - 1 = lo + x by omega]
        by_cases hix : i = lo + x
        · subst hix; rfl
        · rw [heqx]; exact he i (by omega) (by omega)
theorem wpS_count {nrem : Nat} {Q : Option Nat → SortSt → Prop} (h0 : Ints b₀) (hn : lo + nrem ≤ b₀.size) (h1 : 1 ≤ nrem) (hB : SB b₀ lo pend st)
    (h : ∀ m st', SB b₀ lo pend st' → 1 ≤ m → m ≤ nrem → IncF (arrOf st') lo m → Q (some m) st') :
    wpS (model prog w) A E s (countRun' lo nrem) Q st := by
  rw [countRun'_eq]
  dsimp only
  have hI0 : IncF (arrOf st) lo 1 := by
    intro i j hij hj
    have : i = j := by omega
    subst this; exact Int.le_refl _
  refine wpS_bind (wpS_climb (Nat.le_refl 1) h1 (fun x Q' x1 x2 b1 b2 => ?climb0) hI0 fun n hn1 hn2 hsn hor => ?rest0)
  case climb0 =>
    dsimp only
    refine wpS_bind (wpS_ltI hB h0 (by omega) (by omega) ?_)
    by_cases hless : K (arrOf st) (lo + x) < K (arrOf st) (lo + x - 1)
    · simp only [hless, decide_true, if_true]
      exact wpS_pure (b1 hless)
    · simp only [hless, decide_false, Bool.false_eq_true, if_false]
      exact wpS_pure (b2 hless)
  case rest0 =>
    dsimp only
    by_cases hnn : n = nrem
    · rw [if_pos (by simpa using hnn)]
      exact wpS_pure (h n st hB hn1 hn2 hsn)
    · rw [if_neg (by simpa using hnn)]
      have hlt : K (arrOf st) (lo + n) < K (arrOf st) (lo + n - 1) := hor.resolve_left hnn
      by_cases hgt : n > 1
      · rw [if_pos hgt]
        refine wpS_bind (wpS_ltI hB h0 (by omega) (by omega) ?_)
        by_cases hrose : K (arrOf st) lo < K (arrOf st) (lo + n - 1)
        · simp only [hrose, decide_true, if_true]
          exact wpS_pure (h n st hB hn1 hn2 hsn)
        · simp only [hrose, decide_false, Bool.false_eq_true, if_false]
          have hsz : lo + n ≤ (arrOf st).size := by rw [hB.size]; omega
          have hall : ∀ k, lo ≤ k → k < lo + n → K (arrOf st) k = K (arrOf st) (lo + n - 1) := by
            intro k hk1 hk
            have a1 := hsn 0 (k - lo) (by omega) (by omega)
            have a2 := hsn (k - lo) (n - 1) (by omega) (by omega)
            rw [show lo + (k - lo) = k by omega] at a1 a2
            rw [show lo + (n - 1) = lo + n - 1 by omega] at a2
            rw [Nat.add_zero] at a1
            omega
          refine wpS_bind (wpS_reverse ?_)
          have hB2 := hB.mirror (i := lo) (j := lo + n) (by omega) (by omega)
          have hD2 : DecF (PyProof.Rows.mirror (arrOf st) lo (lo + n) ((lo + n - lo) / 2)) lo (n + 1) := by
            intro i j hij hj
            rw [K_mirror_equal hsz hall, K_mirror_equal hsz hall]
            by_cases hjn : j < n
            · rw [hall (lo + i) (by omega) (by omega), hall (lo + j) (by omega) (by omega)]; exact Int.le_refl _
            · have hj' : j = n := by omega
              subst hj'
              by_cases hi' : i = j
              · subst hi'; exact Int.le_refl _
              · rw [hall (lo + i) (by omega) (by omega)]; exact Int.le_of_lt hlt
          revert hB2
          generalize hst2 : PyProof.Rows.setArr st (PyProof.Rows.mirror (arrOf st) lo (lo + n) ((lo + n - lo) / 2)) = st2
          intro hB2
          replace hD2 : DecF (arrOf st2) lo (n + 1) := by rw [← hst2]; exact hD2
          refine wpS_bind (wpS_lift (wpAny_rule ⟨rfl, ?_⟩))
          refine wpS_bind (wpS_fall hn (by omega) hB2 (fun x neq st3 Q' hB3 x1 x2 x3 b1 b2 b3 b4 => ?fall) hD2 fun m neq st3 hm1 hm2 hF3 => ?rest)
          case fall =>
            dsimp only
            refine wpS_bind (wpS_ltI hB3 h0 (by omega) (by omega) ?_)
            by_cases hless : K (arrOf st3) (lo + x) < K (arrOf st3) (lo + x - 1)
            · simp only [hless, decide_true, if_true]
              by_cases hneq : neq > 0
              · rw [if_pos hneq]
                exact wpS_bind (wpS_reverse (wpS_pure (b1 hless hneq)))
              · rw [if_neg hneq]
                exact wpS_pure (b2 hless (by omega))
            · simp only [hless, decide_false, Bool.false_eq_true, if_false]
              refine wpS_bind (wpS_ltI hB3 h0 (by omega) (by omega) ?_)
              by_cases hlarger : K (arrOf st3) (lo + x - 1) < K (arrOf st3) (lo + x)
              · simp only [hlarger, decide_true, if_true]
                exact wpS_pure (b3 hlarger)
              · simp only [hlarger, decide_false, Bool.false_eq_true, if_false]
                exact wpS_pure (b4 (by omega))
          case rest =>
            obtain ⟨hB3, hD3, hq3, he3⟩ := hF3
            dsimp only
            have hsz3 : lo + m ≤ (arrOf st3).size := by rw [hB3.size]; omega
            by_cases hneq : neq > 0
            · rw [if_pos hneq]
              refine wpS_bind (wpS_reverse ?_)
              have hB4 := hB3.mirror (i := lo + m - (neq + 1)) (j := lo + m) (by omega) (by omega)
              have hD4 : DecF (PyProof.Rows.mirror (arrOf st3) (lo + m - (neq + 1)) (lo + m) ((lo + m - (lo + m - (neq + 1))) / 2)) lo m := by
                intro i j hij hj
                rw [K_mirror_equal hsz3 he3, K_mirror_equal hsz3 he3]
                exact hD3 i j hij hj
              revert hB4
              generalize hst4 : PyProof.Rows.setArr st3 (PyProof.Rows.mirror (arrOf st3) (lo + m - (neq + 1)) (lo + m) ((lo + m - (lo + m - (neq + 1))) / 2)) = st4
              intro hB4
              replace hD4 : DecF (arrOf st4) lo m := by rw [← hst4]; exact hD4
              have hsz4 : lo + m ≤ (arrOf st4).size := by rw [hB4.size]; omega
              refine wpS_bind (wpS_reverse ?_)
              have hB5 := hB4.mirror (i := lo) (j := lo + m) (Nat.le_refl _) (by omega)
              have hI5 := hD4.mirror hsz4
              revert hB5
              generalize hst5 : PyProof.Rows.setArr st4 (PyProof.Rows.mirror (arrOf st4) lo (lo + m) ((lo + m - lo) / 2)) = st5
              intro hB5
              replace hI5 : IncF (arrOf st5) lo m := by rw [← hst5]; exact hI5
              refine wpS_bind (wpS_climb (by omega) hm2 (fun x Q' x1 x2 b1 b2 => ?climb) hI5 fun k k1 k2 k3 _ => wpS_pure (h k _ hB5 (by omega) k2 k3))
              case climb =>
                dsimp only
                refine wpS_bind (wpS_ltI hB5 h0 (by omega) (by omega) ?_)
                by_cases hless : K (arrOf st5) (lo + x) < K (arrOf st5) (lo + x - 1)
                · simp only [hless, decide_true, if_true]
                  exact wpS_pure (b1 hless)
                · simp only [hless, decide_false, Bool.false_eq_true, if_false]
                  exact wpS_pure (b2 hless)
            · rw [if_neg hneq]
              have hB4 := hB3
              have hD4 := hD3
              have hsz4 : lo + m ≤ (arrOf st3).size := by rw [hB4.size]; omega
              refine wpS_bind (wpS_reverse ?_)
              have hB5 := hB4.mirror (i := lo) (j := lo + m) (Nat.le_refl _) (by omega)
              have hI5 := hD4.mirror hsz4
              revert hB5
              generalize hst5 : PyProof.Rows.setArr st3 (PyProof.Rows.mirror (arrOf st3) lo (lo + m) ((lo + m - lo) / 2)) = st5
              intro hB5
              replace hI5 : IncF (arrOf st5) lo m := by rw [← hst5]; exact hI5
              refine wpS_bind (wpS_climb (by omega) hm2 (fun x Q' x1 x2 b1 b2 => ?climb) hI5 fun k k1 k2 k3 _ => wpS_pure (h k _ hB5 (by omega) k2 k3))
              case climb =>
                dsimp only
                refine wpS_bind (wpS_ltI hB5 h0 (by omega) (by omega) ?_)
                by_cases hless : K (arrOf st5) (lo + x) < K (arrOf st5) (lo + x - 1)
                · simp only [hless, decide_true, if_true]
                  exact wpS_pure (b1 hless)
                · simp only [hless, decide_false, Bool.false_eq_true, if_false]
                  exact wpS_pure (b2 hless)
      · rw [if_neg hgt]
        have hn1' : n = 1 := by omega
        subst hn1'
        have hB2 := hB
        have hD2 : DecF (arrOf st) lo (1 + 1) := by
          intro i j hij hj
          by_cases hi' : i = j
          · subst hi'; exact Int.le_refl _
          · have hi0 : i = 0 := by omega
            have hj1 : j = 1 := by omega
            subst hi0; subst hj1
            exact Int.le_of_lt hlt
        refine wpS_bind (wpS_lift (wpAny_rule ⟨rfl, ?_⟩))
        refine wpS_bind (wpS_fall hn (by omega) hB2 (fun x neq st3 Q' hB3 x1 x2 x3 b1 b2 b3 b4 => ?fall) hD2 fun m neq st3 hm1 hm2 hF3 => ?rest)
        case fall =>
          dsimp only
          refine wpS_bind (wpS_ltI hB3 h0 (by omega) (by omega) ?_)
          by_cases hless : K (arrOf st3) (lo + x) < K (arrOf st3) (lo + x - 1)
          · simp only [hless, decide_true, if_true]
            by_cases hneq : neq > 0
            · rw [if_pos hneq]
              exact wpS_bind (wpS_reverse (wpS_pure (b1 hless hneq)))
            · rw [if_neg hneq]
              exact wpS_pure (b2 hless (by omega))
          · simp only [hless, decide_false, Bool.false_eq_true, if_false]
            refine wpS_bind (wpS_ltI hB3 h0 (by omega) (by omega) ?_)
            by_cases hlarger : K (arrOf st3) (lo + x - 1) < K (arrOf st3) (lo + x)
            · simp only [hlarger, decide_true, if_true]
              exact wpS_pure (b3 hlarger)
            · simp only [hlarger, decide_false, Bool.false_eq_true, if_false]
              exact wpS_pure (b4 (by omega))
        case rest =>
          obtain ⟨hB3, hD3, hq3, he3⟩ := hF3
          dsimp only
          have hsz3 : lo + m ≤ (arrOf st3).size := by rw [hB3.size]; omega
          by_cases hneq : neq > 0
          · rw [if_pos hneq]
            refine wpS_bind (wpS_reverse ?_)
            have hB4 := hB3.mirror (i := lo + m - (neq + 1)) (j := lo + m) (by omega) (by omega)
            have hD4 : DecF (PyProof.Rows.mirror (arrOf st3) (lo + m - (neq + 1)) (lo + m) ((lo + m - (lo + m - (neq + 1))) / 2)) lo m := by
              intro i j hij hj
              rw [K_mirror_equal hsz3 he3, K_mirror_equal hsz3 he3]
              exact hD3 i j hij hj
            revert hB4
            generalize hst4 : PyProof.Rows.setArr st3 (PyProof.Rows.mirror (arrOf st3) (lo + m - (neq + 1)) (lo + m) ((lo + m - (lo + m - (neq + 1))) / 2)) = st4
            intro hB4
            replace hD4 : DecF (arrOf st4) lo m := by rw [← hst4]; exact hD4
            have hsz4 : lo + m ≤ (arrOf st4).size := by rw [hB4.size]; omega
            refine wpS_bind (wpS_reverse ?_)
            have hB5 := hB4.mirror (i := lo) (j := lo + m) (Nat.le_refl _) (by omega)
            have hI5 := hD4.mirror hsz4
            revert hB5
            generalize hst5 : PyProof.Rows.setArr st4 (PyProof.Rows.mirror (arrOf st4) lo (lo + m) ((lo + m - lo) / 2)) = st5
            intro hB5
            replace hI5 : IncF (arrOf st5) lo m := by rw [← hst5]; exact hI5
            refine wpS_bind (wpS_climb (by omega) hm2 (fun x Q' x1 x2 b1 b2 => ?climb) hI5 fun k k1 k2 k3 _ => wpS_pure (h k _ hB5 (by omega) k2 k3))
            case climb =>
              dsimp only
              refine wpS_bind (wpS_ltI hB5 h0 (by omega) (by omega) ?_)
              by_cases hless : K (arrOf st5) (lo + x) < K (arrOf st5) (lo + x - 1)
              · simp only [hless, decide_true, if_true]
                exact wpS_pure (b1 hless)
              · simp only [hless, decide_false, Bool.false_eq_true, if_false]
                exact wpS_pure (b2 hless)
          · rw [if_neg hneq]
            have hB4 := hB3
            have hD4 := hD3
            have hsz4 : lo + m ≤ (arrOf st3).size := by rw [hB4.size]; omega
            refine wpS_bind (wpS_reverse ?_)
            have hB5 := hB4.mirror (i := lo) (j := lo + m) (Nat.le_refl _) (by omega)
            have hI5 := hD4.mirror hsz4
            revert hB5
            generalize hst5 : PyProof.Rows.setArr st3 (PyProof.Rows.mirror (arrOf st3) lo (lo + m) ((lo + m - lo) / 2)) = st5
            intro hB5
            replace hI5 : IncF (arrOf st5) lo m := by rw [← hst5]; exact hI5
            refine wpS_bind (wpS_climb (by omega) hm2 (fun x Q' x1 x2 b1 b2 => ?climb) hI5 fun k k1 k2 k3 _ => wpS_pure (h k _ hB5 (by omega) k2 k3))
            case climb =>
              dsimp only
              refine wpS_bind (wpS_ltI hB5 h0 (by omega) (by omega) ?_)
              by_cases hless : K (arrOf st5) (lo + x) < K (arrOf st5) (lo + x - 1)
              · simp only [hless, decide_true, if_true]
                exact wpS_pure (b1 hless)
              · simp only [hless, decide_false, Bool.false_eq_true, if_false]
                exact wpS_pure (b2 hless)
theorem wpS_binary {n ok : Nat} {Q : Bool → SortSt → Prop} (h0 : Ints b₀) (hn : lo + n ≤ b₀.size) (hok : ok ≤ n) (hB : SB b₀ lo pend st) (hs : IncF (arrOf st) lo ok)
    (h : ∀ st', SB b₀ lo pend st' → IncF (arrOf st') lo n → Q true st') : wpS (model prog w) A E s (binarySort' lo n ok) Q st := by
  rw [binarySort'_eq]
  refine wpS_bind (wpS_mono (wpS_forRange (I := fun k c st' => c = (none, ()) ∧ SB b₀ lo pend st' ∧ IncF (arrOf st') lo (min k n))
    (Q := fun c st' => c = (none, ()) ∧ SB b₀ lo pend st' ∧ IncF (arrOf st') lo n) ?step ?fin ?init) ?post)
  case post =>
    rintro c st' ⟨rfl, hB', hs'⟩
    exact wpS_pure (h st' hB' hs')
  case init =>
    refine ⟨rfl, hB, fun i j hij hj => ?_⟩
    by_cases h1 : ok = 0
    · have : i = j := by omega
      subst this; exact Int.le_refl _
    · exact hs i j hij (by omega)
  case fin =>
    rintro c st' ⟨hc, hB', hs'⟩
    refine ⟨hc, hB', ?_⟩
    rwa [show min (max (max ok 1) n) n = n by omega] at hs'
  case step =>
    rintro k c st' hak hkn ⟨rfl, hB', hs'⟩
    rw [show min k n = k by omega] at hs'
    have hk : lo + k < b₀.size := by omega
    refine wpS_bind (wpS_mono (wpS_forRange (I := fun x c st'' => st'' = st' ∧ ∃ l r, c = (none, l, r) ∧ l ≤ r ∧ r ≤ k ∧ r - l ≤ k - x ∧
        (∀ i, i < l → K (arrOf st') (lo + i) ≤ K (arrOf st') (lo + k)) ∧ (∀ i, r ≤ i → i < k → K (arrOf st') (lo + k) < K (arrOf st') (lo + i)))
      (Q := fun c st'' => st'' = st' ∧ ∃ l r, c = (none, l, r) ∧ l ≤ k ∧
        (∀ i, i < l → K (arrOf st') (lo + i) ≤ K (arrOf st') (lo + k)) ∧ (∀ i, l ≤ i → i < k → K (arrOf st') (lo + k) < K (arrOf st') (lo + i))) ?istep ?ifin ?iinit) ?ipost)
    case iinit => exact ⟨rfl, 0, k, rfl, by omega, by omega, by omega, fun i hi => by omega, fun i h1 h2 => by omega⟩
    case ifin =>
      rintro c st'' ⟨rfl, l, r, rfl, hlr, hrk, hm, hlo, hhi⟩
      have : l = r := by omega
      subst this
      exact ⟨rfl, l, l, rfl, hrk, hlo, hhi⟩
    case istep =>
      rintro x c st'' _ hxk ⟨rfl, l, r, rfl, hlr, hrk, hm, hlo, hhi⟩
      dsimp only
      by_cases hge : l ≥ r
      · rw [if_pos hge]
        have : l = r := by omega
        subst this
        exact wpS_pure ⟨rfl, l, l, rfl, hrk, hlo, hhi⟩
      · rw [if_neg hge]
        refine wpS_bind (wpS_ltI hB' h0 hk (by omega) ?_)
        by_cases hless : K (arrOf st'') (lo + k) < K (arrOf st'') (lo + (l + r) / 2)
        · simp only [hless, decide_true, if_true]
          refine wpS_pure ⟨rfl, l, (l + r) / 2, rfl, by omega, by omega, by omega, hlo, fun i h1 h2 => ?_⟩
          exact Int.lt_of_lt_of_le hless (hs' _ _ h1 h2)
        · simp only [hless, decide_false, Bool.false_eq_true, if_false]
          refine wpS_pure ⟨rfl, (l + r) / 2 + 1, r, rfl, by omega, by omega, by omega, fun i h1 => ?_, hhi⟩
          exact Int.le_trans (hs' i ((l + r) / 2) (by omega) (by omega)) (Int.not_lt.mp hless)
    case ipost =>
      rintro c st'' ⟨rfl, l, r, rfl, hlk, hlo, hhi⟩
      show wpS _ _ _ _ (do moveDown' (lo + k) (lo + l); pure (ForInStep.yield (none, ()))) _ _
      rw [moveDown'_eq]
      have hks : lo + k < (arrOf st'').size := by rw [hB'.size]; exact hk
      have ed : lo + k - (lo + l) = k - l := by omega
      rw [ed]
      refine wpS_bind (wpS_modify (wpS_pure ⟨rfl, hB'.setArr (bubble_perm _ _ _) (fun i hi => ?_), ?_⟩))
      · rw [getElem?_bubble hks _ (by omega), if_neg (by omega), if_neg (by omega)]
      rw [show min (k + 1) n = k + 1 by omega]
      intro i j hij hj
      show K (bubble (arrOf st'') (lo + k) (k - l)) (lo + i) ≤ K (bubble (arrOf st'') (lo + k) (k - l)) (lo + j)
      rw [K_bubble hks (by omega), K_bubble hks (by omega), show lo + k - (k - l) = lo + l by omega]
      have hprev : ∀ i j, i ≤ j → j < k → K (arrOf st'') (lo + i) ≤ K (arrOf st'') (lo + j) := hs'
      have em : ∀ i, l < i → lo + i - 1 = lo + (i - 1) := fun i hi => by omega
      by_cases i1 : i = l
      · rw [if_pos (by omega)]
        by_cases j1 : j = l
        · rw [if_pos (by omega)]; exact Int.le_refl _
        · rw [if_neg (by omega), if_pos (by omega), em j (by omega)]
          exact Int.le_of_lt (hhi _ (by omega) (by omega))
      · rw [if_neg (by omega)]
        by_cases i2 : l < i
        · rw [if_pos (by omega), em i i2, if_neg (by omega), if_pos (by omega), em j (by omega)]
          exact hprev _ _ (by omega) (by omega)
        · rw [if_neg (by omega)]
          by_cases j1 : j = l
          · rw [if_pos (by omega)]
            exact hlo _ (by omega)
          · rw [if_neg (by omega)]
            by_cases j2 : l < j
            · rw [if_pos (by omega), em j j2]
              exact hprev _ _ (by omega) (by omega)
            · rw [if_neg (by omega)]
              exact hprev _ _ (by omega) (by omega)
end
end
section
open PySem PyProof.Rows
def writeAt (sa : Nat) (r xs : Array Keyed) : Array Keyed := r.toList.zipIdx.foldl (fun a (p, j) => a.setIfInBounds (sa + j) p) xs
theorem writeAt_get (sa : Nat) : ∀ (l : List Keyed) (j : Nat) (xs : Array Keyed) (i : Nat), ((l.zipIdx j).foldl (fun a (p : Keyed × Nat) => a.setIfInBounds (sa + p.2) p.1) xs)[i]? = if sa + j ≤ i ∧ i < sa + j + l.length ∧ i < xs.size then l[i - (sa + j)]? else xs[i]?
  | [], j, xs, i => by
    rw [if_neg (by simp only [List.length_nil]; omega)]
    rfl
  | x :: r, j, xs, i => by
    rw [List.zipIdx_cons, List.foldl_cons, writeAt_get sa r (j + 1)]
    simp only [Array.size_setIfInBounds, List.length_cons]
    by_cases h1 : sa + (j + 1) ≤ i ∧ i < sa + (j + 1) + r.length ∧ i < xs.size
    · rw [if_pos h1, if_pos (by omega)]
      rw [show i - (sa + j) = (i - (sa + (j + 1))) + 1 by omega, List.getElem?_cons_succ]
    · rw [if_neg h1, Array.getElem?_setIfInBounds]
      by_cases h2 : sa + j = i
      · rw [if_pos h2]
        by_cases h3 : sa + j < xs.size
        · rw [if_pos h3, if_pos (by omega), show i - (sa + j) = 0 by omega]
          rfl
        · rw [if_neg h3, if_neg (by omega)]
          exact (Array.getElem?_eq_none (by omega)).symm
      · rw [if_neg h2, if_neg (by omega)]
theorem writeAt_eq {sa : Nat} {r xs : Array Keyed} (h : sa + r.size ≤ xs.size) : writeAt sa r xs = xs.extract 0 sa ++ r ++ xs.extract (sa + r.size) xs.size := by
  apply Array.ext_getElem?
  intro i
  unfold writeAt
  have e := writeAt_get sa r.toList 0 xs i
  refine e.trans ?_
  simp only [Nat.add_zero, Array.length_toList]
  rw [Array.getElem?_append, Array.getElem?_append]
  simp only [Array.size_append, Array.size_extract, Array.getElem?_extract]
  by_cases h1 : sa ≤ i ∧ i < sa + r.size ∧ i < xs.size
  · rw [if_pos h1, if_pos (by omega), if_neg (by omega)]
    rw [show i - (min sa xs.size - 0) = i - sa by omega]
    simp
  · rw [if_neg h1]
    by_cases h2 : i < sa
    · rw [if_pos (by omega), if_pos (by omega), if_pos (by omega)]
      congr 1
      omega
    · rw [if_neg (by omega)]
      by_cases h3 : i < xs.size
      · rw [if_pos (by omega)]
        congr 1
        omega
      · rw [if_neg (by omega)]
        exact Array.getElem?_eq_none (by omega)
theorem srt_of_K {xs : Array Keyed} (h : ∀ i j, i ≤ j → j < xs.size → K xs i ≤ K xs j) : Srt xs := by
  unfold Srt
  rw [List.pairwise_iff_getElem]
  intro i j hi hj hij
  have hi' : i < xs.size := by simpa using hi
  have hj' : j < xs.size := by simpa using hj
  have := h i j (by omega) hj'
  rw [K_get hi', K_get hj'] at this
  simpa using this
theorem K_extract {xs : Array Keyed} {a b i : Nat} (hb : b ≤ xs.size) (hi : a + i < b) : K (xs.extract a b) i = K xs (a + i) := by
  apply K_congr
  rw [Array.getElem?_extract, if_pos (by omega)]
theorem mem_extract {xs : Array Keyed} {a b : Nat} {x : Keyed} (hb : b ≤ xs.size) (h : x ∈ (xs.extract a b).toList) : ∃ i, a ≤ i ∧ i < b ∧ kv x = K xs i := by
  obtain ⟨i, hi, e⟩ := List.getElem_of_mem h
  simp only [Array.length_toList, Array.size_extract] at hi
  have hi' : i < (xs.extract a b).size := by simp only [Array.size_extract]; omega
  refine ⟨a + i, by omega, by omega, ?_⟩
  rw [← e, ← K_extract hb (by omega), K_get hi']
  simp
theorem Ints.extract {xs : Array Keyed} (h : Ints xs) (a b : Nat) : Ints (xs.extract a b) := by
  intro x hx
  refine h x ?_
  simp only [Array.toList_extract, List.extract_eq_take_drop] at hx
  exact List.mem_of_mem_drop (List.mem_of_mem_take hx)
theorem cut3 (xs : Array Keyed) {k n1 e : Nat} (h1 : k ≤ n1) (h2 : n1 ≤ e) (h3 : e ≤ xs.size) : xs.toList = (xs.extract 0 k).toList ++ ((xs.extract k n1).toList ++ (xs.extract n1 e).toList) ++ (xs.extract e xs.size).toList := by
  have : xs = xs.extract 0 k ++ (xs.extract k n1 ++ xs.extract n1 e) ++ xs.extract e xs.size := by
    have s1 : xs.extract k n1 ++ xs.extract n1 e = xs.extract k e := by rw [Array.extract_append_extract, Nat.min_eq_left h1, Nat.max_eq_right h2]
    have s2 : xs.extract 0 k ++ xs.extract k e = xs.extract 0 e := by rw [Array.extract_append_extract, Nat.min_eq_left (by omega), Nat.max_eq_right (by omega)]
    have s3 : xs.extract 0 e ++ xs.extract e xs.size = xs.extract 0 xs.size := by rw [Array.extract_append_extract, Nat.min_eq_left (by omega), Nat.max_eq_right (by omega)]
    rw [s1, s2, s3]
    apply Array.ext_getElem?
    intro i
    rw [Array.getElem?_extract]
    by_cases h : i < xs.size
    · rw [if_pos (by omega)]; congr 1; omega
    · rw [if_neg (by omega)]; exact Array.getElem?_eq_none (by omega)
  rw [← Array.toList_append, ← Array.toList_append, ← Array.toList_append, ← this]
section
variable {prog : Program} {w : World} {A : Around} {E : Value → Shared → Prop} {s : Shared} {st : SortSt}
theorem wpS_set {σ : Type} {M : Model} {Q : PUnit → σ → Prop} {st st' : σ} (h : Q ⟨⟩ st') : wpS M A E s (set st' : StateT σ Sem PUnit) Q st := by
  unfold wpS; rw [StateT.run_set]; exact wpAny_pure ⟨rfl, h⟩
theorem wpS_gallopR' {key : Keyed} {arr : Array Keyed} {base n hint : Nat} {Q : Option Nat → SortSt → Prop} (hk : kindOf st = oneType') (hI : Ints arr) (hs : IncF arr base n) (hy : ∃ n t, key.1 = .int n t) (hn : base + n ≤ arr.size) (hh : hint < n)
    (h : ∀ k, k ≤ n → (∀ i, i < k → K arr (base + i) ≤ kv key) → (∀ i, k ≤ i → i < n → kv key < K arr (base + i)) → Q (some k) st) :
    wpS (model prog w) A E s (gallop' false key arr base n hint) Q st := by
  refine wpS_gallop (P := fun i => decide (K arr (base + i) ≤ kv key)) hh ?_ (fun h9 => Bool.noConfusion h9) ?_ ?_
  · intro i j hij hj hP
    simp only [decide_eq_true_eq] at hP ⊢
    exact Int.le_trans (hs i j hij hj) hP
  · intro _ i Q' hi hQ
    exact wpS_beyondR hk hI hy (by omega) hQ
  · intro k h1 h2 h3
    refine h k h1 (fun i hi => by simpa using h2 i hi) fun i hi hi2 => ?_
    have := h3 i hi hi2
    simp only [decide_eq_false_iff_not] at this
    omega
theorem wpS_gallopL' {key : Keyed} {arr : Array Keyed} {base n hint : Nat} {Q : Option Nat → SortSt → Prop} (hk : kindOf st = oneType') (hI : Ints arr) (hs : IncF arr base n) (hy : ∃ n t, key.1 = .int n t) (hn : base + n ≤ arr.size) (hh : hint < n)
    (h : ∀ k, k ≤ n → (∀ i, i < k → K arr (base + i) < kv key) → (∀ i, k ≤ i → i < n → kv key ≤ K arr (base + i)) → Q (some k) st) :
    wpS (model prog w) A E s (gallop' true key arr base n hint) Q st := by
  refine wpS_gallop (P := fun i => decide (K arr (base + i) < kv key)) hh ?_ ?_ (fun h9 => Bool.noConfusion h9) ?_
  · intro i j hij hj hP
    simp only [decide_eq_true_eq] at hP ⊢
    exact Int.lt_of_le_of_lt (hs i j hij hj) hP
  · intro _ i Q' hi hQ
    exact wpS_beyondL hk hI hy (by omega) hQ
  · intro k h1 h2 h3
    refine h k h1 (fun i hi => by simpa using h2 i hi) fun i hi hi2 => ?_
    have := h3 i hi hi2
    simp only [decide_eq_false_iff_not] at this
    omega
theorem IncF.at {xs : Array Keyed} {lo k : Nat} (h : IncF xs lo k) {i j : Nat} (h1 : lo ≤ i) (h2 : i ≤ j) (h3 : j < lo + k) : K xs i ≤ K xs j := by
  have := h (i - lo) (j - lo) (by omega) (by omega)
  rwa [show lo + (i - lo) = i by omega, show lo + (j - lo) = j by omega] at this
theorem merged_whole {xs r : Array Keyed} {k n1 m n2 : Nat} (hsz : xs.size = n1 + n2) (hk : k ≤ n1) (hm : m ≤ n2) (hn1 : 0 < n1) (hn2 : 0 < n2) (hA : IncF xs 0 n1) (hB : IncF xs n1 n2)
    (f1 : ∀ i, i < k → K xs i ≤ K xs n1) (f4 : ∀ i, m ≤ i → i < n2 → K xs (n1 - 1) ≤ K xs (n1 + i)) (hM : Merged (xs.extract k n1) (xs.extract n1 (n1 + m)) r) :
    (writeAt k r xs).Perm xs ∧ Srt (writeAt k r xs) := by
  have hrs : r.size = n1 - k + m := by
    have := hM.perm.length_eq
    simp only [Array.length_toList, List.length_append, Array.size_extract] at this
    omega
  rw [writeAt_eq (by omega), show k + r.size = n1 + m by omega]
  have e := cut3 xs hk (show n1 ≤ n1 + m by omega) (by omega)
  constructor
  · rw [Array.perm_iff_toList_perm, Array.toList_append, Array.toList_append]
    conv => rhs; rw [e]
    exact (hM.perm.append_left _).append_right _
  · have hR : ∀ x ∈ r.toList, (∃ i, k ≤ i ∧ i < n1 ∧ kv x = K xs i) ∨ (∃ i, n1 ≤ i ∧ i < n1 + m ∧ kv x = K xs i) := by
      intro x hx
      rcases List.mem_append.mp (hM.perm.mem_iff.mp hx) with hx | hx
      · exact .inl (mem_extract (by omega) hx)
      · exact .inr (mem_extract (by omega) hx)
    have sP : Srt (xs.extract 0 k) := srt_of_K fun i j hij hj => by
      simp only [Array.size_extract] at hj
      rw [K_extract (by omega) (by omega), K_extract (by omega) (by omega)]
      exact hA.at (by omega) (by omega) (by omega)
    have sS : Srt (xs.extract (n1 + m) xs.size) := srt_of_K fun i j hij hj => by
      simp only [Array.size_extract] at hj
      rw [K_extract (by omega) (by omega), K_extract (by omega) (by omega)]
      exact hB.at (by omega) (by omega) (by omega)
    unfold Srt
    rw [Array.toList_append, Array.toList_append, List.append_assoc, List.pairwise_append, List.pairwise_append]
    refine ⟨sP, ⟨hM.srt, sS, ?_⟩, ?_⟩
    · intro x hx y hy
      obtain ⟨j, j1, j2, ej⟩ := mem_extract (Nat.le_refl _) hy
      have h4 := f4 (j - n1) (by omega) (by omega)
      rw [show n1 + (j - n1) = j by omega] at h4
      rcases hR x hx with ⟨i, i1, i2, ei⟩ | ⟨i, i1, i2, ei⟩
      · rw [ei, ej]
        exact Int.le_trans (hA.at (by omega) (by omega : i ≤ n1 - 1) (by omega)) h4
      · rw [ei, ej]
        exact hB.at i1 (by omega) (by omega)
    · intro x hx y hy
      obtain ⟨i, i1, i2, ei⟩ := mem_extract (by omega) hx
      rw [ei]
      have h1 := f1 i i2
      rcases List.mem_append.mp hy with hy | hy
      · rcases hR y hy with ⟨j, j1, j2, ej⟩ | ⟨j, j1, j2, ej⟩
        · rw [ej]; exact hA.at (by omega) (by omega) (by omega)
        · rw [ej]; exact Int.le_trans h1 (hB.at (Nat.le_refl _) j1 (by omega))
      · obtain ⟨j, j1, j2, ej⟩ := mem_extract (Nat.le_refl _) hy
        rw [ej]; exact Int.le_trans h1 (hB.at (Nat.le_refl _) (by omega) (by omega))
theorem wpS_setX {x : SortSt} {Q : PUnit → SortSt → Prop} (X : SortSt → Prop) (hx : X x) (h : ∀ st1, X st1 → Q ⟨⟩ st1) : wpS (model prog w) A E s (set x : StateT SortSt Sem PUnit) Q st :=
  wpS_set (h x hx)
theorem wpS_mergeAt0 {Q : Bool → SortSt → Prop} {n1 n2 p q : Nat} (hp : pendingOf st = #[(0, n1, p), (n1, n2, q)]) (hk : kindOf st = oneType') (hf : failedOf st = none) (h0 : Ints (arrOf st)) (hn1 : 0 < n1) (hn2 : 0 < n2)
    (hsz : (arrOf st).size = n1 + n2) (hA : IncF (arrOf st) 0 n1) (hB : IncF (arrOf st) n1 n2)
    (h : ∀ st', (arrOf st').Perm (arrOf st) → Srt (arrOf st') → (pendingOf st').size = 1 → failedOf st' = none → Q true st') : wpS (model prog w) A E s (mergeAt' 0) Q st := by
  have hp2 : (sortPriv% PySem.Builtin.SortState.pending) st = #[(0, n1, p), (n1, n2, q)] := hp
  delta mergeAt'
  with_unfolding_all refine wpS_bind (wpS_get ?_)
  dsimp only
  rw [hp2]
  generalize hxs : arrOf st = xs at *
  have hxs2 : (sortPriv% PySem.Builtin.SortState.a) st = xs := hxs
  with_unfolding_all refine wpS_bind (wpS_setX (fun st1 => arrOf st1 = xs ∧ kindOf st1 = oneType' ∧ (pendingOf st1).size = 1 ∧ failedOf st1 = none) ⟨hxs, hk, ?_, hf⟩ ?_)
  · show ((#[(0, n1, p), (n1, n2, q)].setIfInBounds 0 (0, n1 + n2, p)).eraseIdxIfInBounds (0 + 1)).size = 1
    simp [Array.eraseIdxIfInBounds, Array.setIfInBounds]
  rintro st1 ⟨a1, a2, a3, a4⟩
  rw [hxs2]
  have hb : n1 < xs.size := by omega
  refine wpS_bind (wpS_elem hb ?_)
  refine wpS_bind (wpS_gallopR' a2 h0 hA (h0.at hb) (by omega) hn1 fun k k1 k2 k3 => ?_)
  simp only [Nat.zero_add, ← K_get hb] at k2 k3 ⊢
  by_cases e1 : (n1 - k == 0) = true
  · rw [if_pos e1]
    simp only [beq_iff_eq] at e1
    refine wpS_pure (h st1 (by rw [a1]) ?_ a3 a4)
    rw [a1]
    refine srt_of_K fun i j hij hj => ?_
    by_cases j1 : j < n1
    · exact hA.at (by omega) hij (by omega)
    · by_cases i1 : i < n1
      · exact Int.le_trans (k2 i (by omega)) (hB.at (Nat.le_refl _) (by omega) (by omega))
      · exact hB.at (by omega) hij (by omega)
  rw [if_neg e1]
  simp only [beq_iff_eq] at e1
  have el : k + (n1 - k) - 1 = n1 - 1 := by omega
  have hl : n1 - 1 < xs.size := by omega
  rw [el]
  refine wpS_bind (wpS_elem hl ?_)
  refine wpS_bind (wpS_gallopL' a2 h0 hB (h0.at hl) (by omega) (by omega) fun m m1 m2 m3 => ?_)
  simp only [← K_get hl] at m2 m3 ⊢
  by_cases e2 : (m == 0) = true
  · rw [if_pos e2]
    simp only [beq_iff_eq] at e2
    refine wpS_pure (h st1 (by rw [a1]) ?_ a3 a4)
    rw [a1]
    refine srt_of_K fun i j hij hj => ?_
    by_cases j1 : j < n1
    · exact hA.at (by omega) hij (by omega)
    · by_cases i1 : i < n1
      · have h9 := m3 (j - n1) (by omega) (by omega)
        rw [show n1 + (j - n1) = j by omega] at h9
        exact Int.le_trans (hA.at (by omega) (by omega : i ≤ n1 - 1) (by omega)) h9
      · exact hB.at (by omega) hij (by omega)
  rw [if_neg e2]
  simp only [beq_iff_eq] at e2
  have sx : (xs.extract k n1).size = n1 - k := by simp only [Array.size_extract]; omega
  have sy : (xs.extract n1 (n1 + m)).size = m := by simp only [Array.size_extract]; omega
  have kx : ∀ i, i < n1 - k → K (xs.extract k n1) i = K xs (k + i) := fun i hi => K_extract (by omega) (by omega)
  have ky : ∀ i, i < m → K (xs.extract n1 (n1 + m)) i = K xs (n1 + i) := fun i hi => K_extract (by omega) (by omega)
  have hX : Srt (xs.extract k n1) := srt_of_K fun i j hij hj => by
    rw [sx] at hj
    rw [kx i (by omega), kx j hj]
    exact hA.at (by omega) (by omega) (by omega)
  have hY : Srt (xs.extract n1 (n1 + m)) := srt_of_K fun i j hij hj => by
    rw [sy] at hj
    rw [ky i (by omega), ky j hj]
    exact hB.at (by omega) (by omega) (by omega)
  have fin : ∀ r st', Same st1 st' → Merged (xs.extract k n1) (xs.extract n1 (n1 + m)) r → (failedOf (setArr st' (writeAt k r (arrOf st')))).isNone = true ∧ Q true (setArr st' (writeAt k r (arrOf st'))) := by
    intro r st' hS hM
    obtain ⟨w1, w2⟩ := merged_whole hsz k1 m1 hn1 hn2 hA hB k2 m3 hM
    have hz : arrOf st' = xs := hS.1.trans a1
    refine ⟨?_, h _ ?_ ?_ ?_ ?_⟩
    · show (failedOf st').isNone = true
      rw [hS.2.2.2, a4]; rfl
    · show (writeAt k r (arrOf st')).Perm xs
      rw [hz]; exact w1
    · show Srt (writeAt k r (arrOf st'))
      rw [hz]; exact w2
    · show (pendingOf st').size = 1
      rw [hS.2.2.1]; exact a3
    · show failedOf st' = none
      rw [hS.2.2.2]; exact a4
  have g1 : ∀ i, i < m → K xs (n1 + i) < K xs (n1 - 1) := m2
  by_cases e3 : n1 - k ≤ m
  · rw [if_pos e3]
    refine wpS_bind (wpS_mergeLo a2 (h0.extract _ _) (h0.extract _ _) hX hY (by omega) (by omega) ?_ ?_ (fun r st' hS hM => ?last))
    case last =>
      obtain ⟨f1, f2⟩ := fin r st' hS hM
      with_unfolding_all refine wpS_bind (wpS_modify (wpS_bind (wpS_get (wpS_pure ?_))))
      with_unfolding_all exact f1.symm ▸ f2
    · rw [kx 0 (by omega), ky 0 (by omega)]
      exact Int.le_of_lt (k3 _ (by omega) (by omega))
    · intro i hi
      rw [sy] at hi
      rw [ky i hi, sx, kx (n1 - k - 1) (by omega), show k + (n1 - k - 1) = n1 - 1 by omega]
      exact Int.le_of_lt (g1 i hi)
  · rw [if_neg e3]
    refine wpS_bind (wpS_mergeHi a2 (h0.extract _ _) (h0.extract _ _) hX hY (by omega) (by omega) ?_ ?_ (fun r st' hS hM => ?last))
    case last =>
      obtain ⟨f1, f2⟩ := fin r st' hS hM
      with_unfolding_all refine wpS_bind (wpS_modify (wpS_bind (wpS_get (wpS_pure ?_))))
      with_unfolding_all exact f1.symm ▸ f2
    · intro i hi
      rw [sx] at hi
      rw [ky 0 (by omega), kx i hi]
      exact Int.le_of_lt (k3 _ (by omega) (by omega))
    · rw [sx, sy, ky (m - 1) (by omega), kx (n1 - k - 1) (by omega), show k + (n1 - k - 1) = n1 - 1 by omega]
      exact Int.le_of_lt (g1 _ (by omega))
end
end
section
open PySem PyProof.Rows
theorem minRun_big {size : Nat} (h1 : 64 ≤ size) (h2 : size < 128) : minRun' size size 0 = size / 2 + size % 2 := by
  obtain ⟨f, hf⟩ : ∃ f, size = f + 1 + 1 := ⟨size - 2, by omega⟩
  have e1 : minRun' (f + 1 + 1) size 0 = minRun' (f + 1) (size / 2) (max 0 (size % 2)) := by rw [minRun'_succ, if_neg (by omega)]
  have e2 : minRun' (f + 1) (size / 2) (max 0 (size % 2)) = size / 2 + max 0 (size % 2) := by rw [minRun'_succ, if_pos (by omega)]
  rw [← hf] at e1
  rw [e1, e2]
  omega
structure Base (a₀ : Array Keyed) (st : SortSt) : Prop where
  perm : (arrOf st).Perm a₀
  kind : kindOf st = oneType'
  failed : failedOf st = none
structure One (a₀ : Array Keyed) (st : SortSt) (n1 : Nat) : Prop extends Base a₀ st where
  pend : pendingOf st = #[(0, n1, 0)]
  inc : IncF (arrOf st) 0 n1
structure Two (a₀ : Array Keyed) (st : SortSt) (n1 pw : Nat) : Prop extends Base a₀ st where
  pend : pendingOf st = #[(0, n1, pw), (n1, a₀.size - n1, 0)]
  lo : 0 < n1
  hi : n1 < a₀.size
  inc : IncF (arrOf st) 0 n1
  inc2 : IncF (arrOf st) n1 (a₀.size - n1)
section
variable {prog : Program} {w : World} {A : Around} {E : Value → Shared → Prop} {s : Shared} {a₀ : Array Keyed} {st : SortSt}
theorem IncF.keep {xs ys : Array Keyed} {k : Nat} (h : IncF xs 0 k) (hp : ∀ i, i < k → ys[i]? = xs[i]?) : IncF ys 0 k := by
  intro i j hij hj
  rw [Nat.zero_add, Nat.zero_add, K_congr (hp i (by omega)), K_congr (hp j hj)]
  have := h i j hij hj
  rwa [Nat.zero_add, Nat.zero_add] at this
theorem wpS_runs64 {Q : Unit → SortSt → Prop} (h0 : Ints a₀) (hB : SB a₀ 0 #[] st) (h64 : 64 ≤ a₀.size) (h128 : a₀.size < 128)
    (h : ∀ st', (arrOf st').Perm a₀ → failedOf st' = none → Srt (arrOf st') → Q () st') : wpS (model prog w) A E s sortRuns' Q st := by
  rw [sortRuns'_eq]
  refine wpS_bind (wpS_get ?_)
  dsimp only
  simp only [hB.size, minRun_big h64 h128]
  refine wpS_bind (wpS_mono (wpS_forRange
    (I := fun x c st' => (x = 0 ∧ c = (none, 0) ∧ SB a₀ 0 #[] st') ∨ (x = 1 ∧ ∃ n1, c = (none, n1) ∧ a₀.size / 2 + a₀.size % 2 ≤ n1 ∧ n1 ≤ a₀.size ∧ One a₀ st' n1) ∨ (2 ≤ x ∧ c = (none, a₀.size) ∧ ∃ n1 pw, Two a₀ st' n1 pw))
    (Q := fun c st' => c = (none, a₀.size) ∧ (One a₀ st' a₀.size ∨ ∃ n1 pw, Two a₀ st' n1 pw)) ?step ?fin (.inl ⟨rfl, rfl, hB⟩)) ?post)
  case fin =>
    rintro c st' (⟨hx, _, _⟩ | ⟨hx, _⟩ | ⟨_, hc, hD⟩)
    · omega
    · omega
    · exact ⟨hc, .inr hD⟩
  case step =>
    rintro x c st' _ hx (⟨rfl, rfl, hB'⟩ | ⟨rfl, n1, rfl, hm1, hm2, hO⟩ | ⟨hx2, rfl, hD⟩)
    · dsimp only
      rw [if_neg (by omega)]
      simp only [Nat.sub_zero]
      refine wpS_bind (wpS_count h0 (by omega) (by omega) hB' fun m st2 hB2 hc1 hc2 hs2 => ?_)
      dsimp only
      by_cases hlt : m < a₀.size / 2 + a₀.size % 2
      · rw [if_pos hlt]
        refine wpS_bind (wpS_lift (wpAny_rule ⟨rfl, ?_⟩))
        refine wpS_bind (wpS_binary h0 (by omega) (by omega) hB2 hs2 fun st3 hB3 hs3 => ?_)
        simp only [Bool.not_true, Bool.false_eq_true, if_false]
        refine wpS_bind (wpS_get ?_)
        have hb : (pendingOf st3).back? = none := by rw [hB3.pend]; rfl
        rw [hb]
        dsimp only
        refine wpS_bind (wpS_modify (wpS_pure (.inr (.inl ⟨by simp, _, rfl, by omega, by omega, ⟨⟨hB3.perm, hB3.kind, hB3.failed⟩, ?_, ?_⟩⟩))))
        · show (pendingOf st3).push _ = _
          rw [hB3.pend, Nat.zero_add]; rfl
        · show IncF (arrOf st3) 0 _
          rw [Nat.zero_add]
          exact hs3
      · rw [if_neg hlt]
        refine wpS_bind (wpS_get ?_)
        have hb : (pendingOf st2).back? = none := by rw [hB2.pend]; rfl
        rw [hb]
        dsimp only
        refine wpS_bind (wpS_modify (wpS_pure (.inr (.inl ⟨by simp, _, rfl, by omega, by omega, ⟨⟨hB2.perm, hB2.kind, hB2.failed⟩, ?_, ?_⟩⟩))))
        · show (pendingOf st2).push _ = _
          rw [hB2.pend, Nat.zero_add]; rfl
        · show IncF (arrOf st2) 0 _
          rw [Nat.zero_add]
          exact hs2
    · dsimp only
      by_cases hge : n1 ≥ a₀.size
      · rw [if_pos hge]
        have e : n1 = a₀.size := by omega
        subst e
        exact wpS_pure ⟨rfl, .inl hO⟩
      · rw [if_neg hge]
        have hBn : SB (arrOf st') n1 #[(0, n1, 0)] st' := ⟨Array.Perm.refl _, fun _ _ => rfl, hO.kind, hO.failed, hO.pend⟩
        have hIn : Ints (arrOf st') := fun x hx => h0 x ((Array.perm_iff_toList_perm.mp hO.perm).mem_iff.mp hx)
        have hsz : (arrOf st').size = a₀.size := hO.perm.size_eq
        have last : ∀ st3, SB (arrOf st') n1 #[(0, n1, 0)] st3 → IncF (arrOf st3) n1 (a₀.size - n1) → ∀ pw,
            Two a₀ (setPending (setPending st3 ((pendingOf st3).modify ((pendingOf st3).size - 1) fun x => (x.1, x.2.1, pw))) (((pendingOf st3).modify ((pendingOf st3).size - 1) fun x => (x.1, x.2.1, pw)).push (n1, a₀.size - n1, 0))) n1 pw := by
          intro st3 hB3 hs3 pw
          refine ⟨⟨hB3.perm.trans hO.perm, hB3.kind, hB3.failed⟩, ?_, by omega, by omega, ?_, hs3⟩
          · show ((pendingOf st3).modify _ _).push _ = _
            rw [hB3.pend]
            rfl
          · exact hO.inc.keep hB3.pre
        refine wpS_bind (wpS_count hIn (by omega) (by omega) hBn fun m st2 hB2 hc1 hc2 hs2 => ?_)
        dsimp only
        by_cases hlt : m < a₀.size / 2 + a₀.size % 2
        · rw [if_pos hlt]
          refine wpS_bind (wpS_lift (wpAny_rule ⟨rfl, ?_⟩))
          have ef : min (a₀.size - n1) (a₀.size / 2 + a₀.size % 2) = a₀.size - n1 := by omega
          rw [ef]
          refine wpS_bind (wpS_binary hIn (by omega) (by omega) hB2 hs2 fun st3 hB3 hs3 => ?_)
          simp only [Bool.not_true, Bool.false_eq_true, if_false]
          refine wpS_bind (wpS_get ?_)
          have hb : (pendingOf st3).back? = some (0, n1, 0) := by rw [hB3.pend]; rfl
          rw [hb]
          dsimp only
          refine wpS_bind (wpS_mono (wpS_forRange (I := fun x c st4 => x = 0 ∧ c = (none, ()) ∧ st4 = st3) (Q := fun c st4 => c = (none, ()) ∧ st4 = st3) ?st1 ?st2 ⟨rfl, rfl, rfl⟩) ?st3)
          case st2 =>
            rintro c st4 ⟨hx0, _, _⟩
            omega
          case st1 =>
            rintro y c st4 _ _ ⟨rfl, rfl, rfl⟩
            refine wpS_bind (wpS_get ?_)
            have en : (if (pendingOf st4).size > 1 then (pendingOf st4)[(pendingOf st4).size - 2]? else none) = none := by rw [hB3.pend]; rfl
            rw [en]
            exact wpS_pure ⟨rfl, rfl⟩
          case st3 =>
            rintro c st4 ⟨rfl, rfl⟩
            dsimp only
            refine wpS_bind (wpS_modify (wpS_bind (wpS_modify (wpS_pure (.inr (.inr ⟨by omega, ?_, n1, _, last _ hB3 hs3 _⟩))))))
            rw [show n1 + (a₀.size - n1) = a₀.size by omega]
        · rw [if_neg hlt]
          have em : m = a₀.size - n1 := by omega
          subst em
          refine wpS_bind (wpS_get ?_)
          have hb : (pendingOf st2).back? = some (0, n1, 0) := by rw [hB2.pend]; rfl
          rw [hb]
          dsimp only
          refine wpS_bind (wpS_mono (wpS_forRange (I := fun x c st4 => x = 0 ∧ c = (none, ()) ∧ st4 = st2) (Q := fun c st4 => c = (none, ()) ∧ st4 = st2) ?st1 ?st2 ⟨rfl, rfl, rfl⟩) ?st3)
          case st2 =>
            rintro c st4 ⟨hx0, _, _⟩
            omega
          case st1 =>
            rintro y c st4 _ _ ⟨rfl, rfl, rfl⟩
            refine wpS_bind (wpS_get ?_)
            have en : (if (pendingOf st4).size > 1 then (pendingOf st4)[(pendingOf st4).size - 2]? else none) = none := by rw [hB2.pend]; rfl
            rw [en]
            exact wpS_pure ⟨rfl, rfl⟩
          case st3 =>
            rintro c st4 ⟨rfl, rfl⟩
            dsimp only
            refine wpS_bind (wpS_modify (wpS_bind (wpS_modify (wpS_pure (.inr (.inr ⟨by omega, ?_, n1, _, last _ hB2 hs2 _⟩))))))
            rw [show n1 + (a₀.size - n1) = a₀.size by omega]
    · dsimp only
      rw [if_pos (Nat.le_refl _)]
      exact wpS_pure ⟨rfl, .inr hD⟩
  case post =>
    rintro c st' ⟨rfl, hD⟩
    dsimp only
    refine wpS_bind (wpS_mono (wpS_forRange (I := fun x c st'' => c = (none, ()) ∧ ((x = 0 ∧ st'' = st') ∨ (1 ≤ x ∧ (arrOf st'').Perm a₀ ∧ failedOf st'' = none ∧ Srt (arrOf st'') ∧ (pendingOf st'').size = 1)))
      (Q := fun c st'' => c = (none, ()) ∧ (arrOf st'').Perm a₀ ∧ failedOf st'' = none ∧ Srt (arrOf st'')) ?step2 ?fin2 ⟨rfl, .inl ⟨rfl, rfl⟩⟩) ?post2)
    case fin2 =>
      rintro c st'' ⟨rfl, ⟨hx, _⟩ | ⟨_, p1, p2, p3, _⟩⟩
      · omega
      · exact ⟨rfl, p1, p2, p3⟩
    case post2 =>
      rintro c st'' ⟨rfl, p1, p2, p3⟩
      exact wpS_pure (h _ p1 p2 p3)
    case step2 =>
      rintro x c st'' _ hx ⟨rfl, ⟨rfl, rfl⟩ | ⟨_, p1, p2, p3, p4⟩⟩
      · refine wpS_bind (wpS_get ?_)
        rcases hD with hO | ⟨n1, pw, hT⟩
        · rw [if_pos (by rw [hO.pend]; exact Nat.le_refl 1)]
          refine wpS_pure ⟨rfl, hO.perm, hO.failed, srt_of_K fun i j hij hj => ?_⟩
          have := hO.perm.size_eq
          exact hO.inc.at (by omega) hij (by omega)
        · have hsz : (arrOf st'').size = a₀.size := hT.perm.size_eq
          have hIn : Ints (arrOf st'') := fun x hx => h0 x ((Array.perm_iff_toList_perm.mp hT.perm).mem_iff.mp hx)
          have hlo := hT.lo
          have hhi := hT.hi
          rw [if_neg (by rw [hT.pend]; simp)]
          have e0 : (pendingOf st'').size - 2 = 0 := by rw [hT.pend]; rfl
          rw [e0]
          simp only [Nat.lt_irrefl, gt_iff_lt, if_false, Option.any_none, Bool.false_eq_true]
          refine wpS_bind (wpS_mergeAt0 hT.pend hT.kind hT.failed hIn hlo (by omega) (by omega) hT.inc hT.inc2 fun st4 q1 q2 q3 q4 => ?_)
          simp only [Bool.not_true, Bool.false_eq_true, if_false]
          exact wpS_pure ⟨rfl, .inr ⟨by omega, q1.trans hT.perm, q4, q2, q3⟩⟩
      · refine wpS_bind (wpS_get ?_)
        rw [if_pos (by omega)]
        exact wpS_pure ⟨rfl, p1, p2, p3⟩
end
end
section
open PySem PyProof.Rows
set_option maxRecDepth 100000
section
variable {prog : Program} {w : World} {A : Around} {E : Value → Shared → Prop} {s : Shared}
theorem sortedTo_of {xs : Array Keyed} {n : Nat} (h : Srt xs) (hn : xs.size = n) : SortedTo xs n := fun _ _ hij hj => h.le hij (by omega)
theorem sort_tree64 {a : Addr} {vs : List Value} {ns : List Int} {n : Nat} {P : Fin → Shared → Prop} (ho : s.heap.get? a = some (seqObj "list" vs.toArray n))
    (hI : IntsAre vs ns) (h64 : 64 ≤ vs.length) (h128 : vs.length < 128)
    (h : ∀ (out : Array Value) (ns' : List Int), IntsAre out.toList ns' → ns'.Perm ns → ns'.Pairwise (· ≤ ·) → P (.done (.ret .none)) { s with heap := sortedHeap s.heap a vs out }) :
    wpAny (model prog w) A (Builtin.«list.sort» ⟨[.ref a], []⟩) P E s := by
  have ha : a < s.heap.objs.size := Heap.lt_size ho
  obtain ⟨e1, ho1⟩ : ∃ e1, (s.heap.update a (Obj.mapSeq fun _ => #[])).get? a = some (seqObj "list" #[] e1) := ⟨_, get?_update_seq ho (fun _ => #[])⟩
  have ho6 : (((s.heap.update a (Obj.mapSeq fun _ => #[])).push (seqObj "tuple" vs.toArray 0)).push (seqObj "list" #[] 0)).get? a = some (seqObj "list" #[] e1) := by
    rw [Heap.get?_push_ne _ _ _ (by rw [size_push', Heap.size_update]; exact Nat.ne_of_lt (Nat.lt_succ_of_lt ha)), Heap.get?_push_ne _ _ _ (by rw [Heap.size_update]; exact Nat.ne_of_lt ha)]
    exact ho1
  have hps : (pairsOf vs).size = vs.length := pairsOf_size vs
  have hII : Ints (pairsOf vs) := hI.intKeys
  have hsz : vs.toArray.size = vs.length := by simp
  rw [list_sort_plain]
  refine wpAny_bind (listItems_at ho rfl ?_)
  refine wpAny_bind (listUpdate_at ho rfl ?_)
  refine wpAny_bind (seqEpoch_at ho1 rfl ?_)
  refine wpAny_bind (wpAny_newTuple ?_)
  refine wpAny_bind (wpAny_newList ?_)
  refine wpAny_holding ?_
  show wpAny (model prog w) A _ P E { s with heap := ((s.heap.update a (Obj.mapSeq fun _ => #[])).push (seqObj "tuple" vs.toArray 0)).push (seqObj "list" #[] 0) }
  dsimp only
  have h2 : ¬ vs.toArray.size < 2 := by omega
  rw [if_neg h2, if_neg h2]
  have hkk : keyKind' vs.toArray = pure oneType' := by
    match vs, h64 with
    | [], h64 => simp at h64
    | [_], h64 => simp at h64
    | v₁ :: v₂ :: rest, _ => exact keyKind_ints hI
  rw [hkk]
  refine wpAny_bind (wpAny_pure ?_)
  refine wpAny_bind (wpAny_mono (wpS_runs64 (a₀ := pairsOf vs) (st := SortSt.mk' oneType' (vs.toArray.zip vs.toArray) #[] 7 none)
    (Q := fun _ st' => (arrOf st').Perm (pairsOf vs) ∧ failedOf st' = none ∧ Srt (arrOf st'))
    hII ⟨Array.Perm.refl _, fun _ _ => rfl, rfl, rfl, rfl⟩ (by omega) (by omega) fun st' a1 a2 a3 => ⟨a1, a2, a3⟩) ?_ fun _ _ e => e)
  rintro ⟨⟨⟩, st'⟩ s' ⟨rfl, hp, hf, hs⟩
  dsimp only
  refine wpAny_bind (seqEpoch_at ho6 rfl ?_)
  refine wpAny_bind (listUpdate_at ho6 rfl ?_ (hsz2 := by refine Nat.le_trans (Nat.le_of_eq ((Array.size_map ..).trans (hp.size_eq.trans (pairsOf_size _)))) ?_; rw [sizeLine_eq]; omega))
  rw [hf]
  simp only [bne_self_eq_false, Bool.false_eq_true, if_false]
  obtain ⟨ns', b1, b2, b3⟩ := sorted_out hI hp (sortedTo_of hs hp.size_eq)
  exact wpAny_pure (h _ ns' b1 b2 b3)
theorem sorted64 {l : Addr} {vs : List Value} {ns : List Int} {Q : Value → Shared → Prop} (hl : s.heap.IsList l vs.toArray) (hI : IntsAre vs ns) (h64 : 64 ≤ vs.length) (h128 : vs.length < 128)
    (h : ∀ (out : Array Value) (ns' : List Int), IntsAre out.toList ns' → ns'.Perm ns → ns'.Pairwise (· ≤ ·) → Q (.ref (s.heap.objs.size + 1)) { s with heap := sortedAll s.heap vs out }) :
    wpAny (model prog w) A (call (.builtin "sorted") [.ref l]) Q E s := by
  refine Calls.call_function_entry kind_sorted plain_sorted entry_sorted (args_sorted1 _) ?_
  unfold Builtin.«sorted»
  refine wpAny_bind (m := checkCount "sorted" 1 1 _) (wpAny_pure ?_)
  refine wpAny_bind (collect_list hl ?_ (by rw [sizeLine_eq]; omega))
  refine wpAny_bind (wpAny_newList ?_)
  have hsz : ((s.heap.push (seqObj "list" #[] 0)).update s.heap.objs.size (Obj.mapSeq (· ++ vs.toArray))).objs.size = s.heap.objs.size + 1 := by
    rw [Heap.size_update, size_push']
  have hoL : (((s.heap.push (seqObj "list" #[] 0)).update s.heap.objs.size (Obj.mapSeq (· ++ vs.toArray))).push (seqObj "list" vs.toArray 0)).get? (s.heap.objs.size + 1) = some (seqObj "list" vs.toArray 0) := by
    rw [← hsz]; exact Heap.get?_push_size _ rfl
  show wpAny _ _ _ _ _ { s with heap := ((s.heap.push (seqObj "list" #[] 0)).update s.heap.objs.size (Obj.mapSeq (· ++ vs.toArray))).push (seqObj "list" vs.toArray 0) }
  rw [hsz]
  refine wpAny_bind (wpAny_holding (wpAny_call_entry slot_list_sort ⟨_, hoL, rfl⟩ entry_list_sort (sort_tree64 hoL hI h64 h128 fun out ns' a1 a2 a3 => ⟨_, rfl, ?_⟩) (args_list_sort _)))
  exact wpAny_pure ⟨_, rfl, h out ns' a1 a2 a3⟩
/-- sorted of fewer than 128 ints -/
theorem sorted_any {h₀ : Heap} {L : Addr} {m : Str → Option Value} {news : List (Addr × Obj)} {l : Addr} {vs : List Value} {ns : List Int} {c : Nat} {Q : Value → Shared → Prop}
    (F : Fr h₀ L s.heap m) (N : News h₀ L s.heap news) (hm : (l, PySem.W.listOf vs.toArray c) ∈ news) (hI : IntsAre vs ns) (h128 : ns.length < 128)
    (h : ∀ D h' vs' ns' e, Fr h₀ L h' m → News h₀ L h' ((D, PySem.W.listOf vs'.toArray e) :: news) → (∀ q ∈ news, q.1 < D) → IntsAre vs' ns' → ns'.Perm ns → ns'.Pairwise (· ≤ ·) → Q (.ref D) { s with heap := h' }) :
    wpAny (model prog w) A (call (.builtin "sorted") [.ref l]) Q E s := by
  have hl : s.heap.IsList l vs.toArray := ⟨_, (N _ hm).1, rfl, c, rfl⟩
  have e1 := hI.length
  have lt : ∀ q ∈ news, q.1 < s.heap.objs.size + 1 := fun p hp => Nat.lt_succ_of_lt (Heap.lt_size (N p hp).1)
  by_cases h64 : vs.length < 64
  · exact sorted_N F N hl hI h64 fun h' vs' ns' e F' N' a1 a2 a3 => h _ h' vs' ns' e F' N' lt a1 a2 a3
  · refine sorted64 hl hI (by omega) (by omega) fun out ns' a1 a2 a3 => ?_
    obtain ⟨e, he⟩ := sortedAll_at s.heap vs out
    exact h _ _ out.toList ns' e (F.kept fun _ _ => sortedAll_old) (N.kept_cons F (fun _ _ => sortedAll_old) (Nat.le_succ _) he) lt a1 a2 a3
end
end
section
open PySem PySem.W PyProof.Rows PySem.Calls PySem.Spec
set_option maxRecDepth 100000
set_option maxHeartbeats 8000000

def StopHere (P : Prop) : Prop := P
theorem stopHere {P : Prop} (h : StopHere P) : P := h
theorem off_R {R D : Addr} {o o' : Obj} {news own : List (Addr × Obj)} (l2 : D < R ∧ AllLt R news) (hoff : OwnOff own (List.map (fun x => x.fst) ((R, o) :: (D, o') :: news))) : ∀ p ∈ ((D, o') :: (news ++ own)), p.1 ≠ R := by
  intro p hp
  rcases List.mem_cons.mp hp with rfl | hp
  · exact Nat.ne_of_lt l2.1
  · rcases List.mem_append.mp hp with hp | hp
    · exact Nat.ne_of_lt (kst_ltOf l2.2 p hp)
    · exact hoff p hp R (by simp)

def ledQ (R D : Addr) (o : Obj) (news : List (Addr × Obj)) (c : List Value × List Int × Nat) : List (Addr × Obj) := (R, listOf c.1.toArray c.2.2) :: (D, o) :: news
inductive FltsAre : List Value → List Int → Prop
  | nil : FltsAre [] []
  | cons {b : UInt64} {k : Int} (t : Tok) {vs : List Value} {ks : List Int} : FltIs b k → FltsAre vs ks → FltsAre (.float b t :: vs) (k :: ks)
theorem FltsAre.nums {vs : List Value} {ks : List Int} (h : FltsAre vs ks) : NumsAre vs ks := by
  induction h with
  | nil => exact .nil
  | cons t hf _ ih => exact .cons (.flt t hf) ih
theorem FltsAre.length {vs : List Value} {ks : List Int} (h : FltsAre vs ks) : vs.length = ks.length := h.nums.length
theorem FltsAre.snoc {vs : List Value} {ks : List Int} (h : FltsAre vs ks) {b : UInt64} {k : Int} (t : Tok) (hf : FltIs b k) : FltsAre (vs ++ [.float b t]) (ks ++ [k]) := by
  induction h with
  | nil => exact .cons t hf .nil
  | cons t' hf' _ ih => exact .cons t' hf' ih
theorem q_end {h₀ h' : Heap} {L R D : Addr} {o : Obj} {m' m₀ : Str → Option Value} {news own : List (Addr × Obj)} {fs : List Value} {cs' pre : List Int} {cc tk : Nat} {f : UInt64} {t : Tok} {g : Int → Int} {i : Int} {x : Str} {stored : List Str} {s₁ : Shared} {adr : List Addr}
    (F8 : Fr h₀ L h' m') (N8 : News h₀ L h' ((R, listOf (fs ++ [Value.float f t]).toArray (cc + 1)) :: (D, o) :: (news ++ own))) (hfs : FltsAre fs cs') (hf : FltIs f (g i)) (hcs : cs' = pre.map g)
    (hr : ∀ z, z ≠ x → (∀ p ∈ ([] : List (Str × Value)), z ≠ p.1) → stored.contains z = false → m' z = m₀ z) (ha : (ledQ R D o news ([], [], 0)).map (·.1) = adr := by rfl) :
    InvEndN h₀ L (KstS (ledQ R D o news) (fun _ => []) (fun c => FltsAre c.1 c.2.1) x stored m₀ (fun pre c => c.2.1 = pre.map g) (pre ++ [i])) own adr s₁ { s₁ with heap := h', toks := tk } := by
  refine kst_end (fs ++ [Value.float f t], cs' ++ [g i], cc + 1) F8 N8 ?_ ?_ ha (FltsAre.snoc hfs _ hf) (List.forall_mem_nil _) hr ?_
  · intro p hp
    exact List.mem_append_left own hp
  · intro p hp
    exact List.mem_append_right ((R, listOf (fs ++ [Value.float f t]).toArray (cc + 1)) :: (D, o) :: news) hp
  · show cs' ++ [g i] = (pre ++ [i]).map g
    rw [hcs, List.map_append]; rfl
theorem fdiv_near {a n : Int} (h : 0 < n) : a.fdiv n * n ≤ a ∧ a - n < a.fdiv n * n := by
  rw [fdiv_eq h]
  have h1 := Int.emod_add_mul_ediv a n
  have h2 := Int.emod_nonneg a (Int.ne_of_gt h)
  have h3 := Int.emod_lt_of_pos a h
  rw [Int.mul_comm] at h1
  omega
theorem cutE_at {ks : List Int} {n i j : Int} (hM : Mid n) (hm : Mult n ks) (hj : jE ks n i = j) :
    ks.getD (j - 1).toNat 0 * (n - (i * ((ks.length : Int) + 1) - j * n)) + ks.getD j.toNat 0 * (i * ((ks.length : Int) + 1) - j * n) = n * cutE ks n i := by
  subst hj
  exact cutE_eq hM hm
theorem jE_1 {ks : List Int} {n i : Int} (h : (i * ((ks.length : Int) + 1)).fdiv n < 1) : jE ks n i = 1 := by unfold jE; rw [if_pos h]
theorem jE_2 {ks : List Int} {n i : Int} (h : ¬ (i * ((ks.length : Int) + 1)).fdiv n < 1) (h' : (i * ((ks.length : Int) + 1)).fdiv n > (ks.length : Int) - 1) : jE ks n i = (ks.length : Int) - 1 := by unfold jE; rw [if_neg h, if_pos h']
theorem jE_3 {ks : List Int} {n i : Int} (h : ¬ (i * ((ks.length : Int) + 1)).fdiv n < 1) (h' : ¬ (i * ((ks.length : Int) + 1)).fdiv n > (ks.length : Int) - 1) : jE ks n i = (i * ((ks.length : Int) + 1)).fdiv n := by unfold jE; rw [if_neg h, if_neg h']
theorem getD_mem {ks : List Int} {i : Nat} : ks.getD i 0 ∈ ks ∨ ks.getD i 0 = 0 := by
  rw [List.getD_eq_getElem?_getD]
  cases h : ks[i]? with
  | none => exact .inr rfl
  | some x => exact .inl (List.mem_of_getElem? h)
theorem near_of {srt ns : List Int} (hP : srt.Perm ns) (hB : ∀ x ∈ ns, x.natAbs < 2 ^ 46) : Near srt := ⟨fun i => by
  rcases getD_mem (ks := srt) (i := i) with h | h
  · exact hB _ (hP.mem_iff.mp h)
  · rw [h]; decide⟩
theorem mult_of {n : Int} {srt ns : List Int} (hP : srt.Perm ns) (hB : ∀ x ∈ ns, ∃ q, x = n * q) : Mult n srt := ⟨fun i => by
  rcases getD_mem (ks := srt) (i := i) with h | h
  · exact hB _ (hP.mem_iff.mp h)
  · exact ⟨0, by rw [h]; simp⟩⟩

theorem quantI (w : World) {news : List (Addr × Obj)} {l : Addr} {vs : List Value} {ns : List Int} {c : Nat} {n : Int} {tk tk2 : Tok}
    (hl : (l, listOf vs.toArray c) ∈ news) (hn : IntsAre vs ns) (hfit : Small ns) (hB : ∀ x ∈ ns, x.natAbs < 2 ^ 46) (hMu : ∀ x ∈ ns, ∃ q, x = n * q) (hM : Mid n) (h2 : 2 ≤ ns.length) :
    Says w 35 [.ref l] [(Str.ofString "n", .int n tk), (Str.ofString "method", .str (Str.ofString "inclusive") tk2)] 1 16 news (fun r news' => ∃ D fs c' srt, r = .ref D ∧ news' = (D, listOf fs.toArray c') :: news ∧ srt.Perm ns ∧ srt.Pairwise (· ≤ ·) ∧ FltsAre fs ((rangeKs 1 (n - 1).toNat).map (cutI srt n))) := by
  have hM1 := hM.lo
  have hM2 := hM.hi
  have hF := hfit.lt
  unfold Says
  w_on
  w_strict (
    k_fill
    intro mean mg mb dp un gd cn cs a ccd cl outer A₀ base h₀ L m s Q E B F X N T hk hd hu hret
    refine wpAny_call ?_
    k_dflt (refine' code_def ?k1 ?k2 ?k3 ?k4 ?k5 ?kA ?kF ?kK ?k6 ?k7 ?k8 ?k9 ?kB ?_ ?zzc2 ?zzc3 ?zzc4 ?zzc5; (case kA => exact rfl); (case kF => exact rfl); (case kK => assumption); (case k1 => k_asm); (case k2 => k_asm); (case k3 => k_asm); (case k4 => k_asm); (case k5 => k_asm); (case k6 => k_is); (case k7 => k_is); (case k8 => ktr_room); (case k9 => first | exact BindsTo.of_eq rfl | (refine' kp_binds ?kx ?ke; (case kx => k_in); (case ke => exact fun _ => rfl)) | exact binds_K (by k_in) rfl (by k_is) rfl rfl rfl); (case zzc5 => decide); (case kB => exact locs rfl); (case zzc2 => exact rfl); (case zzc3 => exact rfl); (case zzc4 => exact rfl); k_whole; intro g' L' h' FG' F' N' B' X' T'; (try dsimp only); (try k_lift B'); (try k_fold))
    k_with_none
    (k_with "mine call builtin:len" => (k_here; (with_reducible show wpAny _ _ (call (Value.builtin "len") [Value.ref _]) _ _ _); k_dflt (refine' len_num ?k1 ?k2 ?k3 ?k4 ?_; (case k1 => k_asm); (case k2 => first | kst_mem | k_memK); (case k3 => assumption); (case k4 => assumption)); k_whole))
    (k_with "mine subscriptTail Name Name ref int" => (k_here; (with_reducible show wpAny _ _ (subscriptTail _ _ (Value.ref _) (Value.int _ _)) _ _ _); k_dflt (refine' item_int ?k1 ?k2 ?k3 ?k4 ?k5 ?k6 ?_ ?k7; (case k1 => k_asm); (case k2 => first | kst_mem | k_memK); (case k3 => assumption); (case k6 => assumption); (case k4 => omega); (case k5 => omega); (case k7 => with_unfolding_all rfl); k_whole); intro t'))
    (k_with "mine subscriptTail Name BinOp ref int" => (k_here; (with_reducible show wpAny _ _ (subscriptTail _ _ (Value.ref _) (Value.int _ _)) _ _ _); k_dflt (refine' item_int ?k1 ?k2 ?k3 ?k4 ?k5 ?k6 ?_ ?k7; (case k1 => k_asm); (case k2 => first | kst_mem | k_memK); (case k3 => assumption); (case k6 => assumption); (case k4 => omega); (case k5 => omega); (case k7 => with_unfolding_all rfl); k_whole); intro t'))
    (k_with "mine binaryOp Div int int" => (k_here; k_dflt (refine div_exact rfl (by omega) (cutI_eq (by assumption) (by assumption)) (cutI_small (by assumption) (by assumption)) ?_); intro f' hf'))
    (k_with "call builtin:sorted" => (
      k_here
      k_dflt (refine' sorted_any (by k_asm) (by k_asm) hl hn (by omega) ?_)
      intro D h' vs' srt e F' N' l1 hI hP hS
      have hlen := hP.length_eq
      have hNu := NumsAre.of_ints hI
      have hSm : Small srt := ⟨by omega⟩
      have hNe : Near srt := near_of hP hB
      have hMt : Mult n srt := mult_of hP hMu
      have hle : 2 ≤ srt.length := by omega
      (try k_lt l1)))
    (k_with "newList" => (
      k_here
      k_dflt (refine' newList_K (by k_asm) (by k_asm) ?_)
      intro R h' F' N' l2
      (try k_lt l2)))
    (k_with "pyIter ref" => (refine stopHere ?_))
    (k_with "call builtin:list.append" => (refine stopHere ?_))
    (k_with "InvEndN" => (refine stopHere ?_))
    k_steps
    unfold StopHere
    k_here
    (rename Fr _ _ _ _ => lF'); (rename News _ _ _ _ => lN'); (rename IsRange _ _ _ _ _ _ _ _ => rgX)
    (with_unfolding_all refine' kst_range (σ := List Value × List Int × Nat) (ledQ R D (listOf vs'.toArray e) news) (fun _ => []) (fun c => FltsAre c.1 c.2.1) [Str.ofString "j", Str.ofString "delta", Str.ofString "interpolated"] (fun pre c => c.2.1 = pre.map (cutI srt n)) ([], [], 0) (by rfl) rgX (small_one (by omega) (by omega) (by omega) (by omega)) (rangeSize_nat _ _) lF' lN' FltsAre.nil (List.forall_mem_nil _) rfl ?_ ?_)
    all_goals (clear lF' lN')
    · rintro ⟨fs, cs', cc⟩ pre i ti u h tk own hi1 hi2 hoff hfs hcs F N
      dsimp only [kstB] at F hfs hcs hoff
      have hne : ∀ p ∈ ((D, listOf vs'.toArray e) :: (news ++ own)), p.1 ≠ R := off_R l2 hoff
      have hi3 : 1 ≤ i := by omega
      have hi4 : i < n := by omega
      have hj0 : 0 ≤ (i * ((srt.length : Int) - 1)).fdiv n := jI_lo hM hi3 hle
      have hj1 : (i * ((srt.length : Int) - 1)).fdiv n + 1 < srt.length := jI_hi hM hi4 hle
      have hd0 : 0 ≤ (i * ((srt.length : Int) - 1)).fmod n := dI_lo (ks := srt) hM
      have hd1 : (i * ((srt.length : Int) - 1)).fmod n < n := dI_hi (ks := srt) hM
      have hcl : cs'.length < 20 := by rw [hcs, List.length_map]; omega
      have hfl : fs.length < 20 := by rw [hfs.length]; exact hcl
      replace N : News _ _ h ((R, listOf fs.toArray cc) :: (D, listOf vs'.toArray e) :: (news ++ own)) := N
      (try k_fold)
      k_steps
      all_goals (
        unfold StopHere
        k_here
        (rename News _ _ _ _ => nE9)
        (rename FltIs _ _ => hf9)
        have nF9 := kst_newsOf (l' := (R, listOf fs.toArray cc) :: (D, listOf vs'.toArray e) :: (news ++ own)) nE9 (by first | exact fun p hp => hp | exact fun p hp => List.Mem.tail _ hp)
        k_dflt (refine' append_K (D := R) (its := fs.toArray) (n := cc) (by k_asm) nF9 (Upd.head hne) ?_ (by rw [PySem.sizeLine_eq, List.size_toArray]; omega))
        intro h8 F8 N8
        k_steps
        unfold StopHere
        rw [List.push_toArray] at N8
        exact q_end F8 N8 hfs hf9 hcs (by kst_same))
    · rintro ⟨fs, cs', cc⟩ u h tk hfs hcs F N
      dsimp only [kstB] at F hfs hcs
      replace N : News _ _ h ((R, listOf fs.toArray cc) :: (D, listOf vs'.toArray e) :: news) := N
      (try k_fold)
      k_steps
      refine hret _ _ _ _ (by k_asm) (kst_newsOf (l' := (R, listOf fs.toArray cc) :: news) (by assumption) ?_) ⟨R, fs, cc, srt, rfl, rfl, hP, hS, ?_⟩
      · intro p hp
        rcases List.mem_cons.mp hp with rfl | hp
        · exact .head _
        · exact .tail _ (.tail _ hp)
      · rw [← hcs]; exact hfs
    k_with_none)

theorem quantE (w : World) {news : List (Addr × Obj)} {l : Addr} {vs : List Value} {ns : List Int} {c : Nat} {n : Int} {tk tk2 : Tok}
    (hl : (l, listOf vs.toArray c) ∈ news) (hn : IntsAre vs ns) (hfit : Small ns) (hB : ∀ x ∈ ns, x.natAbs < 2 ^ 46) (hMu : ∀ x ∈ ns, ∃ q, x = n * q) (hM : Mid n) (h2 : 2 ≤ ns.length) :
    Says w 35 [.ref l] [(Str.ofString "n", .int n tk), (Str.ofString "method", .str (Str.ofString "exclusive") tk2)] 1 16 news (fun r news' => ∃ D fs c' srt, r = .ref D ∧ news' = (D, listOf fs.toArray c') :: news ∧ srt.Perm ns ∧ srt.Pairwise (· ≤ ·) ∧ FltsAre fs ((rangeKs 1 (n - 1).toNat).map (cutE srt n))) := by
  have hM1 := hM.lo
  have hM2 := hM.hi
  have hF := hfit.lt
  unfold Says
  w_on
  w_strict (
    k_fill
    intro mean mg mb dp un gd cn cs a ccd cl outer A₀ base h₀ L m s Q E B F X N T hk hd hu hret
    refine wpAny_call ?_
    k_dflt (refine' code_def ?k1 ?k2 ?k3 ?k4 ?k5 ?kA ?kF ?kK ?k6 ?k7 ?k8 ?k9 ?kB ?_ ?zzc2 ?zzc3 ?zzc4 ?zzc5; (case kA => exact rfl); (case kF => exact rfl); (case kK => assumption); (case k1 => k_asm); (case k2 => k_asm); (case k3 => k_asm); (case k4 => k_asm); (case k5 => k_asm); (case k6 => k_is); (case k7 => k_is); (case k8 => ktr_room); (case k9 => first | exact BindsTo.of_eq rfl | (refine' kp_binds ?kx ?ke; (case kx => k_in); (case ke => exact fun _ => rfl)) | exact binds_K (by k_in) rfl (by k_is) rfl rfl rfl); (case zzc5 => decide); (case kB => exact locs rfl); (case zzc2 => exact rfl); (case zzc3 => exact rfl); (case zzc4 => exact rfl); k_whole; intro g' L' h' FG' F' N' B' X' T'; (try dsimp only); (try k_lift B'); (try k_fold))
    k_with_none
    (k_with "mine call builtin:len" => (k_here; (with_reducible show wpAny _ _ (call (Value.builtin "len") [Value.ref _]) _ _ _); k_dflt (refine' len_num ?k1 ?k2 ?k3 ?k4 ?_; (case k1 => k_asm); (case k2 => first | kst_mem | k_memK); (case k3 => assumption); (case k4 => assumption)); k_whole))
    (k_with "mine subscriptTail Name Name ref int" => (k_here; (with_reducible show wpAny _ _ (subscriptTail _ _ (Value.ref _) (Value.int _ _)) _ _ _); k_dflt (refine' item_int ?k1 ?k2 ?k3 ?k4 ?k5 ?k6 ?_ ?k7; (case k1 => k_asm); (case k2 => first | kst_mem | k_memK); (case k3 => assumption); (case k6 => assumption); (case k4 => omega); (case k5 => omega); (case k7 => with_unfolding_all rfl); k_whole); intro t'))
    (k_with "mine subscriptTail Name BinOp ref int" => (k_here; (with_reducible show wpAny _ _ (subscriptTail _ _ (Value.ref _) (Value.int _ _)) _ _ _); k_dflt (refine' item_int ?k1 ?k2 ?k3 ?k4 ?k5 ?k6 ?_ ?k7; (case k1 => k_asm); (case k2 => first | kst_mem | k_memK); (case k3 => assumption); (case k6 => assumption); (case k4 => omega); (case k5 => omega); (case k7 => with_unfolding_all rfl); k_whole); intro t'))
    (k_with "mine binaryOp Div int int" => (k_here; k_dflt (refine div_exact rfl (by omega) (cutE_at (by assumption) (by assumption) (by first | exact jE_1 (by assumption) | exact jE_2 (by assumption) (by assumption) | exact jE_3 (by assumption) (by assumption))) (cutE_small (by assumption) (by assumption) (by assumption) (by assumption) (by assumption)) ?_); intro f' hf'))
    (k_with "call builtin:sorted" => (
      k_here
      k_dflt (refine' sorted_any (by k_asm) (by k_asm) hl hn (by omega) ?_)
      intro D h' vs' srt e F' N' l1 hI hP hS
      have hlen := hP.length_eq
      have hNu := NumsAre.of_ints hI
      have hSm : Small srt := ⟨by omega⟩
      have hNe : Near srt := near_of hP hB
      have hMt : Mult n srt := mult_of hP hMu
      have hle : 2 ≤ srt.length := by omega
      (try k_lt l1)))
    (k_with "newList" => (
      k_here
      k_dflt (refine' newList_K (by k_asm) (by k_asm) ?_)
      intro R h' F' N' l2
      (try k_lt l2)))
    (k_with "pyIter ref" => (refine stopHere ?_))
    (k_with "call builtin:list.append" => (refine stopHere ?_))
    (k_with "InvEndN" => (refine stopHere ?_))
    k_steps
    unfold StopHere
    k_here
    (rename Fr _ _ _ _ => lF'); (rename News _ _ _ _ => lN'); (rename IsRange _ _ _ _ _ _ _ _ => rgX)
    (with_unfolding_all refine' kst_range (σ := List Value × List Int × Nat) (ledQ R D (listOf vs'.toArray e) news) (fun _ => []) (fun c => FltsAre c.1 c.2.1) [Str.ofString "j", Str.ofString "delta", Str.ofString "interpolated"] (fun pre c => c.2.1 = pre.map (cutE srt n)) ([], [], 0) (by rfl) rgX (small_one (by omega) (by omega) (by omega) (by omega)) (rangeSize_nat _ _) lF' lN' FltsAre.nil (List.forall_mem_nil _) rfl ?_ ?_)
    all_goals (clear lF' lN')
    · rintro ⟨fs, cs', cc⟩ pre i ti u h tk own hi1 hi2 hoff hfs hcs F N
      dsimp only [kstB] at F hfs hcs hoff
      have hne : ∀ p ∈ ((D, listOf vs'.toArray e) :: (news ++ own)), p.1 ≠ R := off_R l2 hoff
      have hi3 : 1 ≤ i := by omega
      have hi4 : i < n := by omega
      have hb0 : 0 ≤ i * ((srt.length : Int) + 1) := Int.mul_nonneg (by omega) (by omega)
      have hb1 : i * ((srt.length : Int) + 1) ≤ 16 * 101 := Int.mul_le_mul (by omega) (by omega) (by omega) (by omega)
      have hc0 : 0 ≤ ((srt.length : Int) - 1) * n := Int.mul_nonneg (by omega) (by omega)
      have hc1 : ((srt.length : Int) - 1) * n ≤ 100 * 16 := Int.mul_le_mul (by omega) (by omega) (by omega) (by omega)
      obtain ⟨hq0, hq1⟩ := fdiv_near (a := i * ((srt.length : Int) + 1)) (show 0 < n by omega)
      have hcl : cs'.length < 20 := by rw [hcs, List.length_map]; omega
      have hfl : fs.length < 20 := by rw [hfs.length]; exact hcl
      replace N : News _ _ h ((R, listOf fs.toArray cc) :: (D, listOf vs'.toArray e) :: (news ++ own)) := N
      (try k_fold)
      k_steps
      all_goals (
        unfold StopHere
        k_here
        (rename News _ _ _ _ => nE9)
        (rename FltIs _ _ => hf9)
        have nF9 := kst_newsOf (l' := (R, listOf fs.toArray cc) :: (D, listOf vs'.toArray e) :: (news ++ own)) nE9 (by first | exact fun p hp => hp | exact fun p hp => List.Mem.tail _ hp)
        k_dflt (refine' append_K (D := R) (its := fs.toArray) (n := cc) (by k_asm) nF9 (Upd.head hne) ?_ (by rw [PySem.sizeLine_eq, List.size_toArray]; omega))
        intro h8 F8 N8
        k_steps
        unfold StopHere
        rw [List.push_toArray] at N8
        exact q_end F8 N8 hfs hf9 hcs (by kst_same))
    · rintro ⟨fs, cs', cc⟩ u h tk hfs hcs F N
      dsimp only [kstB] at F hfs hcs
      replace N : News _ _ h ((R, listOf fs.toArray cc) :: (D, listOf vs'.toArray e) :: news) := N
      (try k_fold)
      k_steps
      refine hret _ _ _ _ (by k_asm) (kst_newsOf (l' := (R, listOf fs.toArray cc) :: news) (by assumption) ?_) ⟨R, fs, cc, srt, rfl, rfl, hP, hS, ?_⟩
      · intro p hp
        rcases List.mem_cons.mp hp with rfl | hp
        · exact .head _
        · exact .tail _ (.tail _ hp)
      · rw [← hcs]; exact hfs
    k_with_none)
end
section
open PySem PyProof.Rows
set_option maxRecDepth 100000
/-- the order of the finite floats -/
abbrev fltKind : PyProof.Rows.KeyKind where
  α := Int
  blt a b := decide (a < b)
  irrefl a := by simp
  trans a b c h1 h2 := by simp only [decide_eq_true_eq] at *; omega
  negTrans a b c h := by simp only [decide_eq_true_eq] at *; omega
  total a b h1 h2 := by simp only [decide_eq_false_iff_not] at *; omega
  keyOf v := match v with | .float x _ => if Float64.isFinite x then some (Float64.val x) else none | _ => none
  dflt := 0
section
variable {prog : Program} {w : World} {A : Around} {E : Value → Shared → Prop} {s : Shared}
theorem isFin {x : UInt64} (h : Float64.isFinite x = true) : ∃ a m e, Float64.decode x = .fin a m e := by
  unfold Float64.isFinite at h
  cases hd : Float64.decode x with
  | nan => rw [hd] at h; cases h
  | inf _ => rw [hd] at h; cases h
  | fin a m e => exact ⟨a, m, e, rfl⟩
theorem oneLt_flt {a b : UInt64} {t u : Tok} {Q : Bool → Shared → Prop} (ha : Float64.isFinite a = true) (hb : Float64.isFinite b = true) (h : Q (decide (Float64.val a < Float64.val b)) s) :
    wpAny (model prog w) A (oneLt' true (.float a t) (.float b u)) Q E s := by
  obtain ⟨_, _, _, da⟩ := isFin ha
  obtain ⟨_, _, _, db⟩ := isFin hb
  rw [oneLt'_eq]
  simp only [if_true]
  refine wpAny_bind (wpAny_cRoomFor_byValue rfl ?_)
  refine wpAny_bind (wpAny_callSpecialIfBound?_slot (AutoFloatOps.typeIs_float s a t) F.slot_float_lt (call_gives F.slot_float_lt (AutoFloatOps.typeIs_float s a t) F.entry_float_lt (F.args_float_lt_2 _ _) (AutoFloatG5.float___lt___float_float_0 a t b u) ?_))
  show wpAny _ _ _ _ _ s
  rw [Float64.cmp_right da db]
  dsimp only
  rw [cmp_lt]
  exact wpAny_truthy_bool h
end
theorem fltKind_oneLt : fltKind.OneLt := by
  intro prog w A E s x y a b Q ha hb h
  cases x <;> simp only [fltKind, reduceCtorEq] at ha
  cases y <;> simp only [fltKind, reduceCtorEq] at hb
  split at ha
  · split at hb
    · rename_i h1 h2
      cases ha; cases hb
      exact oneLt_flt h1 h2 h
    · cases hb
  · cases ha
section
variable {prog : Program} {w : World} {A : Around} {E : Value → Shared → Prop} {s : Shared} {st : SortSt}
/-- a list that rises already: nothing is moved -/
theorem wpS_count_same {κ : PyProof.Rows.KeyKind} (hO : κ.OneLt) {n : Nat} {Q : Option Nat → SortSt → Prop} (hk : kindOf st = oneType') (hn : (arrOf st).size = n) (h1 : 1 ≤ n) (h0 : KeysOf κ (arrOf st)) (hs : SortedToK κ (arrOf st) n)
    (h : Q (some n) st) : wpS (model prog w) A E s (countRun' 0 n) Q st := by
  rw [countRun'_eq]
  dsimp only
  simp only [Nat.zero_add]
  refine wpS_bind (wpS_mono (wpS_forRange (I := fun x c st' => st' = st ∧ c = (none, x)) (Q := fun c st' => st' = st ∧ c = (none, n)) ?step ?fin ⟨rfl, rfl⟩) ?post)
  case fin =>
    rintro c st' ⟨rfl, rfl⟩
    exact ⟨rfl, by rw [show max 1 n = n by omega]⟩
  case step =>
    rintro x c st' hax hxn ⟨rfl, rfl⟩
    dsimp only
    have i1 : x < (arrOf st').size := by omega
    have i2 : x - 1 < (arrOf st').size := by omega
    obtain ⟨a, ea⟩ := h0 (arrOf st')[x] (by simp)
    obtain ⟨b, eb⟩ := h0 (arrOf st')[x - 1] (by simp)
    have ka : KK κ (arrOf st') x = a := by unfold KK; rw [getElem?_pos _ x i1]; simp [ea]
    have kb : KK κ (arrOf st') (x - 1) = b := by unfold KK; rw [getElem?_pos _ (x - 1) i2]; simp [eb]
    have hle := hs (x - 1) x (by omega) (by omega)
    rw [ka, kb] at hle
    have hle' : κ.blt a b = false := hle
    refine wpS_bind (wpS_ltAtK hO hk (getElem?_pos _ x i1) (getElem?_pos _ (x - 1) i2) ea eb ?_)
    rw [hle']
    exact wpS_pure ⟨rfl, rfl⟩
  case post =>
    rintro c st' ⟨rfl, rfl⟩
    dsimp only
    rw [if_pos (by simp)]
    exact wpS_pure h
theorem wpS_runs_same {κ : PyProof.Rows.KeyKind} (hO : κ.OneLt) {Q : Unit → SortSt → Prop} (hk : kindOf st = oneType') (hp : pendingOf st = #[]) (h2 : 2 ≤ (arrOf st).size) (h64 : (arrOf st).size < 64) (h0 : KeysOf κ (arrOf st)) (hs : SortedToK κ (arrOf st) (arrOf st).size)
    (h : ∀ st', arrOf st' = arrOf st → failedOf st' = failedOf st → Q () st') : wpS (model prog w) A E s sortRuns' Q st := by
  rw [sortRuns'_eq]
  refine wpS_bind (wpS_get ?_)
  dsimp only
  generalize hsz : (arrOf st).size = size at *
  have hmr : minRun' size size 0 = size := by
    obtain ⟨f, hf⟩ : ∃ f, size = f + 1 := ⟨size - 1, by omega⟩
    have : minRun' (f + 1) size 0 = size := by rw [minRun'_succ, if_pos h64]; rfl
    rwa [← hf] at this
  simp only [hmr]
  refine wpS_bind (wpS_mono (wpS_forRange
    (I := fun x c st' => (x = 0 ∧ c = (none, 0) ∧ st' = st) ∨ (1 ≤ x ∧ c = (none, size) ∧ st' = setPending st ((pendingOf st).push (0, size, 0))))
    (Q := fun c st' => c = (none, size) ∧ st' = setPending st ((pendingOf st).push (0, size, 0))) ?step ?fin (.inl ⟨rfl, rfl, rfl⟩)) ?post)
  case fin =>
    rintro c st' (⟨hx, _, _⟩ | ⟨_, hc, hD⟩)
    · omega
    · exact ⟨hc, hD⟩
  case step =>
    rintro x c st' _ hx (⟨rfl, rfl, rfl⟩ | ⟨hx1, rfl, hD⟩)
    · dsimp only
      rw [if_neg (by omega)]
      simp only [Nat.sub_zero, Nat.min_self, Nat.zero_add]
      refine wpS_bind (wpS_count_same hO hk hsz (by omega) h0 hs ?_)
      dsimp only
      rw [if_neg (Nat.lt_irrefl _)]
      refine wpS_bind (wpS_get ?_)
      have hb : (pendingOf st').back? = none := by rw [hp]; rfl
      rw [hb]
      dsimp only
      exact wpS_bind (wpS_modify (wpS_pure (.inr ⟨by omega, rfl, rfl⟩)))
    · dsimp only
      rw [if_pos (Nat.le_refl _)]
      exact wpS_pure ⟨rfl, hD⟩
  case post =>
    rintro c st' ⟨rfl, rfl⟩
    dsimp only
    refine wpS_bind (wpS_mono (wpS_forRange (I := fun _ c st'' => st'' = setPending st ((pendingOf st).push (0, size, 0)) ∧ c = (none, ())) (Q := fun c st'' => st'' = setPending st ((pendingOf st).push (0, size, 0)) ∧ c = (none, ())) ?_ (fun _ _ hh => hh) ⟨rfl, rfl⟩) ?_)
    · rintro x c st'' _ _ ⟨rfl, rfl⟩
      refine wpS_bind (wpS_get ?_)
      rw [if_pos (by show ((pendingOf st).push (0, size, 0)).size ≤ 1; rw [hp]; exact Nat.le_refl 1)]
      exact wpS_pure ⟨rfl, rfl⟩
    · rintro c st'' ⟨rfl, rfl⟩
      exact wpS_pure (h _ rfl rfl)
end
end
section
open PySem PySem.W PyProof.Rows PySem.Calls PySem.Spec
set_option maxRecDepth 100000
theorem FltIs.fin {b : UInt64} {k : Int} (h : FltIs b k) : Float64.isFinite b = true := by
  obtain ⟨⟨a, m, e, hd⟩, _⟩ := h
  unfold Float64.isFinite; rw [hd]
theorem FltsAre.all : ∀ {vs : List Value} {ks : List Int}, FltsAre vs ks → ∀ v ∈ vs, ∃ b t k, v = .float b t ∧ FltIs b k
  | _, _, .nil, v, hv => by simp at hv
  | _, _, .cons t hf h, v, hv => by
    rcases List.mem_cons.mp hv with rfl | hv
    · exact ⟨_, t, _, rfl, hf⟩
    · exact h.all v hv
theorem FltsAre.get {vs : List Value} {ks : List Int} (h : FltsAre vs ks) : ∀ (i : Nat) (hi : i < ks.length), ∃ b t, vs[i]? = some (.float b t) ∧ FltIs b ks[i] := by
  induction h with
  | nil => intro i hi; simp at hi
  | @cons b k t vs ks hf _ ih =>
    intro i hi
    cases i with
    | zero => exact ⟨b, t, rfl, hf⟩
    | succ i => exact ih i (by simpa using hi)
theorem FltsAre.keysOf {vs : List Value} {ks : List Int} (h : FltsAre vs ks) : KeysOf fltKind (pairsOf vs) := by
  intro p hp
  rw [pairsOf_toList] at hp
  obtain ⟨b, t, k, e, hf⟩ := h.all _ (mem_zip_self hp).2
  exact ⟨Float64.val b, by rw [e]; simp [fltKind, hf.fin]⟩
theorem mapM_first_flts : ∀ {vs : List Value} {ks : List Int}, FltsAre vs ks → vs.mapM firstOfTuple' = pure (vs.map fun _ => none)
  | _, _, .nil => by simp
  | _, _, .cons t hf h => by
    rw [List.mapM_cons, mapM_first_flts h]
    show (pure none >>= fun b => pure _ >>= fun bs => pure (b :: bs)) = _
    simp
theorem mapM_typeOf_flts : ∀ {vs : List Value} {ks : List Int}, FltsAre vs ks → vs.mapM typeOf = pure (vs.map fun _ => Value.type "float")
  | _, _, .nil => by simp
  | _, _, .cons t hf h => by
    rw [List.mapM_cons, mapM_typeOf_flts h]
    show (pure (Value.type "float") >>= fun b => pure _ >>= fun bs => pure (b :: bs)) = _
    simp
theorem keyKind_flts {v₁ v₂ : Value} {vs : List Value} {ks : List Int} (hS : FltsAre (v₁ :: v₂ :: vs) ks) : keyKind' (v₁ :: v₂ :: vs).toArray = pure oneType' := by
  rw [keyKind'_eq, List.mapM_toArray, mapM_first_flts hS]
  simp only [map_pure, pure_bind]
  rw [if_neg (by simp), if_neg (by simp)]
  rw [oneTypeOnly'_eq, List.mapM_toArray, mapM_typeOf_flts hS]
  simp only [map_pure, pure_bind]
  have hall : ((List.map (fun _ => Value.type "float") (v₁ :: v₂ :: vs)).toArray.all fun x => x == Value.type "float") = true := by
    simp only [List.all_toArray, List.all_map, List.all_eq_true]
    intro _ _
    rfl
  have h0 : (List.map (fun _ => Value.type "float") (v₁ :: v₂ :: vs)).toArray[0]? = some (Value.type "float") := by simp
  rw [h0]
  simp only [hall, if_true, pure_bind, Option.isSome_some]
theorem pairs_get {vs : List Value} {i : Nat} {v : Value} (h : vs[i]? = some v) : (pairsOf vs)[i]? = some (v, v) := by
  rw [← Array.getElem?_toList, pairsOf_toList, List.getElem?_zip_eq_some]
  exact ⟨h, h⟩
theorem FltsAre.sortedK {vs : List Value} {ks : List Int} (h : FltsAre vs ks) (hr : Rises ks) : SortedToK fltKind (pairsOf vs) (pairsOf vs).size := by
  intro i j hij hj
  rw [pairsOf_size, h.length] at hj
  obtain ⟨b, t, e1, f1⟩ := h.get i (by omega)
  obtain ⟨b', t', e2, f2⟩ := h.get j hj
  have k1 : KK fltKind (pairsOf vs) i = Float64.val b := by
    unfold KK; rw [pairs_get e1]; simp [fltKind, f1.fin]
  have k2 : KK fltKind (pairsOf vs) j = Float64.val b' := by
    unfold KK; rw [pairs_get e2]; simp [fltKind, f2.fin]
  rw [k1, k2, f1.2, f2.2]
  have h3 := hr i j hij hj
  have e3 : ks.getD i 0 = ks[i]'(by omega) := by simp [show i < ks.length by omega]
  have e4 : ks.getD j 0 = ks[j] := by simp [hj]
  rw [e3, e4] at h3
  show decide (_ < _) = false
  have := Int.mul_le_mul_of_nonneg_right h3 (Int.le_of_lt pow_pos')
  simp only [decide_eq_false_iff_not]
  omega
theorem pairs_snd (vs : List Value) : (pairsOf vs).map (·.2) = vs.toArray := by
  apply Array.toList_inj.mp
  rw [Array.toList_map, pairsOf_toList]
  exact List.map_snd_zip (Nat.le_refl _)
section
variable {prog : Program} {w : World} {A : Around} {E : Value → Shared → Prop} {s : Shared}
theorem sort_treeF {a : Addr} {vs : List Value} {ks : List Int} {n : Nat} {P : Fin → Shared → Prop} (ho : s.heap.get? a = some (seqObj "list" vs.toArray n))
    (hI : FltsAre vs ks) (hr : Rises ks) (h64 : vs.length < 64)
    (h : P (.done (.ret .none)) { s with heap := sortedHeap s.heap a vs vs.toArray }) :
    wpAny (model prog w) A (Builtin.«list.sort» ⟨[.ref a], []⟩) P E s := by
  have ha : a < s.heap.objs.size := Heap.lt_size ho
  obtain ⟨e1, ho1⟩ : ∃ e1, (s.heap.update a (Obj.mapSeq fun _ => #[])).get? a = some (seqObj "list" #[] e1) := ⟨_, get?_update_seq ho (fun _ => #[])⟩
  have ho6 : (((s.heap.update a (Obj.mapSeq fun _ => #[])).push (seqObj "tuple" vs.toArray 0)).push (seqObj "list" #[] 0)).get? a = some (seqObj "list" #[] e1) := by
    rw [Heap.get?_push_ne _ _ _ (by rw [size_push', Heap.size_update]; exact Nat.ne_of_lt (Nat.lt_succ_of_lt ha)), Heap.get?_push_ne _ _ _ (by rw [Heap.size_update]; exact Nat.ne_of_lt ha)]
    exact ho1
  have hps : (pairsOf vs).size = vs.length := pairsOf_size vs
  have hsz : vs.toArray.size = vs.length := by simp
  rw [list_sort_plain]
  refine wpAny_bind (listItems_at ho rfl ?_)
  refine wpAny_bind (listUpdate_at ho rfl ?_)
  refine wpAny_bind (seqEpoch_at ho1 rfl ?_)
  refine wpAny_bind (wpAny_newTuple ?_)
  refine wpAny_bind (wpAny_newList ?_)
  refine wpAny_holding ?_
  show wpAny (model prog w) A _ P E { s with heap := ((s.heap.update a (Obj.mapSeq fun _ => #[])).push (seqObj "tuple" vs.toArray 0)).push (seqObj "list" #[] 0) }
  dsimp only
  by_cases h2 : vs.toArray.size < 2
  · rw [if_pos h2, if_pos h2]
    refine wpAny_bind (wpAny_pure ?_)
    rw [StateT.run_pure]
    refine wpAny_bind (wpAny_pure ?_)
    dsimp only
    refine wpAny_bind (seqEpoch_at ho6 rfl ?_)
    refine wpAny_bind (listUpdate_at ho6 rfl ?_ (hsz2 := by rw [Array.size_map]; show (pairsOf vs).size ≤ _; rw [pairsOf_size, sizeLine_eq]; omega))
    simp only [bne_self_eq_false, Bool.false_eq_true, if_false]
    have : (vs.toArray.zip vs.toArray).map (·.2) = vs.toArray := pairs_snd vs
    rw [this]
    exact wpAny_pure h
  · rw [if_neg h2, if_neg h2]
    have hkk : keyKind' vs.toArray = pure oneType' := by
      match vs, h2 with
      | [], h2 => simp at h2
      | [_], h2 => simp at h2
      | v₁ :: v₂ :: rest, _ => exact keyKind_flts hI
    rw [hkk]
    refine wpAny_bind (wpAny_pure ?_)
    refine wpAny_bind (wpAny_mono (wpS_runs_same fltKind_oneLt (st := SortSt.mk' oneType' (vs.toArray.zip vs.toArray) #[] 7 none)
      (Q := fun _ st' => arrOf st' = pairsOf vs ∧ failedOf st' = none)
      rfl rfl (by show 2 ≤ (pairsOf vs).size; omega) (by show (pairsOf vs).size < 64; omega) hI.keysOf (hI.sortedK hr) fun st' a1 a2 => ⟨a1, a2⟩) ?_ fun _ _ e => e)
    rintro ⟨⟨⟩, st'⟩ s' ⟨rfl, hp, hf⟩
    dsimp only at hp hf ⊢
    rw [hp, pairs_snd]
    refine wpAny_bind (seqEpoch_at ho6 rfl ?_)
    refine wpAny_bind (listUpdate_at ho6 rfl ?_ (hsz2 := by rw [hsz, sizeLine_eq]; omega))
    rw [hf]
    simp only [bne_self_eq_false, Bool.false_eq_true, if_false]
    exact wpAny_pure h
theorem sortedF {l : Addr} {vs : List Value} {ks : List Int} {Q : Value → Shared → Prop} (hl : s.heap.IsList l vs.toArray) (hI : FltsAre vs ks) (hr : Rises ks) (h64 : vs.length < 64)
    (h : Q (.ref (s.heap.objs.size + 1)) { s with heap := sortedAll s.heap vs vs.toArray }) :
    wpAny (model prog w) A (call (.builtin "sorted") [.ref l]) Q E s := by
  refine Calls.call_function_entry kind_sorted plain_sorted entry_sorted (args_sorted1 _) ?_
  unfold Builtin.«sorted»
  refine wpAny_bind (m := checkCount "sorted" 1 1 _) (wpAny_pure ?_)
  refine wpAny_bind (collect_list hl ?_ (by rw [sizeLine_eq]; omega))
  refine wpAny_bind (wpAny_newList ?_)
  have hsz : ((s.heap.push (seqObj "list" #[] 0)).update s.heap.objs.size (Obj.mapSeq (· ++ vs.toArray))).objs.size = s.heap.objs.size + 1 := by
    rw [Heap.size_update, size_push']
  have hoL : (((s.heap.push (seqObj "list" #[] 0)).update s.heap.objs.size (Obj.mapSeq (· ++ vs.toArray))).push (seqObj "list" vs.toArray 0)).get? (s.heap.objs.size + 1) = some (seqObj "list" vs.toArray 0) := by
    rw [← hsz]; exact Heap.get?_push_size _ rfl
  show wpAny _ _ _ _ _ { s with heap := ((s.heap.push (seqObj "list" #[] 0)).update s.heap.objs.size (Obj.mapSeq (· ++ vs.toArray))).push (seqObj "list" vs.toArray 0) }
  rw [hsz]
  refine wpAny_bind (wpAny_holding (wpAny_call_entry slot_list_sort ⟨_, hoL, rfl⟩ entry_list_sort (sort_treeF hoL hI hr h64 ⟨_, rfl, ?_⟩) (args_list_sort _)))
  exact wpAny_pure ⟨_, rfl, h⟩
/-- sorted of floats that rise: a list of the same -/
theorem sorted_flts {h₀ : Heap} {L : Addr} {m : Str → Option Value} {news : List (Addr × Obj)} {l : Addr} {vs : List Value} {ks : List Int} {c : Nat} {Q : Value → Shared → Prop}
    (F : Fr h₀ L s.heap m) (N : News h₀ L s.heap news) (hm : (l, listOf vs.toArray c) ∈ news) (hI : FltsAre vs ks) (hr : Rises ks) (h64 : ks.length < 64)
    (h : ∀ D h' e, Fr h₀ L h' m → News h₀ L h' ((D, listOf vs.toArray e) :: news) → (∀ q ∈ news, q.1 < D) → Q (.ref D) { s with heap := h' }) :
    wpAny (model prog w) A (call (.builtin "sorted") [.ref l]) Q E s := by
  have hl : s.heap.IsList l vs.toArray := ⟨_, (N _ hm).1, rfl, c, rfl⟩
  have e1 := hI.length
  have lt : ∀ q ∈ news, q.1 < s.heap.objs.size + 1 := fun p hp => Nat.lt_succ_of_lt (Heap.lt_size (N p hp).1)
  refine sortedF hl hI hr (by omega) ?_
  obtain ⟨e, he⟩ := sortedAll_at s.heap vs vs.toArray
  exact h _ _ e (F.kept fun _ _ => sortedAll_old) (N.kept_cons F (fun _ _ => sortedAll_old) (Nat.le_succ _) he) lt
/-- two lists that hold the very same -/
theorem ne_same {h₀ : Heap} {L a b : Addr} {news : List (Addr × Obj)} {vs : Array Value} {c c' : Nat} {Q : Value → Shared → Prop} (N : News h₀ L s.heap news) (ha : (a, listOf vs c) ∈ news) (hb : (b, listOf vs c') ∈ news) (hu : A.units < cLine)
    (h : Q (.bool false) s) : wpAny (model prog w) A (compareOp .NotEq (.ref a) (.ref b)) Q E s := by
  have la : s.heap.IsList a vs := ⟨_, (N _ ha).1, rfl, c, rfl⟩
  have lb : s.heap.IsList b vs := ⟨_, (N _ hb).1, rfl, c', rfl⟩
  have := PySem.SeqAt.RcNeAt.lists (A := A) (e := fun _ => true) la lb rfl hu (fun j h1 h2 => PySem.SeqAt.EqAt.same _) prog w E Q
  refine this ?_
  have e : (!(List.range vs.size).all fun _ => true) = false := by simp
  rw [e]
  exact h
end
end
section
open PySem PySem.W PyProof.Rows PySem.Calls PySem.Spec
set_option maxRecDepth 100000
section
variable {prog : Program} {w : World} {A : Around} {E : Value → Shared → Prop} {s : Shared} {env : Env} {h₀ : Heap} {L l : Addr} {m : Str → Option Value} {news : List (Addr × Obj)} {vs : List Value} {c : Nat}
theorem tests_one {M : Model} {e : PySem.Expr} {en : Env} {Q : Bool → Shared → Prop} (h : wpAny M A (isTrue e en (eval e en)) Q E s) :
    wpAny M A (forIn [e] true fun c r => if r = true then do let ok ← isTrue c en (eval c en); pure (ForInStep.yield ok) else pure (ForInStep.yield r)) Q E s := by
  rw [List.forIn_cons]
  simp only [if_true]
  refine wpAny_bind (wpAny_bind (wpAny_mono h (fun ok s' hq => ?_) fun _ _ x => x))
  refine wpAny_pure ?_
  dsimp only
  rw [List.forIn_nil]
  exact wpAny_pure hq
theorem tests_nil {M : Model} {en : Env} {Q : Bool → Shared → Prop} (h : Q true s) :
    wpAny M A (forIn ([] : List PySem.Expr) true fun c r => if r = true then do let ok ← isTrue c en (eval c en); pure (ForInStep.yield ok) else pure (ForInStep.yield r)) Q E s := by
  rw [List.forIn_nil]
  exact wpAny_pure h
theorem int_flt {b : UInt64} {k : Int} {u : Tok} {Q : Value → Shared → Prop} (hf : FltIs b k) (h : Q (.int k s.toks) { s with toks := s.toks + 1 }) :
    wpAny (model prog w) A (call (.type "int") [.float b u]) Q E s := by
  obtain ⟨a, m, e, hd, ht⟩ := hf.trunc
  exact call_int_float hd (by rw [ht]; exact h)
theorem ne_flt_self {b : UInt64} {k : Int} {t u : Tok} {Q : Value → Shared → Prop} (hf : FltIs b k) (h : Q (.bool false) s) :
    wpAny (model prog w) A (compareOp .NotEq (.float b t) (.int k u)) Q E s := by
  refine ne_fi ?_
  have e : (Float64.cmpInt b k != some Ordering.eq) = false := by
    rw [hf.cmpInt]
    simp
  rw [e]
  exact h
/-- a comprehension over a list of the ledger -/
theorem comp_list {elt iter : PySem.Expr} {x : Str} {px : Pos} {ifs : List PySem.Expr} {scope : Scope} {pos : Pos} {Q : Value → Shared → Prop} (p : Value → Bool) (F : Value → Value → Prop)
    (hF : Fr h₀ L s.heap m) (hN : News h₀ L s.heap news) (hm : (l, listOf vs.toArray c) ∈ news) (hlen : vs.length < 1000) (hh : A.handled = none)
    (hiter : ∀ (Q' : Value → Shared → Prop), Q' (.ref l) s → wpAny (model prog w) A (eval iter env) Q' E s)
    (hclos : closureFor scope env = pure []) (hcell : ∀ y ∈ scope.names, y.2 ≠ .cell) (hkind : scope.kind = .function)
    (hnames : ∀ y ∈ scope.names, y.2 = .local → scope.names.lookup y.1 = some .local) (hx : scope.names.lookup x = some .local)
    (htests : ∀ C v s₃ m₃ E', v ∈ vs → s₃.heap.Ns C m₃ → m₃ x = some v → (∀ b o, s.heap.get? b = some o → s₃.heap.get? b = some o) →
      wpAny (model prog w) A (forIn ifs true fun c r => if r = true then do let ok ← isTrue c (compEnvC scope [] C env) (eval c (compEnvC scope [] C env)); pure (ForInStep.yield ok) else pure (ForInStep.yield r))
        (fun ok s₄ => ok = p v ∧ Keeps s₃ s₄) E' s₃)
    (helt : ∀ C v s₃ m₃ E', v ∈ vs → p v = true → s₃.heap.Ns C m₃ → m₃ x = some v → (∀ b o, s.heap.get? b = some o → s₃.heap.get? b = some o) →
      wpAny (model prog w) A (eval elt (compEnvC scope [] C env)) (fun y s₄ => F v y ∧ Keeps s₃ s₄) E' s₃)
    (h : ∀ D h' tk ys c', Fr h₀ L h' m → News h₀ L h' ((D, listOf ys c') :: news) → Paired F (vs.filter p) ys.toList → Q (.ref D) { s with heap := h', toks := tk })
    (hs : ∀ x, foldedSetIterable iter env x = pure x := by intro _; rfl) :
    wpAny (model prog w) A (eval (.ListComp elt [⟨.Name x px, iter, ifs, 0⟩] scope pos) env) Q E s := by
  have hl : s.heap.IsList l vs.toArray := ⟨_, (hN _ hm).1, rfl, c, rfl⟩
  have hlt : l < s.heap.objs.size := Heap.lt_size (hN _ hm).1
  refine wpAny_ListComp_free p F hclos hcell hkind hnames hx (hiter _ ?_) hs
  refine wpAny_pyIter_list hl ?_
  generalize hs2 : s.heap.push { cls := .type "list_iterator", data := .fields #[.ref l, .int 0 0] } = H2
  have up : ∀ b o, s.heap.get? b = some o → H2.get? b = some o := fun b o e => by rw [← hs2]; exact Heap.get?_push_of_some _ e
  have hne : l ≠ s.heap.objs.size := Nat.ne_of_lt hlt
  have nw : ∀ b o, s.heap.get? b = some o → b ∉ [s.heap.objs.size] := fun b o e hb => by
    rw [List.mem_singleton] at hb
    exact absurd (Heap.lt_size e) (hb ▸ Nat.lt_irrefl _)
  have hsz2 : H2.objs.size = s.heap.objs.size + 1 := by rw [← hs2, Heap.size_push]
  refine ⟨s.heap.objs.size, [s.heap.objs.size, l], [s.heap.objs.size], vs.toArray.size, _, _, rfl, Walks.list hh _ l hne vs.toArray, by rw [sizeLine_eq]; simp; omega, ?_, ?_, ⟨?_, ?_⟩, ?_⟩
  · exact ⟨⟨_, by rw [← hs2]; exact Heap.get?_push_size _ rfl, rfl, rfl⟩, hl.at fun o e => up _ _ e⟩
  · intro b hb
    show b < H2.objs.size
    rw [hsz2]
    rcases List.mem_cons.mp hb with rfl | hb
    · exact Nat.lt_succ_self _
    · rw [List.mem_singleton.mp hb]; exact Nat.lt_succ_of_lt hlt
  · intro C i v s₃ m₃ E' _ hP hn hx' hk _
    refine htests C v s₃ m₃ E' ?_ hn hx' fun b o e => hk b o (nw b o e) (up b o e)
    have : vs[i]? = some v := by simpa using hP
    exact List.mem_of_getElem? this
  · intro C i v s₃ m₃ E' _ hP hp hn hx' hk _
    refine helt C v s₃ m₃ E' ?_ hp hn hx' fun b o e => hk b o (nw b o e) (up b o e)
    have : vs[i]? = some v := by simpa using hP
    exact List.mem_of_getElem? this
  · intro D h' tk ys us hD _ hpl hul hP hpd hk
    have e1 : us = vs := by
      apply List.ext_getElem?
      intro j
      cases hj : us[j]? with
      | none =>
        have h1 : us.length ≤ j := by simpa using hj
        have h2 : vs.toArray.size = vs.length := by simp
        exact (List.getElem?_eq_none (by omega)).symm
      | some v =>
        have := hP j v hj
        have h2 : vs[j]? = some v := by simpa using this
        exact h2.symm
    subst e1
    have keep : ∀ b o, s.heap.get? b = some o → h'.get? b = some o := fun b o e => hk b o (nw b o e) (up b o e)
    obtain ⟨c', hc'⟩ := hpl
    have hDn : s.heap.get? D = none := by
      cases q : s.heap.get? D with
      | none => rfl
      | some o => have := up _ _ q; rw [hD] at this; cases this
    refine h D h' tk ys c' (hF.kept keep) ?_ hpd
    intro q hq
    rcases List.mem_cons.mp hq with rfl | hq
    · refine ⟨hc', ?_, ?_⟩
      · intro e
        obtain ⟨oL, _, _, hL, _⟩ := hF.ns
        have e' : D = L := e
        rw [e', hL] at hDn; cases hDn
      · cases q : h₀.get? D with
        | none => rfl
        | some o => have := hF.keep _ _ q; rw [hDn] at this; cases this
    · exact ⟨keep _ _ (hN q hq).1, (hN q hq).2⟩
end
theorem FltIs.unique {b : UInt64} {k k' : Int} (h : FltIs b k) (h' : FltIs b k') : k = k' := by
  have := h.2.symm.trans h'.2
  exact Int.eq_of_mul_eq_mul_right (Int.ne_of_gt pow_pos') this
def IntOf (v y : Value) : Prop := ∀ b t k, v = .float b t → FltIs b k → ∃ u, y = .int k u
theorem IntOf.of {b : UInt64} {t u : Tok} {k : Int} (h : FltIs b k) : IntOf (.float b t) (.int k u) := by
  intro b' t' k' e hf'
  cases e
  obtain rfl := h.unique hf'
  exact ⟨_, rfl⟩
theorem ints_of : ∀ {vs : List Value} {ks : List Int}, FltsAre vs ks → ∀ {ys : List Value}, Paired IntOf vs ys → IntsAre ys ks
  | _, _, .nil, _, .nil => .nil
  | _, _, .cons t hf h, _, .cons hF hp => by
    obtain ⟨u, rfl⟩ := hF _ _ _ rfl hf
    exact .cons _ _ (ints_of h hp)
end
section
open PySem PySem.W PyProof.Rows PySem.Calls PySem.Spec
set_option maxRecDepth 100000
set_option maxHeartbeats 8000000

theorem lawRight (w : World) {news : List (Addr × Obj)} {lc lr : Addr} {fs vs : List Value} {ks rs : List Int} {c c2 : Nat} {n : Int} {tk : Tok}
    (hlc : (lc, listOf fs.toArray c) ∈ news) (hfs : FltsAre fs ks) (hkl : (ks.length : Int) = n - 1) (hkr : Rises ks)
    (hlr : (lr, listOf vs.toArray c2) ∈ news) (hn : IntsAre vs rs) (hfit : Small rs) (hB : Near rs) (hM : Mid n) (hrr : Rises rs)
    (hlawL : ∀ x ∈ ks, ∀ p q, LeftAt ks x p → LeftAt rs x q → (p : Int) = belowL rs n x q)
    (hlawR : ∀ x ∈ ks, ∀ p q, RightAt ks x p → RightAt rs x q → (p : Int) = belowR rs n x q) :
    Says w 74 [.ref lc, .ref lr, .int n tk] [] 3 24 news (fun r news' => r = .bool true ∧ news = news') := by
  have hM1 := hM.lo
  have hM2 := hM.hi
  have hF := hfit.lt
  have hkn := hfs.nums
  have hks : Small ks := ⟨by omega⟩
  unfold Says
  w_on
  w_strict (
    k_fill
    intro mean mg mb dp un gd cn cs a ccd cl outer A₀ base h₀ L m s Q E B F X N T hk hd hu hret
    refine wpAny_call ?_
    k_dflt (refine' code_def ?k1 ?k2 ?k3 ?k4 ?k5 ?kA ?kF ?kK ?k6 ?k7 ?k8 ?k9 ?kB ?_ ?zzc2 ?zzc3 ?zzc4 ?zzc5; (case kA => exact rfl); (case kF => exact rfl); (case kK => assumption); (case k1 => k_asm); (case k2 => k_asm); (case k3 => k_asm); (case k4 => k_asm); (case k5 => k_asm); (case k6 => k_is); (case k7 => k_is); (case k8 => ktr_room); (case k9 => first | exact BindsTo.of_eq rfl | (refine' kp_binds ?kx ?ke; (case kx => k_in); (case ke => exact fun _ => rfl)) | exact binds_K (by k_in) rfl (by k_is) rfl rfl rfl); (case zzc5 => decide); (case kB => exact locs rfl); (case zzc2 => exact rfl); (case zzc3 => exact rfl); (case zzc4 => exact rfl); k_whole; intro g' L' h' FG' F' N' B' X' T'; (try dsimp only); (try k_lift B'); (try k_fold))
    k_with_none
    (k_with "mine call builtin:len" => (k_here; (with_reducible show wpAny _ _ (call (Value.builtin "len") [Value.ref _]) _ _ _); k_dflt (refine' len_num ?k1 ?k2 ?k3 ?k4 ?_; (case k1 => k_asm); (case k2 => first | kst_mem | k_memK); (case k3 => assumption); (case k4 => assumption)); k_whole))
    (k_with "mine call type:int" => (k_dflt (refine int_flt (by assumption) ?_)))
    (k_with "mine compareOp NotEq float int" => (k_dflt (refine ne_flt_self (by assumption) ?_)))
    (k_with "mine call ref" => (k_here; (with_reducible show wpAny _ _ (call (Value.ref 53) [Value.ref _, Value.int _ _]) _ _ _); k_dflt (refine' says_use (bisR _ ?zzhm ?zzha0 ?zzha1 ?zzha2) ?k1 ?k2 ?k3 ?k4 ?k5 ?k6 ?k7 ?k8 ?_; (case k1 => k_asm); (case k2 => k_asm); (case k3 => k_asm); (case k4 => k_asm); (case k5 => k_asm); (case k6 => first | exact rfl | assumption); (case k7 => ktr_room); (case k8 => ktr_units); (case zzhm => first | kst_mem | k_memK); (case zzha0 => assumption); (case zzha1 => assumption); (case zzha2 => assumption); skip); (rintro r' news' h' tk' F' N' ⟨e1', p', t', e2', hp'⟩); subst e1'; subst e2'; (try dsimp only); (try k_fold)))
    (k_with "mine call ref" => (k_here; (with_reducible show wpAny _ _ (call (Value.ref 62) [Value.ref _, Value.int _ _]) _ _ _); k_dflt (refine' says_use (bisL _ ?zzhm ?zzha0 ?zzha1 ?zzha2) ?k1 ?k2 ?k3 ?k4 ?k5 ?k6 ?k7 ?k8 ?_; (case k1 => k_asm); (case k2 => k_asm); (case k3 => k_asm); (case k4 => k_asm); (case k5 => k_asm); (case k6 => first | exact rfl | assumption); (case k7 => ktr_room); (case k8 => ktr_units); (case zzhm => first | kst_mem | k_memK); (case zzha0 => assumption); (case zzha1 => assumption); (case zzha2 => assumption); skip); (rintro r' news' h' tk' F' N' ⟨e1', p', t', e2', hp'⟩); subst e1'; subst e2'; (try dsimp only); (try k_fold)))
    (k_with "mine call ref" => (k_here; (with_reducible show wpAny _ _ (call (Value.ref 69) [Value.ref _, Value.int _ _, Value.int _ _, Value.bool true]) _ _ _); k_dflt (refine' says_use (belowTrue _ ?zzhm ?zzha0 ?zzha1 ?zzha2 ?zzha3 ?zzha4) ?k1 ?k2 ?k3 ?k4 ?k5 ?k6 ?k7 ?k8 ?_; (case k1 => k_asm); (case k2 => k_asm); (case k3 => k_asm); (case k4 => k_asm); (case k5 => k_asm); (case k6 => first | exact rfl | assumption); (case k7 => ktr_room); (case k8 => ktr_units); (case zzhm => first | kst_mem | k_memK); (case zzha0 => assumption); (case zzha1 => assumption); (case zzha2 => assumption); (case zzha3 => assumption); (case zzha4 => assumption); skip); (rintro r' news' h' tk' F' N' ⟨e1', p', t', e2', hp'⟩); subst e1'; subst e2'; (try dsimp only); (try k_fold)))
    (k_with "mine call ref" => (k_here; (with_reducible show wpAny _ _ (call (Value.ref 69) [Value.ref _, Value.int _ _, Value.int _ _, Value.bool false]) _ _ _); k_dflt (refine' says_use (belowFalse _ ?zzhm ?zzha0 ?zzha1 ?zzha2 ?zzha3 ?zzha4) ?k1 ?k2 ?k3 ?k4 ?k5 ?k6 ?k7 ?k8 ?_; (case k1 => k_asm); (case k2 => k_asm); (case k3 => k_asm); (case k4 => k_asm); (case k5 => k_asm); (case k6 => first | exact rfl | assumption); (case k7 => ktr_room); (case k8 => ktr_units); (case zzhm => first | kst_mem | k_memK); (case zzha0 => assumption); (case zzha1 => assumption); (case zzha2 => assumption); (case zzha3 => assumption); (case zzha4 => assumption); skip); (rintro r' news' h' tk' F' N' ⟨e1', p', t', e2', hp'⟩); subst e1'; subst e2'; (try dsimp only); (try k_fold)))
    (k_with "call builtin:sorted" => (
      k_here
      k_dflt (refine' sorted_flts (by k_asm) (by k_asm) hlc hfs hkr (by omega) ?_)
      intro D h' e F' N' l1
      (try k_lt l1)))
    (k_with "compareOp NotEq ref ref" => (
      k_here
      k_dflt (refine' ne_same (by k_asm) (by first | kst_mem | k_memK) (by first | kst_mem | k_memK) (by ktr_units) ?_)))
    (k_with "eval ListComp" => (refine stopHere ?_))
    (k_with "exec For Name ListComp cons nil" => (k_here; (rename Fr _ _ _ _ => lF'); (with_unfolding_all refine' For_invVF lF' ?k1 ?k2 ?_; (case k1 => exact rfl); (case k2 => exact rfl); k_whole)))
    (k_with "pyIter ref" => (refine stopHere ?_))
    k_steps
    · exact absurd hkl (by assumption)
    unfold StopHere
    k_here
    k_dflt (refine' comp_list (fun _ => false) (fun _ _ => True) (by k_asm) (by k_asm) (List.Mem.tail _ hlc) (by have := hfs.length; have := hks.lt; omega) rfl ?hi ?hc ?hcell ?hkind ?hnames ?hx ?ht ?he ?_ ?hs)
    (case hc => with_unfolding_all rfl)
    (case hcell => decide)
    (case hkind => rfl)
    (case hnames => decide)
    (case hx => rfl)
    (case hs => intro _; with_unfolding_all rfl)
    (case he => intro C v s3 m3 E' hv hp; cases hp)
    (case hi =>
      intro Q' hq
      k_steps
      exact hq)
    (case ht =>
      intro C v s3 m3 E' hv hns hm3 hkeep
      obtain ⟨b, t, k, rfl, hf⟩ := hfs.all v hv
      refine tests_one ?_
      (rename News _ _ _ _ => nE9)
      (rename Fr _ _ _ _ => fE9)
      have cF' := Fr.keeps fE9 hkeep
      have cN' := News.grown nE9 hkeep
      k_steps
      all_goals exact ⟨_, _, rfl, fun _ _ e => e⟩)
    intro D2 h2 tk2 ys c2 F2 N2 hp2
    have hys : ys = #[] := by
      have e0 : fs.filter (fun _ => false) = [] := by simp
      rw [e0] at hp2
      generalize hyl : ys.toList = yl at hp2
      cases hp2
      exact Array.toList_inj.mp hyl
    subst hys
    (try k_fold)
    k_steps
    unfold StopHere
    k_here
    (rename News _ _ _ _ => nE9)
    have nF9 := kst_newsOf (l' := news) nE9 (by intro p hp; exact .tail _ (.tail _ (.tail _ hp)))
    k_dflt (refine' comp_list (fun _ => true) IntOf (by k_asm) nF9 hlc (by have := hfs.length; have := hks.lt; omega) rfl ?hi ?hc ?hcell ?hkind ?hnames ?hx ?ht ?he ?_ ?hs)
    (case hc => with_unfolding_all rfl)
    (case hcell => decide)
    (case hkind => rfl)
    (case hnames => decide)
    (case hx => rfl)
    (case hs => intro _; with_unfolding_all rfl)
    (case hi =>
      intro Q' hq
      k_steps
      exact hq)
    (case ht =>
      intro C v s3 m3 E' hv hns hm3 hkeep
      exact tests_nil ⟨rfl, _, _, rfl, fun _ _ e => e⟩)
    (case he =>
      intro C v s3 m3 E' hv _ hns hm3 hkeep
      obtain ⟨b, t, k, rfl, hf⟩ := hfs.all v hv
      (rename Fr _ _ _ _ => fE9)
      have cF' := Fr.keeps fE9 hkeep
      have cN' := News.grown nF9 hkeep
      k_steps
      · exact IntOf.of hf
      · exact ⟨_, _, rfl, fun _ _ e => e⟩)
    intro D4 h4 tk4 ys c4 F4 N4 hp4
    have hI4 : IntsAre ys.toList ks := by
      have e0 : fs.filter (fun _ => true) = fs := by simp
      rw [e0] at hp4
      exact ints_of hfs hp4
    obtain ⟨yl, rfl⟩ : ∃ yl : List Value, ys = yl.toArray := ⟨ys.toList, by simp⟩
    (try k_fold)
    k_steps
    unfold StopHere
    k_here
    (rename Fr _ _ _ _ => lF'); (rename News _ _ _ _ => lN')
    (with_unfolding_all refine' kst_listL (σ := Unit) (vs := yl) (ns := ks) (nn := c4) (fun _ => (D4, listOf yl.toArray c4) :: news) (fun _ => []) (fun _ => True) [] (fun _ _ => True) () (by rfl) (fun _ => List.Mem.head _) (by simpa using hI4) lF' lN' True.intro (List.forall_mem_nil _) True.intro ?_ ?_)
    all_goals (clear lF' lN')
    · rintro ⟨⟩ pre post x tx u h tk own hpre hxm hoff _ _ F N
      dsimp only [kstB] at F
      replace N : News _ _ h ((D4, listOf yl.toArray c4) :: (news ++ own)) := N
      (try k_fold)
      k_steps
      · exfalso
        (rename ((_ : Int) ≠ belowL rs n x _) => hne9)
        exact hne9 (hlawL x hxm _ _ (by assumption) (by assumption))
      · exfalso
        (rename ((_ : Int) ≠ belowR rs n x _) => hne9)
        exact hne9 (hlawR x hxm _ _ (by assumption) (by assumption))
    · rintro ⟨⟩ u h tk _ _ F N
      dsimp only [kstB] at F
      (try k_fold)
      k_steps
      exact hret _ _ _ _ (by k_asm) (kst_newsOf (l' := news) (by assumption) fun p hp => List.Mem.tail _ hp) ⟨rfl, rfl⟩
    k_with_none)
end
section
open PySem PySem.W PyProof.Rows
set_option linter.unusedVariables false
/-- n times the line through the items, at the place a / n -/
def G (rs : List Int) (n a : Int) : Int := rs.getD (a / n).toNat 0 * (n - a % n) + rs.getD (a / n + 1).toNat 0 * (a % n)
theorem numI_G {rs : List Int} {n i : Int} (hn : 0 < n) : numI rs n i = G rs n (i * ((rs.length : Int) - 1)) := by
  unfold numI jI dI G
  rw [fdiv_eq hn, fmod_eq hn]
section
variable {rs : List Int} {n : Int}
theorem G_lo (hr : Rises rs) (hn : 0 < n) {a : Int} (h0 : 0 ≤ a) (h1 : a ≤ n * ((rs.length : Int) - 1)) (hl : 1 ≤ rs.length) : n * rs.getD (a / n).toNat 0 ≤ G rs n a := by
  have e := Int.emod_add_mul_ediv a n
  have d0 := Int.emod_nonneg a (Int.ne_of_gt hn)
  have d1 := Int.emod_lt_of_pos a hn
  have j0 : 0 ≤ a / n := Int.ediv_nonneg h0 (Int.le_of_lt hn)
  have j1 : a / n ≤ (rs.length : Int) - 1 := by
    have := Int.ediv_le_ediv hn h1
    rwa [Int.mul_ediv_cancel_left _ (Int.ne_of_gt hn)] at this
  unfold G
  by_cases hj : a / n = (rs.length : Int) - 1
  · have hd : a % n = 0 := by
      rw [hj] at e
      omega
    rw [hd]
    grind
  · have hle := hr (a / n).toNat (a / n + 1).toNat (by omega) (by omega)
    have := Int.mul_nonneg (show 0 ≤ rs.getD (a / n + 1).toNat 0 - rs.getD (a / n).toNat 0 by omega) d0
    grind
theorem G_hi (hr : Rises rs) (hn : 0 < n) {a : Int} (h0 : 0 ≤ a) (hj : a / n + 1 < rs.length) : G rs n a ≤ n * rs.getD (a / n + 1).toNat 0 := by
  have d0 := Int.emod_nonneg a (Int.ne_of_gt hn)
  have d1 := Int.emod_lt_of_pos a hn
  have j0 : 0 ≤ a / n := Int.ediv_nonneg h0 (Int.le_of_lt hn)
  have hle := hr (a / n).toNat (a / n + 1).toNat (by omega) (by omega)
  have := Int.mul_nonneg (show 0 ≤ rs.getD (a / n + 1).toNat 0 - rs.getD (a / n).toNat 0 by omega) (show 0 ≤ n - a % n by omega)
  unfold G
  grind
/-- ahead of an item -/
theorem G_before (hr : Rises rs) (hn : 0 < n) {a q : Int} (h0 : 0 ≤ a) (hq : q < rs.length) (h1 : a ≤ n * q) : G rs n a ≤ n * rs.getD q.toNat 0 := by
  have j0 : 0 ≤ a / n := Int.ediv_nonneg h0 (Int.le_of_lt hn)
  have jq : a / n ≤ q := by
    have := Int.ediv_le_ediv hn h1
    rwa [Int.mul_ediv_cancel_left _ (Int.ne_of_gt hn)] at this
  by_cases hj : a / n = q
  · have e := Int.emod_add_mul_ediv a n
    have d0 := Int.emod_nonneg a (Int.ne_of_gt hn)
    rw [hj] at e
    have hd : a % n = 0 := by omega
    unfold G
    rw [hd, hj]
    grind
  · have h2 := G_hi hr hn h0 (show a / n + 1 < rs.length by omega)
    have h3 := hr (a / n + 1).toNat q.toNat (by omega) (by omega)
    have h4 := Int.mul_le_mul_of_nonneg_left h3 (Int.le_of_lt hn)
    omega
/-- behind an item -/
theorem G_behind (hr : Rises rs) (hn : 0 < n) {a q : Int} (hq0 : 0 ≤ q) (h1 : n * q ≤ a) (h2 : a ≤ n * ((rs.length : Int) - 1)) (hl : 1 ≤ rs.length) : n * rs.getD q.toNat 0 ≤ G rs n a := by
  have h0 : 0 ≤ a := Int.le_trans (Int.mul_nonneg (Int.le_of_lt hn) hq0) h1
  have jq : q ≤ a / n := by
    have := Int.ediv_le_ediv hn h1
    rwa [Int.mul_ediv_cancel_left _ (Int.ne_of_gt hn)] at this
  have j1 : a / n ≤ (rs.length : Int) - 1 := by
    have := Int.ediv_le_ediv hn h2
    rwa [Int.mul_ediv_cancel_left _ (Int.ne_of_gt hn)] at this
  have h3 := hr q.toNat (a / n).toNat (by omega) (by omega)
  have h4 := Int.mul_le_mul_of_nonneg_left h3 (Int.le_of_lt hn)
  have h5 := G_lo hr hn h0 h2 hl
  omega
/-- between two items -/
theorem G_within (hn : 0 < n) {a q : Int} (hq0 : 0 ≤ q) (h1 : n * q ≤ a) (h2 : a ≤ n * (q + 1)) : G rs n a = n * rs.getD q.toNat 0 + (a - n * q) * (rs.getD (q + 1).toNat 0 - rs.getD q.toNat 0) := by
  have e := Int.emod_add_mul_ediv a n
  have d0 := Int.emod_nonneg a (Int.ne_of_gt hn)
  have d1 := Int.emod_lt_of_pos a hn
  have jq : q ≤ a / n := by
    have := Int.ediv_le_ediv hn h1
    rwa [Int.mul_ediv_cancel_left _ (Int.ne_of_gt hn)] at this
  have jq1 : a / n ≤ q + 1 := by
    have := Int.ediv_le_ediv hn h2
    rwa [Int.mul_ediv_cancel_left _ (Int.ne_of_gt hn)] at this
  unfold G
  by_cases hj : a / n = q
  · rw [hj] at e ⊢
    have hd : a % n = a - n * q := by omega
    rw [hd]
    grind
  · have hj' : a / n = q + 1 := by omega
    rw [hj'] at e ⊢
    have hd : a % n = 0 := by omega
    have ha : a = n * (q + 1) := by omega
    rw [hd, ha]
    grind
theorem G_mono (hr : Rises rs) (hn : 0 < n) {a b : Int} (h0 : 0 ≤ a) (hab : a ≤ b) (hb : b ≤ n * ((rs.length : Int) - 1)) (hl : 1 ≤ rs.length) : G rs n a ≤ G rs n b := by
  have e := Int.emod_add_mul_ediv a n
  have d0 := Int.emod_nonneg a (Int.ne_of_gt hn)
  have d1 := Int.emod_lt_of_pos a hn
  have e' := Int.emod_add_mul_ediv b n
  have d0' := Int.emod_nonneg b (Int.ne_of_gt hn)
  have d1' := Int.emod_lt_of_pos b hn
  have j0 : 0 ≤ a / n := Int.ediv_nonneg h0 (Int.le_of_lt hn)
  have jj : a / n ≤ b / n := Int.ediv_le_ediv hn hab
  have j1 : b / n ≤ (rs.length : Int) - 1 := by
    have := Int.ediv_le_ediv hn hb
    rwa [Int.mul_ediv_cancel_left _ (Int.ne_of_gt hn)] at this
  by_cases hj : a / n = b / n
  · by_cases hl' : b / n = (rs.length : Int) - 1
    · have hb0 : b % n = 0 := by rw [hl'] at e'; omega
      have ha0 : a % n = 0 := by rw [hj, hl'] at e; rw [hl'] at e'; omega
      unfold G
      rw [hj, hb0, ha0]
      exact Int.le_refl _
    · have hle := hr (b / n).toNat (b / n + 1).toNat (by omega) (by omega)
      have hdd : a % n ≤ b % n := by rw [hj] at e; omega
      unfold G
      rw [hj]
      have := Int.mul_nonneg (show 0 ≤ rs.getD (b / n + 1).toNat 0 - rs.getD (b / n).toNat 0 by omega) (show 0 ≤ b % n - a % n by omega)
      grind
  · have h2 := G_hi hr hn h0 (show a / n + 1 < rs.length by omega)
    have h3 := hr (a / n + 1).toNat (b / n).toNat (by omega) (by omega)
    have h4 := Int.mul_le_mul_of_nonneg_left h3 (Int.le_of_lt hn)
    have h5 := G_lo hr hn (by omega) hb hl
    omega
end
end
section
open PySem PySem.W PyProof.Rows
set_option linter.unusedVariables false
section
variable {rs : List Int} {n : Int}
theorem at_lo {i : Int} (h2 : 2 ≤ rs.length) (hi : 1 ≤ i) : 0 ≤ i * ((rs.length : Int) - 1) := Int.mul_nonneg (by omega) (by omega)
theorem at_hi {i : Int} (h2 : 2 ≤ rs.length) (hi : i < n) : i * ((rs.length : Int) - 1) ≤ n * ((rs.length : Int) - 1) := Int.mul_le_mul_of_nonneg_right (by omega) (by omega)
theorem cut_lt {i x : Int} (hM : Mid n) (hm : Mult n rs) : cutI rs n i < x ↔ G rs n (i * ((rs.length : Int) - 1)) < n * x := by
  have h1 := hM.lo
  rw [← numI_G (by omega), cutI_eq hM hm]
  constructor
  · intro h; exact Int.mul_lt_mul_of_pos_left h (by omega)
  · intro h; exact Int.lt_of_mul_lt_mul_left h (by omega)
theorem cut_le {i x : Int} (hM : Mid n) (hm : Mult n rs) : cutI rs n i ≤ x ↔ G rs n (i * ((rs.length : Int) - 1)) ≤ n * x := by
  have h1 := hM.lo
  rw [← numI_G (by omega), cutI_eq hM hm]
  constructor
  · intro h; exact Int.mul_le_mul_of_nonneg_left h (by omega)
  · intro h; exact Int.le_of_mul_le_mul_left h (by omega)
theorem gone_split (lo hi x q N i : Int) : n * ((q - 1) * (hi - lo) + x - lo) - i * (N * (hi - lo)) = n * (x - lo) - (i * N - n * (q - 1)) * (hi - lo) := by
  grind
theorem G_lt_iff (hr : Rises rs) (hn : 0 < n) (h2 : 2 ≤ rs.length) {a x q : Int} (h0 : 0 ≤ a) (h1 : a ≤ n * ((rs.length : Int) - 1)) (q1 : 1 ≤ q) (q2 : q < rs.length)
    (hlo : rs.getD (q - 1).toNat 0 < x) (hhi : x ≤ rs.getD q.toNat 0) :
    G rs n a < n * x ↔ (a - n * (q - 1)) * (rs.getD q.toNat 0 - rs.getD (q - 1).toNat 0) < n * (x - rs.getD (q - 1).toNat 0) := by
  by_cases c1 : a ≤ n * (q - 1)
  · have e1 := G_before hr hn h0 (by omega) c1
    have e2 := Int.mul_lt_mul_of_pos_left hlo hn
    have e3 := Int.mul_nonneg (show 0 ≤ n * (q - 1) - a by omega) (show 0 ≤ rs.getD q.toNat 0 - rs.getD (q - 1).toNat 0 by omega)
    have e4 := Int.mul_pos hn (show 0 < x - rs.getD (q - 1).toNat 0 by omega)
    constructor
    · intro _; grind
    · intro _; omega
  · by_cases c2 : a ≤ n * q
    · have e1 := G_within (rs := rs) hn (show 0 ≤ q - 1 by omega) (show n * (q - 1) ≤ a by omega) (by rw [Int.sub_add_cancel]; exact c2)
      rw [Int.sub_add_cancel] at e1
      rw [e1, Int.mul_sub n x]
      generalize (a - n * (q - 1)) * (rs.getD q.toNat 0 - rs.getD (q - 1).toNat 0) = y
      omega
    · have e1 := G_behind hr hn (show 0 ≤ q by omega) (show n * q ≤ a by omega) h1 (by omega)
      have e2 := Int.mul_le_mul_of_nonneg_left hhi (Int.le_of_lt hn)
      have e3 := Int.mul_nonneg (show 0 ≤ a - n * q by omega) (show 0 ≤ rs.getD q.toNat 0 - rs.getD (q - 1).toNat 0 by omega)
      constructor
      · intro _; omega
      · intro _; grind
theorem G_le_iff (hr : Rises rs) (hn : 0 < n) (h2 : 2 ≤ rs.length) {a x q : Int} (h0 : 0 ≤ a) (h1 : a ≤ n * ((rs.length : Int) - 1)) (q1 : 1 ≤ q) (q2 : q < rs.length)
    (hlo : rs.getD (q - 1).toNat 0 ≤ x) (hhi : x < rs.getD q.toNat 0) :
    G rs n a ≤ n * x ↔ (a - n * (q - 1)) * (rs.getD q.toNat 0 - rs.getD (q - 1).toNat 0) ≤ n * (x - rs.getD (q - 1).toNat 0) := by
  by_cases c1 : a ≤ n * (q - 1)
  · have e1 := G_before hr hn h0 (by omega) c1
    have e2 := Int.mul_le_mul_of_nonneg_left hlo (Int.le_of_lt hn)
    have e3 := Int.mul_nonneg (show 0 ≤ n * (q - 1) - a by omega) (show 0 ≤ rs.getD q.toNat 0 - rs.getD (q - 1).toNat 0 by omega)
    have e4 := Int.mul_nonneg (Int.le_of_lt hn) (show 0 ≤ x - rs.getD (q - 1).toNat 0 by omega)
    constructor
    · intro _; grind
    · intro _; omega
  · by_cases c2 : a ≤ n * q
    · have e1 := G_within (rs := rs) hn (show 0 ≤ q - 1 by omega) (show n * (q - 1) ≤ a by omega) (by rw [Int.sub_add_cancel]; exact c2)
      rw [Int.sub_add_cancel] at e1
      rw [e1, Int.mul_sub n x]
      generalize (a - n * (q - 1)) * (rs.getD q.toNat 0 - rs.getD (q - 1).toNat 0) = y
      omega
    · have e1 := G_behind hr hn (show 0 ≤ q by omega) (show n * q ≤ a by omega) h1 (by omega)
      have e2 := Int.mul_lt_mul_of_pos_left hhi hn
      have e3 := Int.mul_nonneg (show 0 ≤ a - n * q by omega) (show 0 ≤ rs.getD q.toNat 0 - rs.getD (q - 1).toNat 0 by omega)
      constructor
      · intro _; omega
      · intro _; grind
theorem every_pos {p : Nat} (hp : p ≤ rs.length) (h0 : (p : Int) ≠ 0) (h1 : (p : Int) ≠ rs.length) (hg : rs.getD ((p : Int) - 1).toNat 0 < rs.getD ((p : Int)).toNat 0) : 0 < everyOf rs p :=
  Int.mul_pos (show 0 < (rs.length : Int) - 1 by omega) (show 0 < rs.getD ((p : Int)).toNat 0 - rs.getD ((p : Int) - 1).toNat 0 by omega)
theorem belowL_iff (hr : Rises rs) (h2 : 2 ≤ rs.length) (hM : Mid n) (hm : Mult n rs) {x : Int} {q : Nat} (hq : LeftAt rs x q) {i : Int} (i1 : 1 ≤ i) (i2 : i < n) :
    i ≤ belowL rs n x q ↔ cutI rs n i < x := by
  have hn := hM.lo
  have hq0 := hq.1
  have a0 := at_lo h2 i1
  have a1 := at_hi h2 i2
  rw [cut_lt hM hm]
  unfold belowL
  split
  · rename_i h0
    have h3 := hq.2.2 0 (by omega) (by omega)
    have h4 := G_behind hr (show 0 < n by omega) (show (0 : Int) ≤ 0 by omega) (show n * 0 ≤ i * ((rs.length : Int) - 1) by omega) a1 (by omega)
    have h5 := Int.mul_le_mul_of_nonneg_left h3 (show 0 ≤ n by omega)
    simp only [Int.toNat_zero] at h4
    constructor
    · intro _; omega
    · intro _; omega
  · split
    · rename_i h0 h1
      have h3 := hq.2.1 ((rs.length : Int) - 1).toNat (by omega)
      have h4 := G_before hr (show 0 < n by omega) a0 (show (rs.length : Int) - 1 < rs.length by omega) a1
      have h5 := Int.mul_lt_mul_of_pos_left h3 (show 0 < n by omega)
      constructor
      · intro _; omega
      · intro _; omega
    · rename_i h0 h1
      have hg := hq.gap h0 h1
      have hE := every_pos hq0 h0 h1 hg
      have hlo := hq.2.1 ((q : Int) - 1).toNat (by omega)
      have hhi := hq.2.2 ((q : Int)).toNat (by omega) (by omega)
      rw [G_lt_iff hr (show 0 < n by omega) h2 a0 a1 (show 1 ≤ (q : Int) by omega) (by omega) hlo hhi]
      rw [fdiv_eq hE, Int.le_ediv_iff_mul_le hE]
      have e := gone_split (n := n) (rs.getD ((q : Int) - 1).toNat 0) (rs.getD ((q : Int)).toNat 0) x (q : Int) ((rs.length : Int) - 1) i
      unfold goneOf everyOf
      constructor
      · intro _; omega
      · intro _; omega
theorem belowR_iff (hr : Rises rs) (h2 : 2 ≤ rs.length) (hM : Mid n) (hm : Mult n rs) {x : Int} {q : Nat} (hq : RightAt rs x q) {i : Int} (i1 : 1 ≤ i) (i2 : i < n) :
    i ≤ belowR rs n x q ↔ cutI rs n i ≤ x := by
  have hn := hM.lo
  have hq0 := hq.1
  have a0 := at_lo h2 i1
  have a1 := at_hi h2 i2
  rw [cut_le hM hm]
  unfold belowR
  split
  · rename_i h0
    have h3 := hq.2.2 0 (by omega) (by omega)
    have h4 := G_behind hr (show 0 < n by omega) (show (0 : Int) ≤ 0 by omega) (show n * 0 ≤ i * ((rs.length : Int) - 1) by omega) a1 (by omega)
    have h5 := Int.mul_lt_mul_of_pos_left h3 (show 0 < n by omega)
    simp only [Int.toNat_zero] at h4
    constructor
    · intro _; omega
    · intro _; omega
  · split
    · rename_i h0 h1
      have h3 := hq.2.1 ((rs.length : Int) - 1).toNat (by omega)
      have h4 := G_before hr (show 0 < n by omega) a0 (show (rs.length : Int) - 1 < rs.length by omega) a1
      have h5 := Int.mul_le_mul_of_nonneg_left h3 (show 0 ≤ n by omega)
      constructor
      · intro _; omega
      · intro _; omega
    · rename_i h0 h1
      have hg := hq.gap h0 h1
      have hE := every_pos hq0 h0 h1 hg
      have hlo := hq.2.1 ((q : Int) - 1).toNat (by omega)
      have hhi := hq.2.2 ((q : Int)).toNat (by omega) (by omega)
      rw [G_le_iff hr (show 0 < n by omega) h2 a0 a1 (show 1 ≤ (q : Int) by omega) (by omega) hlo hhi]
      rw [fdiv_eq hE, Int.le_ediv_iff_mul_le hE]
      have e := gone_split (n := n) (rs.getD ((q : Int) - 1).toNat 0) (rs.getD ((q : Int)).toNat 0) x (q : Int) ((rs.length : Int) - 1) i
      unfold goneOf everyOf
      constructor
      · intro _; omega
      · intro _; omega
theorem belowL_bounds (hr : Rises rs) (h2 : 2 ≤ rs.length) (hM : Mid n) {x : Int} {q : Nat} (hq : LeftAt rs x q) : 0 ≤ belowL rs n x q ∧ belowL rs n x q < n := by
  have hn := hM.lo
  have hq0 := hq.1
  unfold belowL
  split
  · omega
  · split
    · omega
    · rename_i h0 h1
      have hg := hq.gap h0 h1
      have hE := every_pos hq0 h0 h1 hg
      have hlo := hq.2.1 ((q : Int) - 1).toNat (by omega)
      have hhi := hq.2.2 ((q : Int)).toNat (by omega) (by omega)
      rw [fdiv_eq hE]
      have e1 := Int.mul_pos (show 0 < n by omega) (show 0 < x - rs.getD ((q : Int) - 1).toNat 0 by omega)
      have e2 := Int.mul_nonneg (show 0 ≤ n by omega) (Int.mul_nonneg (show 0 ≤ (q : Int) - 1 by omega) (show 0 ≤ rs.getD ((q : Int)).toNat 0 - rs.getD ((q : Int) - 1).toNat 0 by omega))
      have e3 := Int.mul_nonneg (show 0 ≤ n by omega) (show 0 ≤ rs.getD ((q : Int)).toNat 0 - x by omega)
      have e4 := Int.mul_nonneg (show 0 ≤ n by omega) (Int.mul_nonneg (show 0 ≤ (rs.length : Int) - 1 - q by omega) (show 0 ≤ rs.getD ((q : Int)).toNat 0 - rs.getD ((q : Int) - 1).toNat 0 by omega))
      constructor
      · apply Int.ediv_nonneg _ (Int.le_of_lt hE)
        unfold goneOf
        grind
      · apply Int.ediv_lt_of_lt_mul hE
        unfold goneOf everyOf
        grind
theorem belowR_bounds (hr : Rises rs) (h2 : 2 ≤ rs.length) (hM : Mid n) {x : Int} {q : Nat} (hq : RightAt rs x q) : 0 ≤ belowR rs n x q ∧ belowR rs n x q < n := by
  have hn := hM.lo
  have hq0 := hq.1
  unfold belowR
  split
  · omega
  · split
    · omega
    · rename_i h0 h1
      have hg := hq.gap h0 h1
      have hE := every_pos hq0 h0 h1 hg
      have hlo := hq.2.1 ((q : Int) - 1).toNat (by omega)
      have hhi := hq.2.2 ((q : Int)).toNat (by omega) (by omega)
      rw [fdiv_eq hE]
      have e1 := Int.mul_nonneg (show 0 ≤ n by omega) (show 0 ≤ x - rs.getD ((q : Int) - 1).toNat 0 by omega)
      have e2 := Int.mul_nonneg (show 0 ≤ n by omega) (Int.mul_nonneg (show 0 ≤ (q : Int) - 1 by omega) (show 0 ≤ rs.getD ((q : Int)).toNat 0 - rs.getD ((q : Int) - 1).toNat 0 by omega))
      have e3 := Int.mul_pos (show 0 < n by omega) (show 0 < rs.getD ((q : Int)).toNat 0 - x by omega)
      have e4 := Int.mul_nonneg (show 0 ≤ n by omega) (Int.mul_nonneg (show 0 ≤ (rs.length : Int) - 1 - q by omega) (show 0 ≤ rs.getD ((q : Int)).toNat 0 - rs.getD ((q : Int) - 1).toNat 0 by omega))
      constructor
      · apply Int.ediv_nonneg _ (Int.le_of_lt hE)
        unfold goneOf
        grind
      · apply Int.ediv_lt_of_lt_mul hE
        unfold goneOf everyOf
        grind
def cutsI (rs : List Int) (n : Int) : List Int := (rangeKs 1 (n - 1).toNat).map (cutI rs n)
theorem cutsI_length (hM : Mid n) : ((cutsI rs n).length : Int) = n - 1 := by
  have hn := hM.lo
  unfold cutsI
  simp [rangeKs]
  omega
theorem cutsI_getD (hM : Mid n) {i : Nat} (hi : (i : Int) < n - 1) : (cutsI rs n).getD i 0 = cutI rs n ((i : Int) + 1) := by
  have hn := hM.lo
  unfold cutsI
  have : i < n.toNat - 1 := by omega
  simp [rangeKs, List.getD, this]
  congr 1
  omega
theorem cutsI_rises (hr : Rises rs) (h2 : 2 ≤ rs.length) (hM : Mid n) (hm : Mult n rs) : Rises (cutsI rs n) := by
  have hn := hM.lo
  have hl := cutsI_length (rs := rs) hM
  intro i j hij hj
  rw [cutsI_getD hM (by omega), cutsI_getD hM (by omega), cut_le hM hm, ← cutI_eq hM hm, numI_G (by omega)]
  exact G_mono hr (by omega) (at_lo h2 (by omega)) (Int.mul_le_mul_of_nonneg_right (by omega) (by omega)) (at_hi h2 (by omega)) (by omega)
theorem cutsI_left (hr : Rises rs) (h2 : 2 ≤ rs.length) (hM : Mid n) (hm : Mult n rs) (x : Int) (p q : Nat) (hp : LeftAt (cutsI rs n) x p) (hq : LeftAt rs x q) : (p : Int) = belowL rs n x q := by
  have hl := cutsI_length (rs := rs) hM
  have hp0 := hp.1
  have hb := belowL_bounds hr h2 hM hq
  rcases Int.lt_trichotomy (p : Int) (belowL rs n x q) with h | h | h
  · have h3 := hp.2.2 p (Nat.le_refl _) (by omega)
    rw [cutsI_getD hM (by omega)] at h3
    have h4 := (belowL_iff hr h2 hM hm hq (show 1 ≤ (p : Int) + 1 by omega) (by omega)).mp (by omega)
    omega
  · exact h
  · have h3 := hp.2.1 (belowL rs n x q).toNat (by omega)
    rw [cutsI_getD hM (by omega)] at h3
    have h4 := (belowL_iff hr h2 hM hm hq (show 1 ≤ ((belowL rs n x q).toNat : Int) + 1 by omega) (by omega)).mpr h3
    omega
theorem cutsI_right (hr : Rises rs) (h2 : 2 ≤ rs.length) (hM : Mid n) (hm : Mult n rs) (x : Int) (p q : Nat) (hp : RightAt (cutsI rs n) x p) (hq : RightAt rs x q) : (p : Int) = belowR rs n x q := by
  have hl := cutsI_length (rs := rs) hM
  have hp0 := hp.1
  have hb := belowR_bounds hr h2 hM hq
  rcases Int.lt_trichotomy (p : Int) (belowR rs n x q) with h | h | h
  · have h3 := hp.2.2 p (Nat.le_refl _) (by omega)
    rw [cutsI_getD hM (by omega)] at h3
    have h4 := (belowR_iff hr h2 hM hm hq (show 1 ≤ (p : Int) + 1 by omega) (by omega)).mp (by omega)
    omega
  · exact h
  · have h3 := hp.2.1 (belowR rs n x q).toNat (by omega)
    rw [cutsI_getD hM (by omega)] at h3
    have h4 := (belowR_iff hr h2 hM hm hq (show 1 ≤ ((belowR rs n x q).toNat : Int) + 1 by omega) (by omega)).mpr h3
    omega
end
end
section
open PySem PySem.W PyProof.Rows
set_option linter.unusedVariables false
/-- the row, with one more item at either end -/
def longOf (rs : List Int) : List Int := (2 * rs.getD 0 0 - rs.getD 1 0) :: (rs ++ [2 * rs.getD (rs.length - 1) 0 - rs.getD (rs.length - 2) 0])
section
variable {rs : List Int} {n : Int}
theorem longOf_length : (longOf rs).length = rs.length + 2 := by simp [longOf]
theorem longOf_first : (longOf rs).getD 0 0 = 2 * rs.getD 0 0 - rs.getD 1 0 := rfl
theorem longOf_mid {k : Nat} (h : k < rs.length) : (longOf rs).getD (k + 1) 0 = rs.getD k 0 := by
  simp only [longOf, List.getD, List.getElem?_cons_succ]
  rw [List.getElem?_append_left h]
theorem longOf_last : (longOf rs).getD (rs.length + 1) 0 = 2 * rs.getD (rs.length - 1) 0 - rs.getD (rs.length - 2) 0 := by
  simp [longOf, List.getD]
theorem longOf_cases (k : Nat) : (k = 0) ∨ (∃ j, k = j + 1 ∧ j < rs.length) ∨ k = rs.length + 1 ∨ (longOf rs).getD k 0 = 0 := by
  by_cases h0 : k = 0
  · exact .inl h0
  · by_cases h1 : k - 1 < rs.length
    · exact .inr (.inl ⟨k - 1, by omega, h1⟩)
    · by_cases h2 : k = rs.length + 1
      · exact .inr (.inr (.inl h2))
      · refine .inr (.inr (.inr ?_))
        have : (longOf rs).length ≤ k := by rw [longOf_length]; omega
        simp [List.getD, this]
theorem cutE_long {i : Int} (h2 : 2 ≤ rs.length) (hM : Mid n) (i1 : 1 ≤ i) (i2 : i < n) : cutE rs n i = cutI (longOf rs) n i := by
  have hn := hM.lo
  unfold cutE cutI
  congr 1
  unfold numE numI dE dI jI
  rw [longOf_length]
  have el : (((rs.length + 2 : Nat) : Int) - 1) = (rs.length : Int) + 1 := by omega
  rw [el]
  unfold jE
  rw [fdiv_eq (show 0 < n by omega), fmod_eq (show 0 < n by omega)]
  have a0 : 0 ≤ i * ((rs.length : Int) + 1) := Int.mul_nonneg (by omega) (by omega)
  have a1 : i * ((rs.length : Int) + 1) < ((rs.length : Int) + 1) * n := by
    rw [Int.mul_comm i]
    exact Int.mul_lt_mul_of_pos_left i2 (by omega)
  generalize i * ((rs.length : Int) + 1) = a at *
  have e := Int.emod_add_mul_ediv a n
  have j0 : 0 ≤ a / n := Int.ediv_nonneg a0 (by omega)
  have j1 := Int.ediv_lt_of_lt_mul (show 0 < n by omega) a1
  generalize a / n = j at *
  generalize a % n = d at *
  split
  · have hj : j = 0 := by omega
    rw [hj] at e ⊢
    have e1 : (longOf rs).getD (Int.toNat 0) 0 = 2 * rs.getD 0 0 - rs.getD 1 0 := longOf_first
    have e2 : (longOf rs).getD (Int.toNat (0 + 1)) 0 = rs.getD 0 0 := longOf_mid (k := 0) (by omega)
    have e3 : (Int.toNat (1 - 1)) = 0 := rfl
    have e4 : (Int.toNat 1) = 1 := rfl
    rw [e1, e2, e3, e4]
    grind
  · split
    · have hj : j = rs.length := by omega
      rw [hj] at e ⊢
      have e1 : (longOf rs).getD (Int.toNat (rs.length : Int)) 0 = rs.getD (rs.length - 1) 0 := by
        have := longOf_mid (rs := rs) (k := rs.length - 1) (by omega)
        rw [show (Int.toNat (rs.length : Int)) = rs.length - 1 + 1 by omega]
        exact this
      have e2 : (longOf rs).getD (Int.toNat ((rs.length : Int) + 1)) 0 = 2 * rs.getD (rs.length - 1) 0 - rs.getD (rs.length - 2) 0 := by
        rw [show (Int.toNat ((rs.length : Int) + 1)) = rs.length + 1 by omega]
        exact longOf_last
      have e3 : (Int.toNat ((rs.length : Int) - 1 - 1)) = rs.length - 2 := by omega
      have e4 : (Int.toNat ((rs.length : Int) - 1)) = rs.length - 1 := by omega
      rw [e1, e2, e3, e4]
      grind
    · have e1 : (longOf rs).getD (Int.toNat j) 0 = rs.getD (Int.toNat (j - 1)) 0 := by
        have := longOf_mid (rs := rs) (k := (j - 1).toNat) (by omega)
        rw [show j.toNat = (j - 1).toNat + 1 by omega]
        exact this
      have e2 : (longOf rs).getD (Int.toNat (j + 1)) 0 = rs.getD (Int.toNat j) 0 := by
        have := longOf_mid (rs := rs) (k := j.toNat) (by omega)
        rw [show (j + 1).toNat = j.toNat + 1 by omega]
        exact this
      rw [e1, e2]
      grind
theorem cutsE_long (h2 : 2 ≤ rs.length) (hM : Mid n) : (rangeKs 1 (n - 1).toNat).map (cutE rs n) = cutsI (longOf rs) n := by
  have hn := hM.lo
  unfold cutsI
  apply List.map_congr_left
  intro i hi
  simp only [rangeKs, List.mem_map, List.mem_range] at hi
  obtain ⟨k, hk, rfl⟩ := hi
  exact cutE_long h2 hM (by omega) (by omega)
theorem longOf_rises (hr : Rises rs) (h2 : 2 ≤ rs.length) : Rises (longOf rs) := by
  have hf := hr 0 1 (by omega) (by omega)
  have hl := hr (rs.length - 2) (rs.length - 1) (by omega) (by omega)
  have ll := longOf_length (rs := rs)
  intro i j hij hj
  rcases longOf_cases (rs := rs) i with h | ⟨i', h, hi'⟩ | h | h
  · rcases longOf_cases (rs := rs) j with g | ⟨j', g, hj'⟩ | g | g
    · subst h; subst g; exact Int.le_refl _
    · subst h; subst g
      rw [longOf_first, longOf_mid hj']
      have := hr 0 j' (by omega) hj'
      omega
    · subst h; subst g
      rw [longOf_first, longOf_last]
      have := hr 0 (rs.length - 1) (by omega) (by omega)
      omega
    · by_cases g2 : j ≤ rs.length
      · subst h
        by_cases g3 : j = 0
        · subst g3; exact Int.le_refl _
        · have e := longOf_mid (rs := rs) (k := j - 1) (by omega)
          rw [show j - 1 + 1 = j by omega] at e
          rw [e, longOf_first]
          have := hr 0 (j - 1) (by omega) (by omega)
          omega
      · have g3 : j = rs.length + 1 := by omega
        subst h; subst g3
        rw [longOf_first, longOf_last]
        have := hr 0 (rs.length - 1) (by omega) (by omega)
        omega
  · subst h
    have hj2 : j = rs.length + 1 ∨ (j - 1 < rs.length) := by omega
    rcases hj2 with g | g
    · subst g
      rw [longOf_mid hi', longOf_last]
      have := hr i' (rs.length - 1) (by omega) (by omega)
      omega
    · have e := longOf_mid (rs := rs) (k := j - 1) (by omega)
      rw [show j - 1 + 1 = j by omega] at e
      rw [e, longOf_mid hi']
      exact hr i' (j - 1) (by omega) (by omega)
  · have : j = rs.length + 1 := by omega
    subst h; subst this; exact Int.le_refl _
  · have hi2 : i = 0 ∨ i = rs.length + 1 ∨ i - 1 < rs.length := by omega
    have hij2 : i = j ∨ i < j := by omega
    rcases hij2 with g | g
    · subst g; exact Int.le_refl _
    · have hj2 : j = rs.length + 1 ∨ (1 ≤ j ∧ j - 1 < rs.length) := by omega
      have ei : (i = 0 ∧ (longOf rs).getD i 0 = 2 * rs.getD 0 0 - rs.getD 1 0) ∨ (1 ≤ i ∧ (longOf rs).getD i 0 = rs.getD (i - 1) 0) := by
        by_cases g0 : i = 0
        · subst g0; exact .inl ⟨rfl, longOf_first⟩
        · have e := longOf_mid (rs := rs) (k := i - 1) (by omega)
          rw [show i - 1 + 1 = i by omega] at e
          exact .inr ⟨by omega, e⟩
      rcases hj2 with k | ⟨k1, k2⟩
      · subst k
        rw [longOf_last]
        rcases ei with ⟨i0, ei⟩ | ⟨i1, ei⟩
        · have := hr 0 (rs.length - 1) (by omega) (by omega)
          omega
        · have := hr (i - 1) (rs.length - 1) (by omega) (by omega)
          omega
      · have e := longOf_mid (rs := rs) (k := j - 1) (by omega)
        rw [show j - 1 + 1 = j by omega] at e
        rw [e]
        rcases ei with ⟨i0, ei⟩ | ⟨i1, ei⟩
        · have := hr 0 (j - 1) (by omega) (by omega)
          omega
        · have := hr (i - 1) (j - 1) (by omega) (by omega)
          omega
theorem longOf_mult (hm : Mult n rs) : Mult n (longOf rs) := ⟨fun k => by
  rcases longOf_cases (rs := rs) k with h | ⟨j, h, hj⟩ | h | h
  · subst h
    rw [longOf_first]
    obtain ⟨p, hp⟩ := hm.m 0
    obtain ⟨q, hq⟩ := hm.m 1
    exact ⟨2 * p - q, by rw [hp, hq]; grind⟩
  · subst h
    rw [longOf_mid hj]
    exact hm.m j
  · subst h
    rw [longOf_last]
    obtain ⟨p, hp⟩ := hm.m (rs.length - 1)
    obtain ⟨q, hq⟩ := hm.m (rs.length - 2)
    exact ⟨2 * p - q, by rw [hp, hq]; grind⟩
  · exact ⟨0, by rw [h]; simp⟩⟩
theorem longOf_near (hm : ∀ i, (rs.getD i 0).natAbs ≤ 2 ^ 44) : Near (longOf rs) := ⟨fun k => by
  rcases longOf_cases (rs := rs) k with h | ⟨j, h, hj⟩ | h | h
  · subst h
    rw [longOf_first]
    have h1 := hm 0
    have h2 := hm 1
    omega
  · subst h
    rw [longOf_mid hj]
    have h1 := hm j
    omega
  · subst h
    rw [longOf_last]
    have h1 := hm (rs.length - 1)
    have h2 := hm (rs.length - 2)
    omega
  · rw [h]; decide⟩
end
/-- one more item in its place -/
theorem put_perm {ks : List Int} {x : Int} (p : Nat) : (ks.take p ++ x :: ks.drop p).Perm (x :: ks) := by
  have := List.perm_middle (a := x) (l₁ := ks.take p) (l₂ := ks.drop p)
  rwa [List.take_append_drop] at this
theorem put_length {ks : List Int} {x : Int} (p : Nat) : (ks.take p ++ x :: ks.drop p).length = ks.length + 1 := by
  have := (put_perm (ks := ks) (x := x) p).length_eq
  simpa using this
theorem rises_of_pair {ks : List Int} (h : ks.Pairwise (· ≤ ·)) : Rises ks := by
  intro i j hij hj
  have hi : i < ks.length := by omega
  simp only [List.getD, List.getElem?_eq_getElem hi, List.getElem?_eq_getElem hj, Option.getD_some]
  by_cases e : i = j
  · subst e; exact Int.le_refl _
  · exact List.pairwise_iff_getElem.mp h i j hi hj (by omega)
theorem put_pair {ks : List Int} {x : Int} {p : Nat} (h : ks.Pairwise (· ≤ ·)) (hp : RightAt ks x p) : (ks.take p ++ x :: ks.drop p).Pairwise (· ≤ ·) := by
  rw [List.pairwise_append, List.pairwise_cons]
  have hlo : ∀ a ∈ ks.take p, a ≤ x := by
    intro a ha
    obtain ⟨i, hi, e⟩ := List.mem_iff_getElem.mp ha
    rw [List.length_take] at hi
    have h1 := hp.2.1 i (by omega)
    rw [List.getElem_take] at e
    simp only [List.getD, List.getElem?_eq_getElem (show i < ks.length by omega), Option.getD_some] at h1
    omega
  have hhi : ∀ a ∈ ks.drop p, x ≤ a := by
    intro a ha
    obtain ⟨i, hi, e⟩ := List.mem_iff_getElem.mp ha
    simp at hi e
    have h1 := hp.2.2 (p + i) (by omega) (by omega)
    simp only [List.getD, List.getElem?_eq_getElem (show p + i < ks.length by omega), Option.getD_some] at h1
    omega
  refine ⟨h.sublist (List.take_sublist p ks), ⟨hhi, h.sublist (List.drop_sublist p ks)⟩, ?_⟩
  intro a ha b hb
  rcases List.mem_cons.mp hb with e | hb
  · subst e; exact hlo a ha
  · exact Int.le_trans (hlo a ha) (hhi b hb)
/-- what the loop that fills the row keeps -/
structure Filled (rs pre : List Int) : Prop where
  perm : rs.Perm pre
  pair : rs.Pairwise (· ≤ ·)
theorem Filled.nil : Filled [] [] := ⟨.nil, .nil⟩
theorem Filled.put {rs pre : List Int} {x : Int} {p : Nat} (h : Filled rs pre) (hp : RightAt rs x p) : Filled (rs.take p ++ x :: rs.drop p) (pre ++ [x]) :=
  ⟨(put_perm p).trans ((List.Perm.cons x h.perm).trans (List.perm_append_singleton x pre).symm), put_pair h.pair hp⟩
theorem Filled.rises {rs pre : List Int} (h : Filled rs pre) : Rises rs := rises_of_pair h.pair
theorem Filled.length {rs pre : List Int} (h : Filled rs pre) : rs.length = pre.length := h.perm.length_eq
theorem Filled.small {rs pre all : List Int} (h : Filled rs pre) (hs : Small all) (hl : pre.length ≤ all.length) : Small rs := ⟨by have := hs.lt; have := h.length; omega⟩
/-- n and the items -/
def stepOf (ns : List Int) : Int := (ns.take 63).sum.fmod 15 + 2
theorem stepOf_mid (ns : List Int) : Mid (stepOf ns) := by
  unfold stepOf
  have h0 := Int.emod_nonneg (ns.take 63).sum (show (15 : Int) ≠ 0 by omega)
  have h1 := Int.emod_lt_of_pos (ns.take 63).sum (show (0 : Int) < 15 by omega)
  rw [fmod_eq (by omega)]
  exact ⟨by omega, by omega⟩
end
section
open PySem PySem.W PyProof.Rows
set_option linter.unusedVariables false
def itemsOf (ns : List Int) : List Int := List.map (fun k' => if (if k' < 0 then -k' else k') < 2 ^ Int.toNat 40 then ((List.take 63 ns).sum.fmod 15 + 2) * k' else ((List.take 63 ns).sum.fmod 15 + 2) * k'.fmod (2 ^ Int.toNat 40)) (List.take 63 ns ++ [7, ((List.take 63 ns).length : Int)])
theorem itemsOf_length (ns : List Int) : (itemsOf ns).length = (ns.take 63).length + 2 := by simp [itemsOf]
theorem itemsOf_small (ns : List Int) : Small (itemsOf ns) := ⟨by rw [itemsOf_length, List.length_take]; omega⟩
theorem itemsOf_two (ns : List Int) : 2 ≤ (itemsOf ns).length := by rw [itemsOf_length]; omega
theorem itemsOf_mem {ns : List Int} {x : Int} (h : x ∈ itemsOf ns) : ∃ q : Int, x = stepOf ns * q ∧ q.natAbs ≤ 2 ^ 40 := by
  unfold itemsOf at h
  obtain ⟨k, hk, rfl⟩ := List.mem_map.mp h
  have e : (2 : Int) ^ Int.toNat 40 = 2 ^ 40 := rfl
  rw [e]
  by_cases h1 : (if k < 0 then -k else k) < 2 ^ 40
  · rw [if_pos h1]
    exact ⟨k, rfl, by split at h1 <;> omega⟩
  · rw [if_neg h1]
    refine ⟨k.fmod (2 ^ 40), rfl, ?_⟩
    have h0 := Int.emod_nonneg k (show (2 ^ 40 : Int) ≠ 0 by decide)
    have h1 := Int.emod_lt_of_pos k (show (0 : Int) < 2 ^ 40 by decide)
    rw [fmod_eq (by decide)]
    omega
theorem itemsOf_abs {ns : List Int} : ∀ x ∈ itemsOf ns, x.natAbs ≤ 2 ^ 44 := by
  intro x hx
  obtain ⟨q, rfl, hq⟩ := itemsOf_mem hx
  have h1 := (stepOf_mid ns).lo
  have h2 := (stepOf_mid ns).hi
  rw [Int.natAbs_mul]
  calc _ ≤ 16 * 2 ^ 40 := Nat.mul_le_mul (by omega) hq
    _ = 2 ^ 44 := by decide
theorem itemsOf_near {ns : List Int} : ∀ x ∈ itemsOf ns, x.natAbs < 2 ^ 46 := fun x hx => by have := itemsOf_abs x hx; omega
theorem itemsOf_mult {ns : List Int} : ∀ x ∈ itemsOf ns, ∃ q, x = stepOf ns * q := fun x hx => by obtain ⟨q, h, _⟩ := itemsOf_mem hx; exact ⟨q, h⟩
/-- all that the rest of the law needs of the row -/
structure RowIs (ns rs : List Int) : Prop where
  perm : rs.Perm (itemsOf ns)
  pair : rs.Pairwise (· ≤ ·)
section
variable {ns rs : List Int}
theorem RowIs.of (h : Filled rs (itemsOf ns)) : RowIs ns rs := ⟨h.perm, h.pair⟩
theorem RowIs.rises (h : RowIs ns rs) : Rises rs := rises_of_pair h.pair
theorem RowIs.length (h : RowIs ns rs) : rs.length = (itemsOf ns).length := h.perm.length_eq
theorem RowIs.two (h : RowIs ns rs) : 2 ≤ rs.length := by rw [h.length]; exact itemsOf_two ns
theorem RowIs.small (h : RowIs ns rs) : Small rs := ⟨by rw [h.length]; exact (itemsOf_small ns).lt⟩
theorem RowIs.near (h : RowIs ns rs) : Near rs := near_of h.perm itemsOf_near
theorem RowIs.abs (h : RowIs ns rs) (i : Nat) : (rs.getD i 0).natAbs ≤ 2 ^ 44 := by
  rcases getD_mem (ks := rs) (i := i) with g | g
  · exact itemsOf_abs _ (h.perm.mem_iff.mp g)
  · rw [g]; decide
theorem RowIs.mult (h : RowIs ns rs) : Mult (stepOf ns) rs := mult_of h.perm itemsOf_mult
theorem RowIs.srt (h : RowIs ns rs) {srt : List Int} (hp : srt.Perm (itemsOf ns)) (hs : srt.Pairwise (· ≤ ·)) : srt = rs := ksm_same (hp.trans h.perm.symm) hs h.pair
theorem RowIs.longSmall (h : RowIs ns rs) : Small (longOf rs) := ⟨by rw [longOf_length, h.length, itemsOf_length, List.length_take]; omega⟩
theorem RowIs.longNear (h : RowIs ns rs) : Near (longOf rs) := longOf_near h.abs
theorem RowIs.longRises (h : RowIs ns rs) : Rises (longOf rs) := longOf_rises h.rises h.two
theorem RowIs.longMult (h : RowIs ns rs) : Mult (stepOf ns) (longOf rs) := longOf_mult h.mult
theorem RowIs.longTwo (h : RowIs ns rs) : 2 ≤ (longOf rs).length := by rw [longOf_length]; omega
end
def ledR (T R : Addr) (o : Obj) (rest : List (Addr × Obj)) (c : List Value × List Int × Nat) : List (Addr × Obj) := (T, o) :: (R, listOf c.1.toArray c.2.2) :: rest
theorem split_led {h₀ h : Heap} {L T R : Addr} {o o' : Obj} {rest : List (Addr × Obj)} (N : News h₀ L h ((T, o) :: (R, o') :: rest)) : ∃ r t, r = rest ∧ t = o ∧ News h₀ L h ((T, t) :: (R, o') :: r) := ⟨_, _, rfl, rfl, N⟩
theorem row_end {h₀ h' : Heap} {L R T : Addr} {o : Obj} {m' m₀ : Str → Option Value} {rest own : List (Addr × Obj)} {vs' : List Value} {ks pre : List Int} {cc tk p : Nat} {i : Int} {x : Str} {stored : List Str} {s₁ : Shared} {adr : List Addr}
    (F8 : Fr h₀ L h' m') (N8 : News h₀ L h' ((T, o) :: (R, listOf vs'.toArray cc) :: (rest ++ own))) (hI : IntsAre vs' (ks.take p ++ i :: ks.drop p)) (hp : RightAt ks i p) (hf : Filled ks pre)
    (hr : ∀ z, z ≠ x → (∀ p ∈ ([] : List (Str × Value)), z ≠ p.1) → stored.contains z = false → m' z = m₀ z) (ha : (ledR T R o rest ([], [], 0)).map (·.1) = adr := by rfl) :
    InvEndN h₀ L (KstS (ledR T R o rest) (fun _ => []) (fun c => IntsAre c.1 c.2.1) x stored m₀ (fun pre c => Filled c.2.1 pre) (pre ++ [i])) own adr s₁ { s₁ with heap := h', toks := tk } := by
  refine kst_end (vs', ks.take p ++ i :: ks.drop p, cc) F8 N8 ?_ ?_ ha hI (List.forall_mem_nil _) hr (hf.put hp)
  · intro p hp
    exact List.mem_append_left own hp
  · intro p hp
    exact List.mem_append_right ((T, o) :: (R, listOf vs'.toArray cc) :: rest) hp
end
section
open PySem PySem.W PyProof.Rows PySem.Calls PySem.Spec
theorem item_neg {prog : Program} {w : World} {A : Around} {E : Value → Shared → Prop} {s : Shared} {Q : Value → Shared → Prop} {h₀ : Heap} {L l : Addr} {news : List (Addr × Obj)} {value slice : PySem.Expr} {vs : List Value} {ks : List Int} {c : Nat} {k : Int} {u : Tok} (j : Nat) (N : News h₀ L s.heap news) (hm : (l, listOf vs.toArray c) ∈ news) (hn : IntsAre vs ks)
    (hk : k = -(j : Int)) (h0 : 1 ≤ j) (h1 : j ≤ ks.length) (hhi : Small ks) (h : ∀ t, Q (.int (ks.getD (ks.length - j) 0) t) s)
    (hs : subscripted slice false (.ref l) (.int k u) = operate [.ref l, .int k u] (getItem (.ref l) (.int k u)) := by with_unfolding_all rfl) :
    wpAny (model prog w) A (subscriptTail value slice (.ref l) (.int k u)) Q E s := by
  have hl : s.heap.IsList l vs.toArray := ⟨_, (N _ hm).1, rfl, c, rfl⟩
  have hi : ks.length - j < ks.length := by omega
  have h9 := hhi.lt
  have hvl := hn.length
  obtain ⟨t, hx⟩ := hn.get (ks.length - j) ks[ks.length - j] (by simp [hi])
  have e : ks.getD (ks.length - j) 0 = ks[ks.length - j] := by simp [List.getD, hi]
  have := h t
  rw [e] at this
  have e2 : (k + (vs.toArray.size : Int)).toNat = ks.length - j := by simp; omega
  exact tail_any hl.typeIs slot_list_getitem.lookup (wpAny_getItem_list_neg hl (by omega) (by simp; omega) (by omega) (by rw [e2]; simpa using hx) this) hs
theorem longOf_of {ws : List Value} {rs : List Int} {a b : Int} (h : IntsAre ws ([a] ++ rs ++ [b])) (ha : a = 2 * rs.getD 0 0 - rs.getD 1 0) (hb : b = 2 * rs.getD (rs.length - 1) 0 - rs.getD (rs.length - 2) 0) : IntsAre ws (longOf rs) := by
  subst ha; subst hb
  exact h
end
section
open PySem PySem.W PyProof.Rows PySem.Calls PySem.Spec
set_option maxRecDepth 100000
set_option maxHeartbeats 8000000
theorem law_holds : PySem.Challenge.rw_dn0050_05.Holds := by
  refine Mine.hd ?_
  w_strict (
    k_go0
    (all_goals try k_fold)
    (k_with "pyIter ref" => (refine stopHere ?_))
    (k_with "InvEndN" => (refine stopHere ?_))
    k_steps
    unfold StopHere
    k_here
    rename_i hI8 hL8 D2 h6 tk6 o1' D1 c1 h5 l12 R h4 l11 T h3 l10 h2 h1 hh lF lN
    (rename (List Int) => ns)
    change IntsAre ys (itemsOf ns) at hI8
    obtain ⟨rest, tup, hrest, htup, lN'⟩ := split_led lN
    have hmem : (D2, listOf ys.toArray ys.length) ∈ rest := by rw [hrest]; with_unfolding_all exact .tail _ (.head _)
    have hneR : ∀ p ∈ rest, p.1 ≠ R := by
      rw [hrest]
      intro p hp
      simp only [List.mem_cons, List.not_mem_nil, or_false] at hp
      rcases hp with rfl | rfl | rfl | rfl | rfl | rfl <;> (dsimp only; refine Nat.ne_of_lt ?_; omega)
    have hTR : T ≠ R := Nat.ne_of_gt (by omega)
    (with_unfolding_all refine' kst_listL (σ := List Value × List Int × Nat) (vs := ys) (ns := itemsOf ns) (nn := ys.length) (ledR T R tup rest) (fun _ => []) (fun c => IntsAre c.1 c.2.1) [] (fun pre c => Filled c.2.1 pre) ([], [], 0) (by rfl) (fun c => List.Mem.tail _ (List.Mem.tail _ hmem)) hI8 lF lN' IntsAre.nil (List.forall_mem_nil _) Filled.nil ?_ ?_)
    all_goals (clear lF lN lN')
    · rintro ⟨vs, ks, cc⟩ pre post x tx u h tk own hpre hxm hoff hvs hks F N
      dsimp only [kstB] at F hvs hks hoff
      have h1 : ∀ p ∈ [(T, tup)], p.1 ≠ R := by intro p hp; rw [List.mem_singleton] at hp; subst hp; exact hTR
      have h2 : ∀ p ∈ rest ++ own, p.1 ≠ R := by
        intro p hp
        rcases List.mem_append.mp hp with hp | hp
        · exact hneR p hp
        · exact hoff p hp R (by simp [ledR])
      have hSm : Small ks := hks.small (itemsOf_small ns) (by rw [hpre]; simp)
      have hRi : Rises ks := hks.rises
      replace N : News _ _ h ([(T, tup)] ++ (R, listOf vs.toArray cc) :: (rest ++ own)) := N
      (try k_fold)
      (k_with "call ref" => (
        k_here
        k_dflt (refine' says_use (insort _ h1 h2 hvs hSm hRi) ?k1 ?k2 ?k3 N ?k5 ?k6 ?k7 ?k8 ?_; (case k1 => k_asm); (case k2 => k_asm); (case k3 => k_asm); (case k5 => k_asm); (case k6 => first | exact rfl | assumption); (case k7 => ktr_room); (case k8 => ktr_units))
        (rintro r' news' h' tk' F8 N8 ⟨e1', p', vs', c', hp8, hI8', e2'⟩)
        subst e1'
        subst e2'
        (try dsimp only)
        (try k_fold)))
      k_steps
      unfold StopHere
      exact row_end F8 N8 hI8' hp8 hks (by kst_same)
    · rintro ⟨vs, rs, cc⟩ u h tk hvs hks F N
      dsimp only [kstB] at F hvs hks
      have hRow := RowIs.of hks
      have hSm := hRow.small
      have hTwo := hRow.two
      subst hrest
      subst htup
      replace N : News _ _ h ((T, _) :: (R, listOf vs.toArray cc) :: (D1, listOf ys.toArray c1) :: (D2, listOf ys.toArray ys.length) :: _) := N
      (try k_fold)
      (k_with "call ref" => (refine stopHere ?_))
      (k_with "subscriptTail Name Constant ref int" => (
        k_here
        k_dflt (refine' item_int ?k1 ?k2 ?k3 ?k4 ?k5 ?k6 ?_ ?k7; (case k1 => k_asm); (case k2 => exact .tail _ (.head _)); (case k3 => exact hvs); (case k6 => exact hSm); (case k4 => omega); (case k5 => omega); (case k7 => with_unfolding_all rfl); k_whole)
        intro t'))
      (k_with "subscriptTail Name UnaryOp ref int" => (
        k_here
        first
          | (k_dflt (refine' item_neg 1 ?k1 ?k2 ?k3 ?k0 ?k4 ?k5 ?k6 ?_ ?k7; (case k1 => k_asm); (case k2 => first | kst_mem | k_memK); (case k3 => exact hvs); (case k0 => exact rfl); (case k6 => exact hSm); (case k4 => omega); (case k5 => omega); (case k7 => with_unfolding_all rfl); k_whole))
          | (k_dflt (refine' item_neg 2 ?k1 ?k2 ?k3 ?k0 ?k4 ?k5 ?k6 ?_ ?k7; (case k1 => k_asm); (case k2 => first | kst_mem | k_memK); (case k3 => exact hvs); (case k0 => exact rfl); (case k6 => exact hSm); (case k4 => omega); (case k5 => omega); (case k7 => with_unfolding_all rfl); k_whole))
        intro t'))
      (k_with "binaryOp Add ref ref" => (
        k_here
        k_dflt (refine' kmk_add_ints ?jjF ?jjN ?jja ?jjb ?jji ?jjj ?_ ?jjz; (case jjF => k_asm); (case jjN => k_asm); (case jja => kmk_list); (case jjb => kmk_list); (case jji => l_ints); (case jjj => l_ints); (case jjz => (rw [PySem.sizeLine_eq]; simp only [List.length_cons, List.length_nil, List.length_append]; have := hSm.lt; omega)))
        intro D5 ws5 h5' F5 N5 l15 hI5
        (try k_lt l15)))
      k_steps
      have hLong : IntsAre ws5 (longOf rs) := longOf_of hI5 rfl rfl
      unfold StopHere
      k_here
      k_dflt (refine' says_use (quantI (n := stepOf ns) _ ?qm hI8 (itemsOf_small ns) itemsOf_near itemsOf_mult (stepOf_mid ns) (itemsOf_two ns)) ?q1 ?q2 ?q3 ?q4 ?q5 ?q6 ?q7 ?q8 ?_)
      (case q1 => k_asm)
      (case q2 => k_asm)
      (case q3 => k_asm)
      (case q4 => k_asm)
      (case q5 => k_asm)
      (case q6 => exact rfl)
      (case q7 => ktr_room)
      (case q8 => ktr_units)
      (case qm => first | kst_mem | k_memK)
      (rintro r7 news7 h7 tk7 F7 N7 ⟨DI, fsI, cI, srtI, e17, e27, hPI, hSI, hFI⟩)
      rw [hRow.srt hPI hSI] at hFI
      subst e17
      subst e27
      (try dsimp only)
      (try k_fold)
      k_steps
      unfold StopHere
      k_here
      k_dflt (refine' says_use (quantE (n := stepOf ns) _ ?qm hI8 (itemsOf_small ns) itemsOf_near itemsOf_mult (stepOf_mid ns) (itemsOf_two ns)) ?q1 ?q2 ?q3 ?q4 ?q5 ?q6 ?q7 ?q8 ?_)
      (case q1 => k_asm)
      (case q2 => k_asm)
      (case q3 => k_asm)
      (case q4 => k_asm)
      (case q5 => k_asm)
      (case q6 => exact rfl)
      (case q7 => ktr_room)
      (case q8 => ktr_units)
      (case qm => first | kst_mem | k_memK)
      (rintro r7 news7 h7 tk7 F7 N7 ⟨DX, fsX, cX, srtX, e17, e27, hPX, hSX, hFX⟩)
      rw [hRow.srt hPX hSX] at hFX
      subst e17
      subst e27
      (try dsimp only)
      (try k_fold)
      k_steps
      have hSt := stepOf_mid ns
      change FltsAre fsI (cutsI rs (stepOf ns)) at hFI
      rw [cutsE_long hRow.two hSt] at hFX
      unfold StopHere
      k_here
      k_dflt (refine' says_use (lawRight (n := stepOf ns) _ ?qm hFI (cutsI_length hSt) (cutsI_rises hRow.rises hRow.two hSt hRow.mult) ?qn hvs hRow.small hRow.near hSt hRow.rises (fun x _ p q hp hq => cutsI_left hRow.rises hRow.two hSt hRow.mult x p q hp hq) (fun x _ p q hp hq => cutsI_right hRow.rises hRow.two hSt hRow.mult x p q hp hq)) ?q1 ?q2 ?q3 ?q4 ?q5 ?q6 ?q7 ?q8 ?_)
      (case q1 => k_asm)
      (case q2 => k_asm)
      (case q3 => k_asm)
      (case q4 => k_asm)
      (case q5 => k_asm)
      (case q6 => exact rfl)
      (case q7 => ktr_room)
      (case q8 => ktr_units)
      (case qm => first | kst_mem | k_memK)
      (case qn => first | kst_mem | k_memK)
      (rintro r7 news7 h7 tk7 F7 N7 ⟨e17, e27⟩)
      subst e17
      subst e27
      (try dsimp only)
      (try k_fold)
      k_steps
      unfold StopHere
      k_here
      k_dflt (refine' says_use (lawRight (n := stepOf ns) _ ?qm hFX (cutsI_length hSt) (cutsI_rises hRow.longRises hRow.longTwo hSt hRow.longMult) ?qn hLong hRow.longSmall hRow.longNear hSt hRow.longRises (fun x _ p q hp hq => cutsI_left hRow.longRises hRow.longTwo hSt hRow.longMult x p q hp hq) (fun x _ p q hp hq => cutsI_right hRow.longRises hRow.longTwo hSt hRow.longMult x p q hp hq)) ?q1 ?q2 ?q3 ?q4 ?q5 ?q6 ?q7 ?q8 ?_)
      (case q1 => k_asm)
      (case q2 => k_asm)
      (case q3 => k_asm)
      (case q4 => k_asm)
      (case q5 => k_asm)
      (case q6 => exact rfl)
      (case q7 => ktr_room)
      (case q8 => ktr_units)
      (case qm => first | kst_mem | k_memK)
      (case qn => first | kst_mem | k_memK)
      (rintro r7 news7 h7 tk7 F7 N7 ⟨e17, e27⟩)
      subst e17
      subst e27
      (try dsimp only)
      (try k_fold)
      k_steps
      k_with_none)
end
end Mine
theorem PySem.Challenge.cw_dn0050_05_holds : PySem.Challenge.rw_dn0050_05.Holds := by
  exact Mine.law_holds
