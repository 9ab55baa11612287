import PyProof.Rows.All
import Wide.All
import OpenK.AllK
import Wide.FinOn
import Lean
import PySem.Challenge.RW_pe0224_01
set_option Elab.async false
namespace Mine
open PySem PySem.W PyProof.Rows PySem.Calls PySem.SeqAt
section -- Head
open PySem PySem.W PyProof.Rows
set_option synthInstance.maxSize 1 in
set_option maxRecDepth 100000 in
set_option maxHeartbeats 8000000 in
open_top hd for PySem.Challenge.rw_pe0224_01
end
section -- F1
open PySem PySem.Float64

/-- the double whose value is n / 4096 -/
noncomputable def D (n : Int) : UInt64 := ofFrac (decide (n < 0)) n.natAbs 4096
noncomputable def P62 : Nat := 2 ^ 1062
noncomputable def P74 : Nat := 2 ^ 1074
theorem P62_is : 2 ^ 1062 = P62 := rfl
theorem P74_is : 2 ^ 1074 = P74 := rfl
theorem P74_62 : P74 = 4096 * P62 := by decide +kernel
theorem P62_pos : 0 < P62 := Nat.two_pow_pos _
theorem P74_pos : 0 < P74 := Nat.two_pow_pos _

theorem V_hit {W : Nat} (hW : 0 < W) (hlt : W < 2 ^ 53) : ∃ t, t < infMag ∧ V t = W * P62 := by
  have h1 : W.log2 ≤ 52 := by
    have := (Nat.log2_lt (by lia) (k := 53)).mpr hlt
    lia
  have h2 : 2 ^ W.log2 ≤ W := Nat.log2_self_le (by lia)
  have h3 : W < 2 ^ (W.log2 + 1) := Nat.lt_log2_self
  generalize W.log2 = l at *
  have e1 : (2 : Nat) ^ l * 2 ^ (52 - l) = 2 ^ 52 := by rw [← Nat.pow_add]; congr 1; omega
  have e2 : (2 : Nat) ^ (l + 1) * 2 ^ (52 - l) = 2 ^ 53 := by rw [← Nat.pow_add]; congr 1; lia
  have e3 : (2 : Nat) ^ (52 - l) * 2 ^ (1010 + l) = P62 := by unfold P62; rw [← Nat.pow_add]; congr 1; lia
  have hp : 0 < (2 : Nat) ^ (52 - l) := Nat.two_pow_pos _
  have q1 : 2 ^ 52 ≤ W * 2 ^ (52 - l) := by rw [← e1]; exact Nat.mul_le_mul_right _ h2
  have q2 : W * 2 ^ (52 - l) < 2 ^ 53 := by rw [← e2]; exact Nat.mul_lt_mul_of_pos_right h3 hp
  refine ⟨(1010 + l) * 2 ^ 52 + W * 2 ^ (52 - l), ?_, ?_⟩
  · unfold infMag; lia
  · rw [V_at (by lia) (.inl q1), Nat.mul_assoc, e3]

theorem V_inj {t t' : Nat} (h : V t = V t') : t = t' := by
  rcases Nat.lt_trichotomy t t' with q | q | q
  · have := V_lt q; lia
  · exact q
  · have := V_lt q; lia

theorem over_no {E v Z : Nat} (hE : 0 < E) (hZ : 0 < Z) (hv : v ≤ (2 ^ 53 - 1) * Z) (h : E * ((2 ^ 54 - 1) * Z) ≤ 2 * (E * v)) : False := by
  have h2 : E * v ≤ E * ((2 ^ 53 - 1) * Z) := Nat.mul_le_mul_left _ hv
  have hz : 0 < E * Z := Nat.mul_pos hE hZ
  have e1 : E * ((2 ^ 54 - 1) * Z) = (2 ^ 54 - 1) * (E * Z) := Nat.mul_left_comm ..
  have e2 : E * ((2 ^ 53 - 1) * Z) = (2 ^ 53 - 1) * (E * Z) := Nat.mul_left_comm ..
  rw [e1] at h
  rw [e2] at h2
  generalize E * Z = y at *
  lia

theorem V_top {t : Nat} (ht : t < infMag) : V t ≤ (2 ^ 53 - 1) * 2 ^ 2045 := by
  have e : infMag - 1 = 2045 * 2 ^ 52 + (2 ^ 53 - 1) := by unfold infMag; lia
  have hA : V (infMag - 1) = (2 ^ 53 - 1) * 2 ^ 2045 := by rw [e]; exact V_at (k := 2045) (q := 2 ^ 53 - 1) (by lia) (.inl (by lia))
  rw [← hA]; exact V_mono (by lia)

/-- what a rounding hands back where the value itself is a double -/
theorem Right.exact {r : UInt64} {neg : Bool} {W E t₀ : Nat} (h : Right r neg W E) (hE : 0 < E) (ht : t₀ < infMag) (he : W = E * V t₀) : r = pack neg t₀ := by
  obtain ⟨t, rfl, hle, hov, hn⟩ := h
  have hlt : t < infMag := by
    rcases Nat.lt_or_ge t infMag with q | q
    · exact q
    · have := hov.mp (by lia)
      rw [he] at this
      exact (over_no hE (Nat.two_pow_pos _) (V_top ht) this).elim
  have h3 := (hn hlt t₀).1
  have h4 : dist W (E * V t₀) = 0 := by rw [he]; unfold dist; lia
  have h5 : dist W (E * V t) = 0 := by lia
  have h6 : E * V t = E * V t₀ := by unfold dist at h4 h5; lia
  rw [V_inj (Nat.eq_of_mul_eq_mul_left hE h6)]

theorem D_zero : D 0 = zero false := by decide +kernel

theorem D_is {n : Int} (h : n.natAbs < 2 ^ 53) (h0 : n ≠ 0) : ∃ t, t < infMag ∧ D n = pack (decide (n < 0)) t ∧ V t = n.natAbs * P62 := by
  obtain ⟨t, ht, hv⟩ := V_hit (W := n.natAbs) (by lia) h
  refine ⟨t, ht, ?_, hv⟩
  unfold D
  refine Right.exact (ofFrac_right (W := n.natAbs * P62) (D := 1) (by decide) ?_ (by decide)) (by decide) ht (by rw [hv, Nat.one_mul])
  rw [P74_is, P74_62]
  generalize P62 = K
  rw [Nat.mul_one]; ac_rfl

theorem zero_dec : decode (zero false) = .fin false 0 (-1074) := by
  obtain ⟨m, e, h, _⟩ := decode_pack false (t := 0) (by decide)
  have h1 : decode (zero false) = .fin false 0 (-1074) ∨ True := .inr trivial
  unfold decode
  simp only [show (zero false).toNat = 0 from by decide +kernel]
  rfl

theorem D_dec {n : Int} (h : n.natAbs < 2 ^ 53) : ∃ m e, decode (D n) = .fin (decide (n < 0)) m e ∧ val (D n) = n * (P62 : Int) ∧ (n ≠ 0 → m ≠ 0) := by
  by_cases h0 : n = 0
  · subst h0
    refine ⟨0, -1074, ?_, ?_, fun x => absurd rfl x⟩ <;> rw [D_zero]
    · exact zero_dec
    · rw [val_eq zero_dec, Nat.zero_mul, Int.zero_mul]; rfl
  · obtain ⟨t, ht, he, hv⟩ := D_is h h0
    obtain ⟨m, e, hd, hm⟩ := decode_pack (decide (n < 0)) ht
    rw [he]
    have hval : val (pack (decide (n < 0)) t) = n * (P62 : Int) := by
      rw [val_pack _ ht, hv, sgn_mul]
      have : sgn (decide (n < 0)) n.natAbs = n := by unfold sgn; split <;> rename_i q <;> simp at q <;> lia
      rw [this]
    refine ⟨m, e, hd, hval, fun _ hm0 => ?_⟩
    rw [hm0, Nat.zero_mul, hv] at hm
    have := Nat.mul_pos (show 0 < n.natAbs by lia) P62_pos
    lia

theorem D_of {r : UInt64} {n : Int} {W E : Nat} (h : n.natAbs < 2 ^ 53) (h0 : n ≠ 0) (hE : 0 < E) (hR : Right r (decide (n < 0)) W E) (hW : W = E * (n.natAbs * P62)) : r = D n := by
  obtain ⟨t, ht, he, hv⟩ := D_is h h0
  rw [he]
  exact Right.exact hR hE ht (by rw [hv]; exact hW)

theorem pow_pos' : (0 : Int) < (P62 : Int) := Int.ofNat_lt.mpr P62_pos
theorem mul_pow_zero {a : Int} (h : a * (P62 : Int) = 0) : a = 0 := by
  have := pow_pos'
  rcases Int.mul_eq_zero.mp h with q | q
  · exact q
  · lia
theorem lt_pow {a : Int} : a * (P62 : Int) < 0 ↔ a < 0 := by
  constructor
  · intro h
    by_cases q : a < 0
    · exact q
    · have := Int.mul_nonneg (show 0 ≤ a by lia) (Int.le_of_lt pow_pos'); lia
  · intro h; exact Int.mul_neg_of_neg_of_pos h pow_pos'
theorem natAbs_pow (a : Int) : (a * (P62 : Int)).natAbs = a.natAbs * P62 := by
  rw [Int.natAbs_mul, Int.natAbs_natCast]

theorem D_add {a b : Int} (ha : a.natAbs < 2 ^ 52) (hb : b.natAbs < 2 ^ 52) : add (D a) (D b) = D (a + b) := by
  obtain ⟨m, e, hd, hv, _⟩ := D_dec (n := a) (by lia)
  obtain ⟨k, f, hd', hv', _⟩ := D_dec (n := b) (by lia)
  have h := add_right hd hd'
  rw [hv, hv', ← Int.add_mul] at h
  by_cases h0 : a + b = 0
  · rw [h.1 (by rw [h0, Int.zero_mul]), h0, D_zero]
    have : (decide (a < 0) && decide (b < 0)) = false := by
      by_cases q : a < 0
      · simp [q, show ¬ b < 0 by lia]
      · simp [q]
    rw [this]
  · refine D_of (E := 1) (W := (a + b).natAbs * P62) (by lia) h0 (by decide) ?_ (by rw [Nat.one_mul])
    have := h.2 (fun q => h0 (mul_pow_zero q))
    have e : decide ((a + b) * (P62 : Int) < 0) = decide (a + b < 0) := decide_eq_decide.mpr lt_pow
    rw [e, natAbs_pow] at this
    exact this

theorem D_sub {a b : Int} (ha : a.natAbs < 2 ^ 52) (hb : b.natAbs < 2 ^ 52) : sub (D a) (D b) = D (a - b) := by
  obtain ⟨m, e, hd, hv, _⟩ := D_dec (n := a) (by lia)
  obtain ⟨k, f, hd', hv', _⟩ := D_dec (n := b) (by lia)
  have h := sub_right hd hd'
  rw [hv, hv', ← Int.sub_mul] at h
  by_cases h0 : a - b = 0
  · rw [h.1 (by rw [h0, Int.zero_mul]), h0, D_zero]
    have : (decide (a < 0) && !decide (b < 0)) = false := by
      by_cases q : a < 0
      · simp [q, show b < 0 by omega]
      · simp [q]
    rw [this]
  · refine D_of (E := 1) (W := (a - b).natAbs * P62) (by lia) h0 (by decide) ?_ (by rw [Nat.one_mul])
    have := h.2 (fun q => h0 (mul_pow_zero q))
    have e : decide ((a - b) * (P62 : Int) < 0) = decide (a - b < 0) := decide_eq_decide.mpr lt_pow
    rw [e, natAbs_pow] at this
    exact this

theorem D_mul {a b c : Int} (ha : 0 ≤ a) (hb : 0 ≤ b) (ha' : a < 2 ^ 53) (hb' : b < 2 ^ 53) (hc' : c < 2 ^ 53) (hc : a * b = c * 4096) : mul (D a) (D b) = D c := by
  obtain ⟨m, e, hd, hv, _⟩ := D_dec (n := a) (by lia)
  obtain ⟨k, f, hd', hv', _⟩ := D_dec (n := b) (by lia)
  have h := mul_right hd hd'
  have hc0 : 0 ≤ c := by have := Int.mul_nonneg ha hb; lia
  rw [hv, hv', natAbs_pow, natAbs_pow, decide_eq_false (show ¬ a < 0 by lia), decide_eq_false (show ¬ b < 0 by lia), P74_is] at h
  have hN : a.natAbs * b.natAbs = c.natAbs * 4096 := by
    have := congrArg Int.natAbs hc
    rwa [Int.natAbs_mul, Int.natAbs_mul] at this
  have hW : a.natAbs * P62 * (b.natAbs * P62) = P74 * (c.natAbs * P62) := by
    rw [P74_62]
    generalize P62 = K
    calc a.natAbs * K * (b.natAbs * K) = (a.natAbs * b.natAbs) * (K * K) := by ac_rfl
      _ = (c.natAbs * 4096) * (K * K) := by rw [hN]
      _ = _ := by ac_rfl
  have hff : (false != false) = false := rfl
  rw [hff] at h
  by_cases h0 : c = 0
  · subst h0
    rw [D_zero]
    refine Right.exact (t₀ := 0) h P74_pos (by decide) ?_
    rw [hW, V_zero, Int.natAbs_zero, Nat.zero_mul]
  · refine D_of (E := P74) (by lia) h0 P74_pos ?_ hW
    rw [decide_eq_false (show ¬ c < 0 by lia)]; exact h

theorem D_div {a b c : Int} (ha' : a.natAbs < 2 ^ 53) (hb' : b < 2 ^ 53) (hb : 0 < b) (hc' : c.natAbs < 2 ^ 53) (hc : a * 4096 = c * b) : div (D a) (D b) = D c := by
  obtain ⟨m, e, hd, hv, _⟩ := D_dec (n := a) (by omega)
  obtain ⟨k, f, hd', hv', hk⟩ := D_dec (n := b) (by omega)
  have h := div_right hd hd' (hk (by lia))
  rw [hv, hv', natAbs_pow, natAbs_pow, decide_eq_false (show ¬ b < 0 by lia), P74_is] at h
  have hN : a.natAbs * 4096 = c.natAbs * b.natAbs := by
    have := congrArg Int.natAbs hc
    rwa [Int.natAbs_mul, Int.natAbs_mul] at this
  have hs : (decide (a < 0) != false) = decide (c < 0) := by
    rw [Bool.bne_false]
    apply decide_eq_decide.mpr
    constructor
    · intro q
      by_cases r : c < 0
      · exact r
      · have := Int.mul_nonneg (show 0 ≤ c by lia) (Int.le_of_lt hb); lia
    · intro q
      have := Int.mul_neg_of_neg_of_pos q hb; omega
  have hB : 0 < b.natAbs * P62 := Nat.mul_pos (by omega) P62_pos
  have hW : a.natAbs * P62 * P74 = b.natAbs * P62 * (c.natAbs * P62) := by
    rw [P74_62]
    generalize P62 = K
    calc a.natAbs * K * (4096 * K) = (a.natAbs * 4096) * (K * K) := by ac_rfl
      _ = (c.natAbs * b.natAbs) * (K * K) := by rw [hN]
      _ = _ := by ac_rfl
  rw [hs] at h
  by_cases h0 : c = 0
  · subst h0
    rw [D_zero]
    refine Right.exact (t₀ := 0) h hB (by decide) ?_
    rw [hW, V_zero, Int.natAbs_zero, Nat.zero_mul]
  · exact D_of hc' h0 hB h hW

theorem D_frac {n d : Nat} {c : Int} (hd : 0 < d) (hc : 0 ≤ c) (hc' : c < 2 ^ 53) (h : (n : Int) * 4096 = c * d) : ofFrac false n d = D c := by
  have hN : n * 4096 = c.natAbs * d := by
    have e : (c.natAbs : Int) = c := by lia
    rw [← e] at h
    have h2 : ((n * 4096 : Nat) : Int) = ((c.natAbs * d : Nat) : Int) := by rw [Int.natCast_mul, Int.natCast_mul]; exact h
    exact Int.ofNat.inj h2
  have hR : Right (ofFrac false n d) false (c.natAbs * P62) 1 := by
    refine ofFrac_right hd ?_ (by decide)
    rw [P74_is, P74_62]
    generalize P62 = K
    calc n * (4096 * K) * 1 = (n * 4096) * K := by rw [Nat.mul_one]; ac_rfl
      _ = _ := by rw [hN]; ac_rfl
  by_cases h0 : c = 0
  · subst h0
    rw [D_zero]
    refine Right.exact (t₀ := 0) hR (by decide) (by decide) ?_
    rw [V_zero, Int.natAbs_zero, Nat.zero_mul]
  · refine D_of (E := 1) (by lia) h0 (by decide) ?_ (by rw [Nat.one_mul])
    rw [decide_eq_false (show ¬ c < 0 by lia)]; exact hR

theorem D_int {i : Int} (h : 0 ≤ i) (h' : i < 2 ^ 40) : ofInt i = D (4096 * i) := by
  unfold ofInt
  rw [decide_eq_false (show ¬ i < 0 by lia)]
  exact D_frac (by decide) (by lia) (by lia) (by lia)

theorem cmp_pow {a b : Int} : compare (a * (P62 : Int)) (b * (P62 : Int)) = compare a b := by
  rcases Int.lt_trichotomy a b with h | h | h
  · rw [Int.compare_eq_lt.mpr h, Int.compare_eq_lt.mpr (Int.mul_lt_mul_of_pos_right h pow_pos')]
  · subst h; rw [Int.compare_eq_eq.mpr rfl, Int.compare_eq_eq.mpr rfl]
  · rw [Int.compare_eq_gt.mpr h, Int.compare_eq_gt.mpr (Int.mul_lt_mul_of_pos_right h pow_pos')]
theorem D_cmp {a b : Int} (ha : a.natAbs < 2 ^ 53) (hb : b.natAbs < 2 ^ 53) : cmp (D a) (D b) = some (compare a b) := by
  obtain ⟨m, e, hd, hv, _⟩ := D_dec ha
  obtain ⟨k, f, hd', hv', _⟩ := D_dec hb
  rw [cmp_right hd hd', hv, hv', cmp_pow]
theorem D_cmpInt {a b : Int} (ha : a.natAbs < 2 ^ 53) : cmpInt (D a) b = some (compare a (4096 * b)) := by
  obtain ⟨m, e, hd, hv, _⟩ := D_dec ha
  have h74 : (2 : Int) ^ 1074 = (4096 : Int) * (P62 : Int) := by
    have h1 : ((2 ^ 1074 : Nat) : Int) = (2 : Int) ^ 1074 := Int.natCast_pow 2 1074
    rw [← h1, P74_is, P74_62, Int.natCast_mul]
    rfl
  rw [cmpInt_right hd b, hv, h74, ← Int.mul_assoc, Int.mul_comm b, cmp_pow]

theorem D_isZero {a : Int} (ha : a.natAbs < 2 ^ 53) (h0 : a ≠ 0) : isZero (D a) = false := by
  obtain ⟨m, e, hd, _, hm⟩ := D_dec ha
  unfold isZero
  rw [hd]
  have := hm h0
  cases m with
  | zero => exact absurd rfl this
  | succ m => rfl
theorem D_isInf {a : Int} (ha : a.natAbs < 2 ^ 53) : isInf (D a) = false := by
  obtain ⟨m, e, hd, _, hm⟩ := D_dec ha
  unfold Float64.isInf
  rw [hd]
theorem D_isNaN {a : Int} (ha : a.natAbs < 2 ^ 53) : isNaN (D a) = false := by
  obtain ⟨m, e, hd, _, hm⟩ := D_dec ha
  unfold Float64.isNaN
  rw [hd]
theorem D_inj {a b : Int} (ha : a.natAbs < 2 ^ 53) (hb : b.natAbs < 2 ^ 53) (h : D a = D b) : a = b := by
  have h1 := D_cmp ha hb
  rw [h, D_cmp hb hb, Int.compare_eq_eq.mpr rfl] at h1
  exact Int.compare_eq_eq.mp (Option.some.inj h1).symm
end
section -- Base
open PySem PySem.W PyProof.Rows PySem.Calls

theorem lt_room {a b k R : Nat} (h : a + b < R) (hk : k ≤ b) : a + k < R := Nat.lt_of_le_of_lt (Nat.add_le_add_left hk a) h
theorem lt_none {a b R : Nat} (h : a + b < R) : a < R := Nat.lt_of_le_of_lt (Nat.le_add_right a b) h
theorem lt_k1 {a k R : Nat} (h : a + (k + 1) < R) : a + 1 + k < R := by omega
theorem lt_k8 {a k R : Nat} (h : a + 8 * (k + 1) < R) : a + 3 + 8 * k < R := by omega
noncomputable abbrev tup (xs : List Value) : Obj := { cls := .type "tuple", data := .seq xs.toArray }

/-- What a call of the text's def at address f does, whoever calls it. -/
noncomputable abbrev Does (w : World) (f : Addr) (room units : Nat) (vs : List Value) (news : List (Addr × Obj)) (R : Value → List (Addr × Obj) → Prop) : Prop :=
  ∀ (p : Program) (loose : List Str) (mean : ExcName → Option Value) (mg mb : Str → Option Value)
   (dp un : Nat) (gd : Option (List Code)) (cn : Str) (cs : Scope) (a : Addr) (ccd : Value) (cl : List (Str × Addr)) (outer : List Env) (A₀ : Around) (base h₀ : Heap) (L : Addr) (m : Str → Option Value) (s : Shared) (Q E : Value → Shared → Prop),
   Below A₀ base outer h₀ → Fr h₀ L s.heap m → (hd.heap_39 w.params).In h₀ → News h₀ L s.heap news → Top p loose mean mg mb h₀ → cs.kind = .function →
   dp + room < recursionLimit → un + units < cLine →
   (∀ (v : Value) (news' : List (Addr × Obj)) (h' : Heap) (tk' : Nat), Fr h₀ L h' m → News h₀ L h' news' → R v news' → Q v { s with heap := h', toks := tk' }) →
   wpAny (model PySem.Challenge.rw_pe0224_01.row.prog w) (ktrTop dp un gd cn cs L a ccd cl outer) (call (.ref f) vs) Q E s
end
section -- F2
open PySem PySem.W PyProof.Rows PySem.Calls PySem.Flt

noncomputable def max2 (x y : UInt64) : UInt64 := if (Float64.cmp x y == some .lt) = true then y else x
noncomputable def min2 (x y : UInt64) : UInt64 := if (Float64.cmp y x == some .lt) = true then y else x

section
variable {prog : Program} {w : World} {A : Around} {E : Value → Shared → Prop} {s : Shared} {Q : Value → Shared → Prop}

theorem max_three_num {a b c : Value} (hh : A.handled = none) (ha : NumV a) (hb : NumV b) (hc : NumV c)
    (h : ∀ h' tk, (∀ d o, s.heap.get? d = some o → h'.get? d = some o) → Q (if ltV (if ltV a b then b else a) c then c else (if ltV a b then b else a)) { s with heap := h', toks := tk }) :
    wpAny (model prog w) A (call (.builtin "max") [a, b, c]) Q E s := by
  have hT : (s.heap.push { cls := .type "tuple", data := .seq #[a, b, c] }).IsTuple s.heap.objs.size #[a, b, c] := ⟨_, Heap.get?_push_size _ rfl, rfl, 0, rfl⟩
  refine call_max_three (wpAny_pyIter_tuple hT ?_)
  have hsz : (s.heap.push { cls := .type "tuple", data := .seq #[a, b, c] }).objs.size = s.heap.objs.size + 1 := Heap.size_push ..
  refine ⟨_, [_, s.heap.objs.size], [_], _, _, _, _, rfl, Walks.tuple (A := A.in1) hh _ s.heap.objs.size (by rw [hsz]; exact Nat.ne_of_lt (Nat.lt_succ_self _)) #[a, b, c],
    ⟨⟨_, Heap.get?_push_size _ rfl, rfl, rfl⟩, hT.push _⟩, fun c hc => ?_, by simp, cmpOf_gt #[a, b, c] (by simp [ha, hb, hc]), fun v h' tk hP hk => ?_⟩
  · show c < ((s.heap.push _).push _).objs.size
    rw [Heap.size_push, hsz]
    rcases List.mem_cons.mp hc with rfl | hc
    · rw [hsz]; exact Nat.lt_succ_self _
    · rcases List.mem_cons.mp hc with rfl | hc
      · exact Nat.lt_succ_of_lt (Nat.lt_succ_self _)
      · cases hc
  · have hold : ∀ c o, s.heap.get? c = some o → h'.get? c = some o := fun c o e => by
      refine hk c o (fun hm => ?_) (Heap.get?_push_of_some _ (Heap.get?_push_of_some _ e))
      rcases List.mem_cons.mp hm with e1 | hm
      · have := Heap.lt_size e; rw [e1, hsz] at this; exact Nat.lt_irrefl _ (Nat.lt_of_succ_lt this)
      · cases hm
    have := h h' tk hold
    have hv : v = if ltV (if ltV a b then b else a) c then c else (if ltV a b then b else a) := by
      cases h1 : ltV a b
      · cases h2 : ltV a c <;> simp [argBest, h1, h2] at hP <;> (subst hP; simp [h2])
      · cases h2 : ltV b c <;> simp [argBest, h1, h2] at hP <;> (subst hP; simp [h2])
    rw [hv]; exact this
theorem min_three_num {a b c : Value} (hh : A.handled = none) (ha : NumV a) (hb : NumV b) (hc : NumV c)
    (h : ∀ h' tk, (∀ d o, s.heap.get? d = some o → h'.get? d = some o) → Q (if ltV c (if ltV b a then b else a) then c else (if ltV b a then b else a)) { s with heap := h', toks := tk }) :
    wpAny (model prog w) A (call (.builtin "min") [a, b, c]) Q E s := by
  have hT : (s.heap.push { cls := .type "tuple", data := .seq #[a, b, c] }).IsTuple s.heap.objs.size #[a, b, c] := ⟨_, Heap.get?_push_size _ rfl, rfl, 0, rfl⟩
  refine call_min_three (wpAny_pyIter_tuple hT ?_)
  have hsz : (s.heap.push { cls := .type "tuple", data := .seq #[a, b, c] }).objs.size = s.heap.objs.size + 1 := Heap.size_push ..
  refine ⟨_, [_, s.heap.objs.size], [_], _, _, _, _, rfl, Walks.tuple (A := A.in1) hh _ s.heap.objs.size (by rw [hsz]; exact Nat.ne_of_lt (Nat.lt_succ_self _)) #[a, b, c],
    ⟨⟨_, Heap.get?_push_size _ rfl, rfl, rfl⟩, hT.push _⟩, fun c hc => ?_, by simp, cmpOf_lt #[a, b, c] (by simp [ha, hb, hc]), fun v h' tk hP hk => ?_⟩
  · show c < ((s.heap.push _).push _).objs.size
    rw [Heap.size_push, hsz]
    rcases List.mem_cons.mp hc with rfl | hc
    · rw [hsz]; exact Nat.lt_succ_self _
    · rcases List.mem_cons.mp hc with rfl | hc
      · exact Nat.lt_succ_of_lt (Nat.lt_succ_self _)
      · cases hc
  · have hold : ∀ c o, s.heap.get? c = some o → h'.get? c = some o := fun c o e => by
      refine hk c o (fun hm => ?_) (Heap.get?_push_of_some _ (Heap.get?_push_of_some _ e))
      rcases List.mem_cons.mp hm with e1 | hm
      · have := Heap.lt_size e; rw [e1, hsz] at this; exact Nat.lt_irrefl _ (Nat.lt_of_succ_lt this)
      · cases hm
    have := h h' tk hold
    have hv : v = if ltV c (if ltV b a then b else a) then c else (if ltV b a then b else a) := by
      cases h1 : ltV b a
      · cases h2 : ltV c a <;> simp [argBest, h1, h2] at hP <;> (subst hP; simp [h2])
      · cases h2 : ltV c b <;> simp [argBest, h1, h2] at hP <;> (subst hP; simp [h2])
    rw [hv]; exact this

end
end
section -- C1
open PySem PySem.W PyProof.Rows PySem.Calls

/-- a made tuple of three floats ahead of the ledger -/
noncomputable def Tup3 (news : List (Addr × Obj)) (v : Value) (news' : List (Addr × Obj)) (a b c : UInt64) : Prop :=
  ∃ (d : Addr) (t t' t'' : Tok), v = .ref d ∧ news' = (d, tup [.float a t, .float b t', .float c t'']) :: news ∧ ∀ p ∈ news, p.1 < d

noncomputable def mx3 (x y z : UInt64) : UInt64 := max2 (max2 x y) z
noncomputable def mn3 (x y z : UInt64) : UInt64 := min2 (min2 x y) z
noncomputable def share (x y z c : UInt64) : UInt64 := Float64.div (Float64.sub (mx3 x y z) c) (Float64.sub (mx3 x y z) (mn3 x y z))
noncomputable def turned (h : UInt64) : UInt64 := (Float64.divmod (Float64.div h 4618441417868443648) 4607182418800017408).snd
noncomputable def HueIs (x y z hue : UInt64) : Prop :=
  ((Float64.cmp x (mx3 x y z) == some Ordering.eq) = true ∧ hue = turned (Float64.sub (share x y z z) (share x y z y))) ∨
  ((Float64.cmp x (mx3 x y z) == some Ordering.eq) = false ∧ (Float64.cmp y (mx3 x y z) == some Ordering.eq) = true ∧ hue = turned (Float64.sub (Float64.add 4611686018427387904 (share x y z x)) (share x y z z))) ∨
  ((Float64.cmp x (mx3 x y z) == some Ordering.eq) = false ∧ (Float64.cmp y (mx3 x y z) == some Ordering.eq) = false ∧ hue = turned (Float64.sub (Float64.add 4616189618054758400 (share x y z y)) (share x y z x)))

noncomputable def hsvI (x : UInt64) : Int := Flt.toInt Float64.truncOf (Float64.mul x 4618441417868443648)
noncomputable def hsvF (x : UInt64) : UInt64 := Float64.sub (Float64.mul x 4618441417868443648) (Float64.ofInt (hsvI x))
noncomputable def hsvP (y z : UInt64) : UInt64 := Float64.mul z (Float64.sub 4607182418800017408 y)
noncomputable def hsvQ (x y z : UInt64) : UInt64 := Float64.mul z (Float64.sub 4607182418800017408 (Float64.mul y (hsvF x)))
noncomputable def hsvT (x y z : UInt64) : UInt64 := Float64.mul z (Float64.sub 4607182418800017408 (Float64.mul y (Float64.sub 4607182418800017408 (hsvF x))))
noncomputable def RgbIs (x y z r g b : UInt64) : Prop :=
  ((hsvI x).fmod 6 = 0 ∧ r = z ∧ g = hsvT x y z ∧ b = hsvP y z) ∨
  ((hsvI x).fmod 6 = 1 ∧ r = hsvQ x y z ∧ g = z ∧ b = hsvP y z) ∨
  ((hsvI x).fmod 6 = 2 ∧ r = hsvP y z ∧ g = z ∧ b = hsvT x y z) ∨
  ((hsvI x).fmod 6 = 3 ∧ r = hsvP y z ∧ g = hsvQ x y z ∧ b = z) ∨
  ((hsvI x).fmod 6 = 4 ∧ r = hsvT x y z ∧ g = hsvP y z ∧ b = z) ∨
  ((hsvI x).fmod 6 = 5 ∧ r = z ∧ g = hsvP y z ∧ b = hsvQ x y z)

theorem big_no {i : Int} (h : i.natAbs < 2 ^ 40) (h' : 2 ^ 1024 - 2 ^ 970 ≤ i.natAbs) : False := by
  have h2 : (2 : Nat) ^ 40 ≤ 2 ^ 1024 - 2 ^ 970 := by decide +kernel
  exact absurd (Nat.lt_of_lt_of_le h (Nat.le_trans h2 h')) (Nat.lt_irrefl _)
theorem six_no {i : Int} (h0 : i.fmod 6 ≠ 0) (h1 : i.fmod 6 ≠ 1) (h2 : i.fmod 6 ≠ 2) (h3 : i.fmod 6 ≠ 3) (h4 : i.fmod 6 ≠ 4) (h5 : i.fmod 6 ≠ 5) : False := by
  have a := Int.fmod_nonneg_of_pos i (show (0 : Int) < 6 by decide)
  have b := Int.fmod_lt_of_pos i (show (0 : Int) < 6 by decide)
  lia
end
section -- F3
open PySem PySem.Float64 PySem.Flt

theorem six_is : (4618441417868443648 : UInt64) = D 24576 := by decide +kernel
theorem one_is : (4607182418800017408 : UInt64) = D 4096 := by decide +kernel
theorem two_is : (4611686018427387904 : UInt64) = D 8192 := by decide +kernel
theorem four_is : (4616189618054758400 : UInt64) = D 16384 := by decide +kernel
theorem zero_is : (0 : UInt64) = D 0 := by decide +kernel

theorem mod_tab : ∀ j < 129, (Float64.divmod (D (64 * ((j : Nat) : Int) - 4096)) 4607182418800017408).snd = D (64 * ((((j : Nat) : Int) - 64) % 64)) := by decide +kernel
theorem mod_one {j : Int} (h : -64 ≤ j) (h' : j ≤ 64) : (Float64.divmod (D (64 * j)) 4607182418800017408).snd = D (64 * (j % 64)) := by
  have e := mod_tab (j + 64).toNat (by lia)
  rw [show (((j + 64).toNat : Nat) : Int) = j + 64 by lia] at e
  rw [show 64 * (j + 64) - 4096 = 64 * j by lia, show j + 64 - 64 = j by lia] at e
  exact e
theorem int_tab : ∀ u < 1024, Flt.toInt Float64.truncOf (D (384 * ((u : Nat) : Int))) = 3 * ((u : Nat) : Int) / 32 := by decide +kernel

theorem beq_eq_true {a b : Int} : ((some (compare a b) : Option Ordering) == some .eq) = true ↔ a = b := by
  rw [beq_iff_eq]
  constructor
  · intro h; exact Int.compare_eq_eq.mp (Option.some.inj h)
  · intro h; rw [Int.compare_eq_eq.mpr h]
theorem beq_eq_false {a b : Int} : ((some (compare a b) : Option Ordering) == some .eq) = false ↔ a ≠ b := by
  rw [← Bool.not_eq_true, beq_eq_true]
theorem beq_lt_true {a b : Int} : ((some (compare a b) : Option Ordering) == some .lt) = true ↔ a < b := by
  rw [beq_iff_eq]
  constructor
  · intro h; exact Int.compare_eq_lt.mp (Option.some.inj h)
  · intro h; rw [Int.compare_eq_lt.mpr h]

theorem D_max {a b : Int} (ha : a.natAbs < 2 ^ 53) (hb : b.natAbs < 2 ^ 53) : max2 (D a) (D b) = D (max a b) := by
  unfold max2
  rw [D_cmp ha hb]
  by_cases h : a < b
  · rw [if_pos (beq_lt_true.mpr h), Int.max_eq_right (by lia)]
  · rw [if_neg (fun q => h (beq_lt_true.mp q)), Int.max_eq_left (by lia)]
theorem D_min {a b : Int} (ha : a.natAbs < 2 ^ 53) (hb : b.natAbs < 2 ^ 53) : min2 (D a) (D b) = D (min a b) := by
  unfold min2
  rw [D_cmp hb ha]
  by_cases h : b < a
  · rw [if_pos (beq_lt_true.mpr h), Int.min_eq_right (by lia)]
  · rw [if_neg (fun q => h (beq_lt_true.mp q)), Int.min_eq_left (by lia)]

/-- a channel's height: the full one less x 32nds of the chroma -/
noncomputable def gI (le sh x : Int) : Int := 512 * le - 2 * (le * sh * x)

structure Sv (le sh : Int) : Prop where
  h0 : 1 ≤ sh
  h1 : sh ≤ 8
  l0 : 1 ≤ le
  l1 : le ≤ 8
theorem Sv.prod {le sh : Int} (h : Sv le sh) : 1 ≤ le * sh ∧ le * sh ≤ 8 * le := by
  obtain ⟨h0, h1, l0, l1⟩ := h
  constructor
  · have := Int.mul_le_mul l0 h0 (by lia) (by lia); lia
  · have := Int.mul_le_mul_of_nonneg_left h1 (show 0 ≤ le by lia); lia
theorem Sv.g {le sh x : Int} (h : Sv le sh) (x0 : 0 ≤ x) (x1 : x ≤ 32) : 0 ≤ le * sh * x ∧ le * sh * x ≤ 32 * (le * sh) ∧ (le * sh * x = 0 ↔ x = 0) := by
  have hp := h.prod
  generalize le * sh = q at *
  refine ⟨Int.mul_nonneg (by lia) x0, ?_, ?_⟩
  · have := Int.mul_le_mul_of_nonneg_left x1 (show 0 ≤ q by lia); lia
  · constructor
    · intro e
      rcases Int.mul_eq_zero.mp e with e | e
      · lia
      · exact e
    · intro e; rw [e, Int.mul_zero]
theorem Sv.gb {le sh x : Int} (h : Sv le sh) (x0 : 0 ≤ x) (x1 : x ≤ 32) : gI le sh 32 ≤ gI le sh x ∧ gI le sh x ≤ gI le sh 0 ∧ 0 ≤ gI le sh x ∧ gI le sh x ≤ 4096 ∧ (gI le sh x = gI le sh 0 ↔ x = 0) := by
  have hp := h.prod
  have hg := h.g x0 x1
  have l0 := h.l0
  have l1 := h.l1
  unfold gI
  rw [Int.mul_zero, Int.mul_comm (le * sh) 32]
  generalize le * sh * x = y at *
  generalize le * sh = q at *
  lia

theorem max_top {x y z m : Int} (hx : x ≤ m) (hy : y ≤ m) (hz : z ≤ m) (h : x = m ∨ y = m ∨ z = m) : max (max x y) z = m := by
  rcases h with rfl | rfl | rfl
  · rw [Int.max_eq_left hy, Int.max_eq_left hz]
  · rw [Int.max_eq_right hx, Int.max_eq_left hz]
  · exact Int.max_eq_right (Int.max_le.mpr ⟨hx, hy⟩)
theorem min_low {x y z m : Int} (hx : m ≤ x) (hy : m ≤ y) (hz : m ≤ z) (h : x = m ∨ y = m ∨ z = m) : min (min x y) z = m := by
  rcases h with rfl | rfl | rfl
  · rw [Int.min_eq_left hy, Int.min_eq_left hz]
  · rw [Int.min_eq_right hx, Int.min_eq_left hz]
  · exact Int.min_eq_right (Int.le_min.mpr ⟨hx, hy⟩)
theorem abs_small {x : Int} (h0 : 0 ≤ x) (h1 : x ≤ 4096) : x.natAbs < 2 ^ 53 := by lia
theorem max_small {x y : Int} (h0 : 0 ≤ x) (h1 : x ≤ 4096) (k0 : 0 ≤ y) (k1 : y ≤ 4096) : (max x y).natAbs < 2 ^ 53 := by omega
theorem min_small {x y : Int} (h0 : 0 ≤ x) (h1 : x ≤ 4096) (k0 : 0 ≤ y) (k1 : y ≤ 4096) : (min x y).natAbs < 2 ^ 53 := by omega
theorem mx_of {le sh a b c : Int} (h : Sv le sh) (a0 : 0 ≤ a) (a1 : a ≤ 32) (b0 : 0 ≤ b) (b1 : b ≤ 32) (c0 : 0 ≤ c) (c1 : c ≤ 32) (hz : a = 0 ∨ b = 0 ∨ c = 0) :
    mx3 (D (gI le sh a)) (D (gI le sh b)) (D (gI le sh c)) = D (gI le sh 0) := by
  have ha := h.gb a0 a1
  have hb := h.gb b0 b1
  have hc := h.gb c0 c1
  unfold mx3
  rw [D_max (abs_small ha.2.2.1 ha.2.2.2.1) (abs_small hb.2.2.1 hb.2.2.2.1), D_max (max_small ha.2.2.1 ha.2.2.2.1 hb.2.2.1 hb.2.2.2.1) (abs_small hc.2.2.1 hc.2.2.2.1),
    max_top ha.2.1 hb.2.1 hc.2.1 (by rcases hz with hz | hz | hz <;> subst hz <;> simp)]
theorem mn_of {le sh a b c : Int} (h : Sv le sh) (a0 : 0 ≤ a) (a1 : a ≤ 32) (b0 : 0 ≤ b) (b1 : b ≤ 32) (c0 : 0 ≤ c) (c1 : c ≤ 32) (hz : a = 32 ∨ b = 32 ∨ c = 32) :
    mn3 (D (gI le sh a)) (D (gI le sh b)) (D (gI le sh c)) = D (gI le sh 32) := by
  have ha := h.gb a0 a1
  have hb := h.gb b0 b1
  have hc := h.gb c0 c1
  unfold mn3
  rw [D_min (abs_small ha.2.2.1 ha.2.2.2.1) (abs_small hb.2.2.1 hb.2.2.2.1), D_min (min_small ha.2.2.1 ha.2.2.2.1 hb.2.2.1 hb.2.2.2.1) (abs_small hc.2.2.1 hc.2.2.2.1),
    min_low ha.1 hb.1 hc.1 (by rcases hz with hz | hz | hz <;> subst hz <;> simp)]

theorem share_of {le sh a b c x : Int} (h : Sv le sh) (hx : mx3 (D (gI le sh a)) (D (gI le sh b)) (D (gI le sh c)) = D (gI le sh 0)) (hn : mn3 (D (gI le sh a)) (D (gI le sh b)) (D (gI le sh c)) = D (gI le sh 32)) (x0 : 0 ≤ x) (x1 : x ≤ 32) :
    share (D (gI le sh a)) (D (gI le sh b)) (D (gI le sh c)) (D (gI le sh x)) = D (128 * x) := by
  have hg := h.gb x0 x1
  have h0 := h.gb (show (0 : Int) ≤ 0 by decide) (by decide)
  have h32 := h.gb (show (0 : Int) ≤ 32 by decide) (by decide)
  unfold share
  rw [hx, hn, D_sub (by omega) (by omega), D_sub (by omega) (by omega)]
  have hp := h.prod
  have e : gI le sh 0 - gI le sh 32 = 64 * (le * sh) := by unfold gI; grind
  refine D_div (by omega) (by omega) (by omega) (by lia) ?_
  rw [e]
  unfold gI
  grind

theorem turned_of {j H : Int} (h : -64 ≤ j) (h' : j ≤ 64) (e : H = 384 * j) : turned (D H) = D (64 * (j % 64)) := by
  unfold turned
  rw [six_is, D_div (c := 64 * j) (by omega) (by lia) (by lia) (by omega) (by lia)]
  exact mod_one h h'

/-- the three channels' x in the sector i of the wheel, r 32nds into it -/
noncomputable def SecIs (i r a b c : Int) : Prop :=
  (i = 0 ∧ a = 0 ∧ b = 32 - r ∧ c = 32) ∨ (i = 1 ∧ a = r ∧ b = 0 ∧ c = 32) ∨ (i = 2 ∧ a = 32 ∧ b = 0 ∧ c = 32 - r) ∨
  (i = 3 ∧ a = 32 ∧ b = r ∧ c = 0) ∨ (i = 4 ∧ a = 32 - r ∧ b = 32 ∧ c = 0) ∨ (i = 5 ∧ a = 0 ∧ b = 32 ∧ c = r)

theorem sec_facts {i r a b c : Int} (h : SecIs i r a b c) (r0 : 0 ≤ r) (r1 : r < 32) : (0 ≤ a ∧ a ≤ 32 ∧ 0 ≤ b ∧ b ≤ 32 ∧ 0 ≤ c ∧ c ≤ 32) ∧ (a = 0 ∨ b = 0 ∨ c = 0) ∧ (a = 32 ∨ b = 32 ∨ c = 32) := by
  have hr := Int.le_of_lt r1
  have h0 : (0 : Int) ≤ 32 - r := by lia
  have h1 : 32 - r ≤ 32 := by lia
  have k0 : (0 : Int) ≤ 0 := by decide
  have k1 : (0 : Int) ≤ 32 := by decide
  have k2 : (32 : Int) ≤ 32 := by decide
  rcases h with ⟨-, rfl, rfl, rfl⟩ | ⟨-, rfl, rfl, rfl⟩ | ⟨-, rfl, rfl, rfl⟩ | ⟨-, rfl, rfl, rfl⟩ | ⟨-, rfl, rfl, rfl⟩ | ⟨-, rfl, rfl, rfl⟩ <;>
    simp only [r0, hr, h0, h1, k0, k1, k2, true_and, true_or, or_true, and_true]
theorem sec_zero {i r a b c : Int} (h : SecIs i r a b c) (r0 : 0 ≤ r) (r1 : r < 32) (e : a = 0) : (c - b = 32 * i + r ∧ 32 * i + r ≤ 32) ∨ (c - b = 32 * i + r - 192 ∧ 160 ≤ 32 * i + r) := by
  rcases h with ⟨rfl, rfl, rfl, rfl⟩ | ⟨rfl, rfl, rfl, rfl⟩ | ⟨rfl, rfl, rfl, rfl⟩ | ⟨rfl, rfl, rfl, rfl⟩ | ⟨rfl, rfl, rfl, rfl⟩ | ⟨rfl, rfl, rfl, rfl⟩ <;> lia
theorem sec_one {i r a b c : Int} (h : SecIs i r a b c) (r1 : r < 32) (e : a ≠ 0) (e' : b = 0) : 64 + a - c = 32 * i + r := by
  rcases h with ⟨rfl, rfl, rfl, rfl⟩ | ⟨rfl, rfl, rfl, rfl⟩ | ⟨rfl, rfl, rfl, rfl⟩ | ⟨rfl, rfl, rfl, rfl⟩ | ⟨rfl, rfl, rfl, rfl⟩ | ⟨rfl, rfl, rfl, rfl⟩ <;> lia
theorem sec_two {i r a b c : Int} (h : SecIs i r a b c) (e : a ≠ 0) (e' : b ≠ 0) (r1 : r < 32) : 128 + b - a = 32 * i + r := by
  rcases h with ⟨rfl, rfl, rfl, rfl⟩ | ⟨rfl, rfl, rfl, rfl⟩ | ⟨rfl, rfl, rfl, rfl⟩ | ⟨rfl, rfl, rfl, rfl⟩ | ⟨rfl, rfl, rfl, rfl⟩ | ⟨rfl, rfl, rfl, rfl⟩ <;> lia

theorem hue_of {le sh i r a b c v : Int} {hue : UInt64} (h : Sv le sh) (hs : SecIs i r a b c) (r0 : 0 ≤ r) (r1 : r < 32) (v0 : 0 ≤ v) (v1 : v < 64) (hv : 3 * v = 32 * i + r)
    (H : HueIs (D (gI le sh a)) (D (gI le sh b)) (D (gI le sh c)) hue) : hue = D (64 * v) := by
  obtain ⟨⟨a0, a1, b0, b1, c0, c1⟩, z0, z1⟩ := sec_facts hs r0 r1
  have hx := mx_of h a0 a1 b0 b1 c0 c1 z0
  have hn := mn_of h a0 a1 b0 b1 c0 c1 z1
  have ga := h.gb a0 a1
  have gb := h.gb b0 b1
  have gc := h.gb c0 c1
  have g0 := h.gb (show (0 : Int) ≤ 0 by decide) (by decide)
  unfold HueIs at H
  rw [share_of h hx hn a0 a1, share_of h hx hn b0 b1, share_of h hx hn c0 c1, hx, D_cmp (by lia) (by lia), D_cmp (by omega) (by lia), two_is, four_is] at H
  rw [D_sub (by lia) (by lia), D_add (by lia) (by lia), D_sub (by lia) (by lia), D_add (by lia) (by lia), D_sub (by lia) (by lia)] at H
  simp only [beq_eq_true, beq_eq_false] at H
  have fin : ∀ j : Int, -64 ≤ j → j ≤ 64 → j % 64 = v → ∀ T : Int, T = 384 * j → hue = turned (D T) → hue = D (64 * v) := by
    intro j j0 j1 e T hT hh
    rw [hh, turned_of j0 j1 hT, e]
  have m0 : v % 64 = v := Int.emod_eq_of_lt v0 v1
  have m1 : (v - 64) % 64 = v := by rw [Int.sub_emod_right, m0]
  clear hx hn g0
  rcases H with ⟨e, hh⟩ | ⟨e, e', hh⟩ | ⟨e, e', hh⟩
  · have : a = 0 := ga.2.2.2.2.mp e
    clear ga gb gc
    rcases sec_zero hs r0 r1 this with ⟨q, q'⟩ | ⟨q, q'⟩
    · exact fin v (by lia) (by lia) m0 _ (by lia) hh
    · exact fin (v - 64) (by lia) (by lia) m1 _ (by lia) hh
  · have : a ≠ 0 := fun q => e (ga.2.2.2.2.mpr q)
    have q := sec_one hs r1 this (gb.2.2.2.2.mp e')
    clear ga gb gc
    exact fin v (by lia) (by lia) m0 _ (by lia) hh
  · have : a ≠ 0 := fun q => e (ga.2.2.2.2.mpr q)
    have q := sec_two hs this (fun q => e' (gb.2.2.2.2.mpr q)) r1
    clear ga gb gc
    exact fin v (by lia) (by lia) m0 _ (by lia) hh
end
section -- F4
open PySem PySem.Float64 PySem.Flt

theorem hsv_mul {u : Int} (u0 : 0 ≤ u) (u1 : u < 1024) : mul (D (64 * u)) 4618441417868443648 = D (384 * u) := by
  rw [six_is]; exact D_mul (by lia) (by decide) (by lia) (by decide) (by lia) (by lia)
theorem hsvI_is {u : Int} (u0 : 0 ≤ u) (u1 : u < 1024) : hsvI (D (64 * u)) = 3 * u / 32 := by
  unfold hsvI
  rw [hsv_mul u0 u1]
  have := int_tab u.toNat (by lia)
  rwa [show ((u.toNat : Nat) : Int) = u by lia] at this
theorem hsvF_is {u : Int} (u0 : 0 ≤ u) (u1 : u < 1024) : hsvF (D (64 * u)) = D (128 * (3 * u % 32)) := by
  unfold hsvF
  rw [hsvI_is u0 u1, hsv_mul u0 u1, D_int (by lia) (by lia), D_sub (by lia) (by omega)]
  congr 1
  lia
theorem hsv_pre {u sh : Int} (u0 : 0 ≤ u) (u1 : u < 1024) (h0 : 1 ≤ sh) (h1 : sh ≤ 8) :
    (Float64.cmp (D (512 * sh)) 0 == some Ordering.eq) = false ∧ Float64.isNaN (Float64.mul (D (64 * u)) 4618441417868443648) = false ∧ Float64.isInf (Float64.mul (D (64 * u)) 4618441417868443648) = false ∧ (hsvI (D (64 * u))).natAbs < 2 ^ 40 := by
  rw [hsv_mul u0 u1, hsvI_is u0 u1, zero_is, D_cmp (by omega) (by lia)]
  exact ⟨beq_eq_false.mpr (by lia), D_isNaN (by lia), D_isInf (by lia), by omega⟩

theorem hsvP_is {le sh : Int} (h : Sv le sh) : hsvP (D (512 * sh)) (D (512 * le)) = D (gI le sh 32) := by
  have hp := h.prod
  have hg := h.gb (show (0 : Int) ≤ 32 by decide) (by decide)
  obtain ⟨h0, h1, l0, l1⟩ := h
  unfold hsvP
  rw [one_is, D_sub (by lia) (by lia)]
  refine D_mul (by lia) (by lia) (by lia) (by lia) (by omega) ?_
  unfold gI; grind
theorem one_less {le sh x : Int} (h : Sv le sh) (x0 : 0 ≤ x) (x1 : x ≤ 32) : mul (D (512 * le)) (sub (D 4096) (mul (D (512 * sh)) (D (128 * x)))) = D (gI le sh x) := by
  have hg := h.gb x0 x1
  obtain ⟨h0, h1, l0, l1⟩ := h
  have hy0 : 0 ≤ sh * x := Int.mul_nonneg (by lia) x0
  have hy1 : sh * x ≤ 256 := by
    have a := Int.mul_le_mul_of_nonneg_left x1 (show 0 ≤ sh by lia)
    lia
  rw [D_mul (c := 16 * (sh * x)) (by lia) (by lia) (by lia) (by lia) (by lia) (by grind), D_sub (by lia) (by lia)]
  refine D_mul (by lia) (by lia) (by lia) (by lia) (by omega) ?_
  unfold gI; grind
theorem hsvQ_is {le sh u : Int} (h : Sv le sh) (u0 : 0 ≤ u) (u1 : u < 1024) : hsvQ (D (64 * u)) (D (512 * sh)) (D (512 * le)) = D (gI le sh (3 * u % 32)) := by
  unfold hsvQ
  rw [hsvF_is u0 u1, one_is]
  exact one_less h (by lia) (by lia)
theorem hsvT_is {le sh u : Int} (h : Sv le sh) (u0 : 0 ≤ u) (u1 : u < 1024) : hsvT (D (64 * u)) (D (512 * sh)) (D (512 * le)) = D (gI le sh (32 - 3 * u % 32)) := by
  unfold hsvT
  rw [hsvF_is u0 u1, one_is, D_sub (by lia) (by lia), show 4096 - 128 * (3 * u % 32) = 128 * (32 - 3 * u % 32) by lia]
  exact one_less h (by lia) (by lia)
theorem v_is {le sh : Int} : D (512 * le) = D (gI le sh 0) := by unfold gI; congr 1; grind

theorem rgb_of {le sh u : Int} {r g b : UInt64} (h : Sv le sh) (u0 : 0 ≤ u) (u1 : u < 1024) (H : RgbIs (D (64 * u)) (D (512 * sh)) (D (512 * le)) r g b) :
    ∃ i rr x y z, SecIs i rr x y z ∧ 0 ≤ rr ∧ rr < 32 ∧ 3 * (u % 64) = 32 * i + rr ∧ r = D (gI le sh x) ∧ g = D (gI le sh y) ∧ b = D (gI le sh z) := by
  unfold RgbIs at H
  rw [hsvI_is u0 u1, hsvP_is h, hsvQ_is h u0 u1, hsvT_is h u0 u1, v_is (le := le) (sh := sh), Int.fmod_eq_emod_of_nonneg _ (by decide)] at H
  have hm : 3 * (u % 64) = 32 * (3 * u / 32 % 6) + 3 * u % 32 := by lia
  have r0 : 0 ≤ 3 * u % 32 := Int.emod_nonneg _ (by decide)
  have r1 : 3 * u % 32 < 32 := Int.emod_lt_of_pos _ (by decide)
  generalize 3 * u % 32 = q at *
  rcases H with ⟨e, rfl, rfl, rfl⟩ | ⟨e, rfl, rfl, rfl⟩ | ⟨e, rfl, rfl, rfl⟩ | ⟨e, rfl, rfl, rfl⟩ | ⟨e, rfl, rfl, rfl⟩ | ⟨e, rfl, rfl, rfl⟩ <;> rw [e] at hm
  · exact ⟨0, q, 0, 32 - q, 32, .inl ⟨rfl, rfl, rfl, rfl⟩, r0, r1, hm, rfl, rfl, rfl⟩
  · exact ⟨1, q, q, 0, 32, .inr (.inl ⟨rfl, rfl, rfl, rfl⟩), r0, r1, hm, rfl, rfl, rfl⟩
  · exact ⟨2, q, 32, 0, 32 - q, .inr (.inr (.inl ⟨rfl, rfl, rfl, rfl⟩)), r0, r1, hm, rfl, rfl, rfl⟩
  · exact ⟨3, q, 32, q, 0, .inr (.inr (.inr (.inl ⟨rfl, rfl, rfl, rfl⟩))), r0, r1, hm, rfl, rfl, rfl⟩
  · exact ⟨4, q, 32 - q, 32, 0, .inr (.inr (.inr (.inr (.inl ⟨rfl, rfl, rfl, rfl⟩)))), r0, r1, hm, rfl, rfl, rfl⟩
  · exact ⟨5, q, 0, 32, q, .inr (.inr (.inr (.inr (.inr ⟨rfl, rfl, rfl, rfl⟩)))), r0, r1, hm, rfl, rfl, rfl⟩

/-- what the two readers want of a painted colour, and what they tell -/
structure Painted (le sh v : Int) (r g b : UInt64) : Prop where
  ne : (Float64.cmp (mn3 r g b) (mx3 r g b) == some Ordering.eq) = false
  mx : Float64.isZero (mx3 r g b) = false
  range : Float64.isZero (Float64.sub (mx3 r g b) (mn3 r g b)) = false
  sum : Float64.isZero (Float64.add (mx3 r g b) (mn3 r g b)) = false
  rest : Float64.isZero (Float64.sub (Float64.sub 4611686018427387904 (mx3 r g b)) (mn3 r g b)) = false
  val : mx3 r g b = D (512 * le)
  sat : Float64.div (Float64.sub (mx3 r g b) (mn3 r g b)) (mx3 r g b) = D (512 * sh)
  light : Float64.div (Float64.add (mx3 r g b) (mn3 r g b)) 4611686018427387904 = D (32 * (le * (16 - sh)))
  hue : ∀ hue, HueIs r g b hue → hue = D (64 * v)

theorem abs_small2 {x : Int} (h0 : 0 ≤ x) (h1 : x ≤ 4096) : x.natAbs < 2 ^ 52 := by lia
theorem abs_less {x y : Int} (h0 : 0 ≤ x) (h1 : x ≤ 4096) (k0 : 0 ≤ y) (k1 : y ≤ 4096) : (x - y).natAbs < 2 ^ 53 := by omega
theorem abs_more {x y : Int} (h0 : 0 ≤ x) (h1 : x ≤ 4096) (k0 : 0 ≤ y) (k1 : y ≤ 4096) : (x + y).natAbs < 2 ^ 53 := by lia
theorem painted {le sh u : Int} {r g b : UInt64} (h : Sv le sh) (u0 : 0 ≤ u) (u1 : u < 1024) (H : RgbIs (D (64 * u)) (D (512 * sh)) (D (512 * le)) r g b) : Painted le sh (u % 64) r g b := by
  obtain ⟨i, rr, x, y, z, hs, r0, r1, hv, rfl, rfl, rfl⟩ := rgb_of h u0 u1 H
  obtain ⟨⟨a0, a1, b0, b1, c0, c1⟩, z0, z1⟩ := sec_facts hs r0 r1
  have hx := mx_of h a0 a1 b0 b1 c0 c1 z0
  have hn := mn_of h a0 a1 b0 b1 c0 c1 z1
  have g0 := h.gb (show (0 : Int) ≤ 0 by decide) (by decide)
  have g1 := h.gb (show (0 : Int) ≤ 32 by decide) (by decide)
  have hp := h.prod
  have e0 : gI le sh 0 = 512 * le := by unfold gI; grind
  have e1 : gI le sh 32 = 512 * le - 64 * (le * sh) := by unfold gI; grind
  have l0 := h.l0
  have l1 := h.l1
  have hle : le * sh ≤ 8 * le := hp.2
  have hq : le * (16 - sh) = 16 * le - le * sh := by grind
  have a3 := abs_small g0.2.2.1 g0.2.2.2.1
  have b3 := abs_small g1.2.2.1 g1.2.2.2.1
  have a2 := abs_small2 g0.2.2.1 g0.2.2.2.1
  have b2 := abs_small2 g1.2.2.1 g1.2.2.2.1
  refine ⟨?_, ?_, ?_, ?_, ?_, ?_, ?_, ?_, fun hue hh => hue_of h hs r0 r1 (by lia) (by omega) hv hh⟩
  · rw [hx, hn, D_cmp b3 a3]; exact beq_eq_false.mpr (by lia)
  · rw [hx]; exact D_isZero a3 (by lia)
  · rw [hx, hn, D_sub a2 b2]; exact D_isZero (abs_less g0.2.2.1 g0.2.2.2.1 g1.2.2.1 g1.2.2.2.1) (by lia)
  · rw [hx, hn, D_add a2 b2]; exact D_isZero (abs_more g0.2.2.1 g0.2.2.2.1 g1.2.2.1 g1.2.2.2.1) (by lia)
  · rw [hx, hn, two_is, D_sub (by lia) a2, D_sub (by lia) b2]; exact D_isZero (by omega) (by lia)
  · rw [hx, e0]
  · rw [hx, hn, D_sub a2 b2]
    have := h.h0
    have := h.h1
    refine D_div (abs_less g0.2.2.1 g0.2.2.2.1 g1.2.2.1 g1.2.2.2.1) (by lia) (by lia) (by lia) ?_
    rw [e0, e1]; grind
  · rw [hx, hn, D_add a2 b2, two_is]
    refine D_div (abs_more g0.2.2.1 g0.2.2.2.1 g1.2.2.1 g1.2.2.2.1) (by decide) (by decide) (by lia) ?_
    rw [e0, e1, hq]; lia
end
section -- F6
open PySem PySem.W PyProof.Rows PySem.Calls PySem.Flt PySem.SeqAt
theorem ns_gone {K : Frag} {h : Heap} {A : Addr} {mg : Str → Option Value} {n : Str} (X : K.In h) (G : h.Ns A mg) (e : nsIn K A n = some none) : mg n = none := by
  obtain ⟨o, es, ep, ho, hd, _, hf⟩ := G
  unfold nsIn at e
  split at e
  · rename_i c d es' n' sl q
    have := X _ _ q
    rw [ho] at this
    cases this
    cases hd
    split at e
    · cases e
    · rename_i hq
      rw [← hf]
      unfold nsFind findBy
      rw [← Array.find?_toList, hq]
      rfl
  · cases e
theorem sharing_gone (w : World) : nsIn (hd.heap_39 w.params) cStatics sharingNotToldKey = some none := by kernel_rfl
theorem none_booked {w : World} {p : Program} {loose : List Str} {mean : ExcName → Option Value} {mg mb : Str → Option Value} {h₀ h : Heap} {L : Addr} {m : Str → Option Value}
    (X : (hd.heap_39 w.params).In h₀) (T : Top p loose mean mg mb h₀) (F : Fr h₀ L h m) : NoneBooked h := by
  obtain ⟨mc, a, _⟩ := T.nolimit
  exact ⟨mc, a.keeps F.keep, ns_gone X a (sharing_gone w)⟩

section
variable {A : Around} {s : Shared} {a b n : Int} {t u : Tok}
theorem cmp_dec : ((some (compare a b) : Option Ordering) == some .eq) = decide (a = b) := by
  by_cases q : a = b
  · rw [beq_eq_true.mpr q, decide_eq_true q]
  · rw [beq_eq_false.mpr q, decide_eq_false q]
theorem same_float {prog : Program} {w : World} {E : Value → Shared → Prop} {x y : UInt64} {Q : Bool → Shared → Prop} (ht : 0 < t) (hu : 0 < u) (hb : NoneBooked s.heap) (h0 : Q false s) (h1 : x = y → Q true s) (h2 : t = u → Q true s) :
    wpAny (model prog w) A (isSame (.float x t) (.float y u)) Q E s := by
  show wpAny _ A (isSame.created (x == y && !Float64.isNaN x) t u) Q E s
  unfold isSame.created
  have h00 : (t == 0 || u == 0) = false := by
    rw [Bool.or_eq_false_iff]
    exact ⟨beq_eq_false_iff_ne.mpr (Nat.ne_of_gt ht), beq_eq_false_iff_ne.mpr (Nat.ne_of_gt hu)⟩
  refine wpAny_ite ?_
  split
  · rename_i h; rw [h00] at h; exact absurd h Bool.false_ne_true
  refine wpAny_ite ?_
  split
  · rename_i h; exact wpAny_pure (h2 (beq_iff_eq.mp h))
  refine wpAny_ite ?_
  split
  · exact wpAny_pure h0
  rename_i hne
  have hxy : x = y := by
    have : (x == y && !Float64.isNaN x) = true := by simpa using hne
    rw [Bool.and_eq_true] at this
    exact beq_iff_eq.mp this.1
  refine wpAny_bind (wpAny_sharingNotTold_none hb ?_)
  first | rw [if_neg Bool.false_ne_true] | simp only [Bool.false_eq_true, if_false]
  refine wpAny_bind (wpAny_sharingNotTold_none hb ?_)
  first | rw [if_neg Bool.false_ne_true] | simp only [Bool.false_eq_true, if_false]
  have hall : ∀ r : Bool, Q r s := fun r => by
    cases r
    · exact h0
    · exact h1 hxy
  exact wpAny_bind (wpAny_rule (wpAny_bind (wpAny_askSetting (wpAny_pure (hall _)))))
theorem eqD (ha : a.natAbs < 2 ^ 53) (hb : b.natAbs < 2 ^ 53) (ht : 0 < t) (hu : 0 < u) (hn : NoneBooked s.heap) (htu : t = u → a = b) : EqAt A s (.float (D a) t) (.float (D b) u) (decide (a = b)) := fun prog w E Q h => by
  unfold eqBool
  refine wpAny_holding ?_
  refine wpAny_ite_split (fun hab => ?_) (fun _ => ?_)
  · have e : D a = D b := by have := eq_of_beq hab; injection this
    have e2 := D_inj ha hb e
    exact wpAny_bind (wpAny_rule (wpAny_pure (by simpa [e2] using h)))
  · have hcmp : wpAny (model prog w) A (compareOp .Eq (.float (D a) t) (.float (D b) u)) (fun v s' => wpAny (model prog w) A (truthOfDropped v) Q E s') E s := AutoFloatOps.eq_0 (wpAny_truthy_bool (by rw [D_cmp ha hb, cmp_dec]; exact h))
    have hyes : a = b → wpAny (model prog w) A (pure true) Q E s := fun e => wpAny_pure (by rw [decide_eq_true e] at h; exact h)
    refine wpAny_bind (same_float ht hu hn ?_ (fun e => ?_) (fun e => ?_))
    · exact wpAny_bind hcmp
    · exact hyes (D_inj ha hb e)
    · exact hyes (htu e)
theorem eqDI (ha : a.natAbs < 2 ^ 53) : EqAt A s (.float (D a) t) (.int n u) (decide (a = 4096 * n)) := fun prog w E Q h => by
  unfold eqBool
  refine wpAny_holding ?_
  refine wpAny_ite_split (fun hab => absurd (eq_of_beq hab) nofun) (fun _ => ?_)
  refine wpAny_bind (show wpAny (model prog w) A (compareOp .Eq _ _) _ E s from eq_fi (wpAny_truthy_bool ?_))
  rw [D_cmpInt ha, cmp_dec]; exact h
theorem eqDI_yes (ha : a.natAbs < 2 ^ 53) (e : a = 4096 * n) : EqAt A s (.float (D a) t) (.int n u) true := by
  have h := eqDI (A := A) (s := s) (t := t) (u := u) (n := n) ha
  rwa [decide_eq_true e] at h
theorem eqD_yes (ha : a.natAbs < 2 ^ 53) (ht : 0 < t) (hu : 0 < u) (hn : NoneBooked s.heap) (e : a = b) : EqAt A s (.float (D a) t) (.float (D b) u) true := by
  subst e
  have h := eqD (A := A) (s := s) (t := t) (u := u) ha ha ht hu hn (fun _ => rfl)
  rwa [decide_eq_true rfl] at h
theorem eqI_yes (e : a = b) : EqAt A s (.int a t) (.int b u) true := by
  have h := EqAt.int_int (A := A) (s := s) a t b u
  rwa [beq_iff_eq.mpr e] at h
end
section
variable {prog : Program} {w : World} {A : Around} {E : Value → Shared → Prop} {s : Shared} {Q : Value → Shared → Prop} {h₀ : Heap} {L x y : Addr} {m : Str → Option Value} {news : List (Addr × Obj)} {v1 v2 v3 u1 u2 u3 : Value} {nx ny : Nat}
theorem ne_tup {xs ys : Array Value} (hx : s.heap.IsTuple x xs) (hy : s.heap.IsTuple y ys) (hsz : xs.size = ys.size) (hu : A.units < cLine)
    (he : ∀ j (h1 : j < xs.size) (h2 : j < ys.size), EqAt A.in1 s xs[j] ys[j] true) (h : Q (.bool false) s) : wpAny (model prog w) A (compareOp .NotEq (.ref x) (.ref y)) Q E s := by
  refine RcNeAt.tuples (e := fun _ => true) hx hy hu he prog w E Q ?_
  have : (!((List.range (min xs.size ys.size)).all (fun _ => true) && xs.size == ys.size)) = false := by
    rw [hsz, beq_self_eq_true, Bool.and_true, List.all_eq_true.mpr (fun _ _ => rfl)]; rfl
  rw [this]; exact h
theorem ne_tup3 (N : News h₀ L s.heap news) (hx : (x, tup [v1, v2, v3]) ∈ news) (hy : (y, tup [u1, u2, u3]) ∈ news) (hu : A.units < cLine)
    (e1 : EqAt A.in1 s v1 u1 true) (e2 : EqAt A.in1 s v2 u2 true) (e3 : EqAt A.in1 s v3 u3 true) (h : Q (.bool false) s) : wpAny (model prog w) A (compareOp .NotEq (.ref x) (.ref y)) Q E s := by
  refine ne_tup (xs := #[v1, v2, v3]) (ys := #[u1, u2, u3]) ⟨_, (N _ hx).1, rfl, _, rfl⟩ ⟨_, (N _ hy).1, rfl, _, rfl⟩ rfl hu ?_ h
  intro j h1 h2
  match j, h1, h2 with
  | 0, _, _ => exact e1
  | 1, _, _ => exact e2
  | 2, _, _ => exact e3
theorem ne_tup2 (N : News h₀ L s.heap news) (hx : (x, tup [v1, v2]) ∈ news) (hy : (y, tup [u1, u2]) ∈ news) (hu : A.units < cLine)
    (e1 : EqAt A.in1 s v1 u1 true) (e2 : EqAt A.in1 s v2 u2 true) (h : Q (.bool false) s) : wpAny (model prog w) A (compareOp .NotEq (.ref x) (.ref y)) Q E s := by
  refine ne_tup (xs := #[v1, v2]) (ys := #[u1, u2]) ⟨_, (N _ hx).1, rfl, _, rfl⟩ ⟨_, (N _ hy).1, rfl, _, rfl⟩ rfl hu ?_ h
  intro j h1 h2
  match j, h1, h2 with
  | 0, _, _ => exact e1
  | 1, _, _ => exact e2
end
end
section -- C2
open PySem PySem.W PyProof.Rows PySem.Calls PySem.Flt
theorem idle_C2 : True := by
  w_top off
  trivial
noncomputable abbrev DoesT (w : World) (f : Addr) (room units : Nat) (vs : List Value) (news : List (Addr × Obj)) (R : Nat → Value → List (Addr × Obj) → Nat → Prop) : Prop :=
  ∀ (p : Program) (loose : List Str) (mean : ExcName → Option Value) (mg mb : Str → Option Value)
   (dp un : Nat) (gd : Option (List Code)) (cn : Str) (cs : Scope) (a : Addr) (ccd : Value) (cl : List (Str × Addr)) (outer : List Env) (A₀ : Around) (base h₀ : Heap) (L : Addr) (m : Str → Option Value) (s : Shared) (Q E : Value → Shared → Prop),
   Below A₀ base outer h₀ → Fr h₀ L s.heap m → (hd.heap_39 w.params).In h₀ → News h₀ L s.heap news → Top p loose mean mg mb h₀ → cs.kind = .function →
   dp + room < recursionLimit → un + units < cLine → 0 < s.toks →
   (∀ (v : Value) (news' : List (Addr × Obj)) (h' : Heap) (tk' : Nat), Fr h₀ L h' m → News h₀ L h' news' → s.toks ≤ tk' → R s.toks v news' tk' → Q v { s with heap := h', toks := tk' }) →
   wpAny (model PySem.Challenge.rw_pe0224_01.row.prog w) (ktrTop dp un gd cn cs L a ccd cl outer) (call (.ref f) vs) Q E s
theorem DoesT.use {w : World} {f : Addr} {room units : Nat} {vs : List Value} {news : List (Addr × Obj)} {R : Nat → Value → List (Addr × Obj) → Nat → Prop} (D : DoesT w f room units vs news R)
   {p : Program} {loose : List Str} {mean : ExcName → Option Value} {mg mb : Str → Option Value}
   {dp un : Nat} {gd : Option (List Code)} {cn : Str} {cs : Scope} {a : Addr} {ccd : Value} {cl : List (Str × Addr)} {outer : List Env} {A₀ : Around} {base h₀ : Heap} {L : Addr} {m : Str → Option Value} {s : Shared} {Q E : Value → Shared → Prop}
   (B : Below A₀ base outer h₀) (F : Fr h₀ L s.heap m) (X : (hd.heap_39 w.params).In h₀) (N : News h₀ L s.heap news) (T : Top p loose mean mg mb h₀) (hk : cs.kind = .function)
   (hd : dp + room < recursionLimit) (hu : un + units < cLine) (ht : 0 < s.toks)
   (hret : ∀ (v : Value) (news' : List (Addr × Obj)) (h' : Heap) (tk' : Nat), Fr h₀ L h' m → News h₀ L h' news' → s.toks ≤ tk' → R s.toks v news' tk' → Q v { s with heap := h', toks := tk' }) :
   wpAny (model PySem.Challenge.rw_pe0224_01.row.prog w) (ktrTop dp un gd cn cs L a ccd cl outer) (call (.ref f) vs) Q E s := D p loose mean mg mb dp un gd cn cs a ccd cl outer A₀ base h₀ L m s Q E B F X N T hk hd hu ht hret
theorem wp_gentoks {α : Type} {M : Model} {A : Around} {t : Sem α} {Q : α → Shared → Prop} {E : Value → Shared → Prop} {h : Heap} {g : Array GenState} {d : Drawn} {tk : Nat} {os : OsState}
    (k : ∀ tk', tk < tk' → wpAny M A t Q E ⟨h, g, d, tk', os⟩) : wpAny M A t Q E ⟨h, g, d, tk + 1, os⟩ := k _ (Nat.lt_succ_self _)
theorem wp_gentoks0 {α : Type} {M : Model} {A : Around} {t : Sem α} {Q : α → Shared → Prop} {E : Value → Shared → Prop} {h : Heap} {g : Array GenState} {d : Drawn} {n tk : Nat} {os : OsState}
    (hn : n ≤ tk) (k : ∀ tk', n ≤ tk' → wpAny M A t Q E ⟨h, g, d, tk', os⟩) : wpAny M A t Q E ⟨h, g, d, tk, os⟩ := k _ hn
section
variable {prog : Program} {w : World} {A : Around} {E : Value → Shared → Prop} {s : Shared} {Q : Value → Shared → Prop}
theorem max_three_pos {x y z : UInt64} {t u v : Tok} {h₀ : Heap} {L : Addr} {m : Str → Option Value} {news : List (Addr × Obj)}
    (hh : A.handled = none) (ht : 0 < t) (hu : 0 < u) (hv : 0 < v) (F : Fr h₀ L s.heap m) (N : News h₀ L s.heap news)
    (h : ∀ h' tk v, Fr h₀ L h' m → News h₀ L h' news → 0 < v → s.toks ≤ tk → Q (.float (max2 (max2 x y) z) v) { s with heap := h', toks := tk }) :
    wpAny (model prog w) A (call (.builtin "max") [.float x t, .float y u, .float z v]) Q E s :=
  wpAny_with_toks (Nat.le_refl s.toks) <| max_three_num hh (.float x t) (.float y u) (.float z v) fun h' tk kp hle => by
    have h := fun v hv => h h' tk v (F.grownK kp) (N.grown kp) hv hle
    unfold max2 at h
    cases h1 : (Float64.cmp x y == some Ordering.lt)
    · simp only [h1, Bool.false_eq_true, if_false] at h
      simp only [ltV, h1, Bool.false_eq_true, if_false]
      cases h2 : (Float64.cmp x z == some Ordering.lt)
      · simp only [h2, Bool.false_eq_true, if_false] at h ⊢; exact h _ (by assumption)
      · simp only [h2, if_true] at h ⊢; exact h _ (by assumption)
    · simp only [h1, if_true] at h
      simp only [ltV, h1, if_true]
      cases h2 : (Float64.cmp y z == some Ordering.lt)
      · simp only [h2, Bool.false_eq_true, if_false] at h ⊢; exact h _ (by assumption)
      · simp only [h2, if_true] at h ⊢; exact h _ (by assumption)
theorem min_three_pos {x y z : UInt64} {t u v : Tok} {h₀ : Heap} {L : Addr} {m : Str → Option Value} {news : List (Addr × Obj)}
    (hh : A.handled = none) (ht : 0 < t) (hu : 0 < u) (hv : 0 < v) (F : Fr h₀ L s.heap m) (N : News h₀ L s.heap news)
    (h : ∀ h' tk v, Fr h₀ L h' m → News h₀ L h' news → 0 < v → s.toks ≤ tk → Q (.float (min2 (min2 x y) z) v) { s with heap := h', toks := tk }) :
    wpAny (model prog w) A (call (.builtin "min") [.float x t, .float y u, .float z v]) Q E s :=
  wpAny_with_toks (Nat.le_refl s.toks) <| min_three_num hh (.float x t) (.float y u) (.float z v) fun h' tk kp hle => by
    have h := fun v hv => h h' tk v (F.grownK kp) (N.grown kp) hv hle
    unfold min2 at h
    cases h1 : (Float64.cmp y x == some Ordering.lt)
    · simp only [h1, Bool.false_eq_true, if_false] at h
      simp only [ltV, h1, Bool.false_eq_true, if_false]
      cases h2 : (Float64.cmp z x == some Ordering.lt)
      · simp only [h2, Bool.false_eq_true, if_false] at h ⊢; exact h _ (by assumption)
      · simp only [h2, if_true] at h ⊢; exact h _ (by assumption)
    · simp only [h1, if_true] at h
      simp only [ltV, h1, if_true]
      cases h2 : (Float64.cmp z y == some Ordering.lt)
      · simp only [h2, Bool.false_eq_true, if_false] at h ⊢; exact h _ (by assumption)
      · simp only [h2, if_true] at h ⊢; exact h _ (by assumption)
end
end
local macro_rules | `(tactic| walk_at "s 0") => `(tactic| (k_here; (with_reducible show wpAny _ _ _ _ _ (Shared.mk _ _ _ (_ + 1) _)); refine wp_gentoks ?_; intro tk htk; (try dsimp only at htk)))
section
open PySem PySem.W PyProof.Rows PySem.Calls PySem.Flt
local macro_rules | `(tactic| walk_at "execs cons") => `(tactic| walk_at "s 0")
local macro_rules | `(tactic| walk_at "execs nil") => `(tactic| walk_at "s 0")
local macro_rules | `(tactic| walk_at "my pos") => `(tactic| first | assumption | exact Nat.succ_pos _ | ((try dsimp only); lia) | (refine Nat.lt_of_lt_of_le (by assumption : 0 < Shared.toks _) ?_; (try dsimp only); lia))
local macro_rules | `(tactic| walk_at "my three") => `(tactic| (intro _ _ _ F' N' _ hle'; (try dsimp only at hle'); (try k_sweep)))
local macro_rules | `(tactic| walk_at "call builtin:max") => `(tactic| (k_here; (rename News _ _ _ _ => N'); (rename Fr _ _ _ _ => F'); refine max_three_pos rfl (by assumption) (by assumption) (by assumption) F' N' ?_; clear N'; walk_at "my three"))
local macro_rules | `(tactic| walk_at "call builtin:min") => `(tactic| (k_here; (rename News _ _ _ _ => N'); (rename Fr _ _ _ _ => F'); refine min_three_pos rfl (by assumption) (by assumption) (by assumption) F' N' ?_; clear N'; walk_at "my three"))
/-- a made tuple of three floats ahead of the ledger, their tokens no private ones; the first's is new -/
noncomputable def Tup3P (news : List (Addr × Obj)) (v : Value) (news' : List (Addr × Obj)) (a b c : UInt64) (k : Nat → Prop) : Prop :=
  ∃ (d : Addr) (t t' t'' : Tok), v = .ref d ∧ news' = (d, tup [.float a t, .float b t', .float c t'']) :: news ∧ (∀ p ∈ news, p.1 < d) ∧ 0 < t ∧ 0 < t' ∧ 0 < t'' ∧ k t
set_option maxRecDepth 100000 in
set_option maxHeartbeats 8000000 in
theorem rgbhsv_callT {w : World} {news : List (Addr × Obj)} (x y z : UInt64) (t1 t2 t3 : Tok) (p1 : 0 < t1) (p2 : 0 < t2) (p3 : 0 < t3)
   (h1 : (Float64.cmp (mn3 x y z) (mx3 x y z) == some Ordering.eq) = false) (h2 : Float64.isZero (mx3 x y z) = false) (h3 : Float64.isZero (Float64.sub (mx3 x y z) (mn3 x y z)) = false) :
   DoesT w 70 1 8 [.float x t1, .float y t2, .float z t3] news fun tk0 v news' tk1 =>
     ∃ hue, Tup3P news v news' hue (Float64.div (Float64.sub (mx3 x y z) (mn3 x y z)) (mx3 x y z)) (mx3 x y z) (fun t => tk0 ≤ t ∧ t < tk1) ∧ HueIs x y z hue := by
  unfold DoesT
  k_fill
  intro p loose mean mg mb dp un gd cn cs a ccd cl outer A₀ base h₀ L m s Q E B F X N T hk hd hu htk hret
  refine wpAny_call ?_
  k_dflt cell_enter
  refine wp_gentoks0 (n := s.toks) (Nat.le_add_right _ _) ?_
  intro tk0 htk0
  k_steps
  · rename (_ = true) => hc
    exact absurd (h1.symm.trans hc) (by decide)
  · rename (Float64.isZero _ = true) => hc
    exact absurd (h2.symm.trans hc) (by decide)
  · rename (Float64.isZero _ = true) => hc
    exact absurd (h3.symm.trans hc) (by decide)
  · exact hret _ _ _ _ (by assumption) (by assumption) (by walk_at "my pos") ⟨_, ⟨_, _, _, _, rfl, rfl, by assumption, by walk_at "my pos", by walk_at "my pos", by walk_at "my pos", by walk_at "my pos", by walk_at "my pos"⟩, .inl ⟨by assumption, rfl⟩⟩
  · exact hret _ _ _ _ (by assumption) (by assumption) (by walk_at "my pos") ⟨_, ⟨_, _, _, _, rfl, rfl, by assumption, by walk_at "my pos", by walk_at "my pos", by walk_at "my pos", by walk_at "my pos", by walk_at "my pos"⟩, .inr (.inl ⟨by assumption, by assumption, rfl⟩)⟩
  · exact hret _ _ _ _ (by assumption) (by assumption) (by walk_at "my pos") ⟨_, ⟨_, _, _, _, rfl, rfl, by assumption, by walk_at "my pos", by walk_at "my pos", by walk_at "my pos", by walk_at "my pos", by walk_at "my pos"⟩, .inr (.inr ⟨by assumption, by assumption, rfl⟩)⟩

set_option maxRecDepth 100000 in
set_option maxHeartbeats 8000000 in
theorem rgbhls_callT {w : World} {news : List (Addr × Obj)} (x y z : UInt64) (t1 t2 t3 : Tok) (p1 : 0 < t1) (p2 : 0 < t2) (p3 : 0 < t3)
   (h1 : (Float64.cmp (mn3 x y z) (mx3 x y z) == some Ordering.eq) = false) (h2 : Float64.isZero (Float64.add (mx3 x y z) (mn3 x y z)) = false) (h3 : Float64.isZero (Float64.sub (mx3 x y z) (mn3 x y z)) = false)
   (h4 : Float64.isZero (Float64.sub (Float64.sub 4611686018427387904 (mx3 x y z)) (mn3 x y z)) = false) :
   DoesT w 63 1 8 [.float x t1, .float y t2, .float z t3] news fun tk0 v news' tk1 =>
     ∃ hue sat, Tup3P news v news' hue (Float64.div (Float64.add (mx3 x y z) (mn3 x y z)) 4611686018427387904) sat (fun _ => True) ∧ HueIs x y z hue := by
  unfold DoesT
  k_fill
  intro p loose mean mg mb dp un gd cn cs a ccd cl outer A₀ base h₀ L m s Q E B F X N T hk hd hu htk hret
  refine wpAny_call ?_
  k_dflt cell_enter
  refine wp_gentoks0 (n := s.toks) (Nat.le_add_right _ _) ?_
  intro tk0 htk0
  k_steps
  all_goals (try (first
    | (rename (Float64.isZero _ = true) => hc; first | exact absurd (h2.symm.trans hc) (by decide) | exact absurd (h3.symm.trans hc) (by decide) | exact absurd (h4.symm.trans hc) (by decide))
    | (exact hret _ _ _ _ (by assumption) (by assumption) (by walk_at "my pos") ⟨_, _, ⟨_, _, _, _, rfl, rfl, by assumption, by walk_at "my pos", by walk_at "my pos", by walk_at "my pos", trivial⟩, .inl ⟨by assumption, rfl⟩⟩)
    | (exact hret _ _ _ _ (by assumption) (by assumption) (by walk_at "my pos") ⟨_, _, ⟨_, _, _, _, rfl, rfl, by assumption, by walk_at "my pos", by walk_at "my pos", by walk_at "my pos", trivial⟩, .inr (.inl ⟨by assumption, by assumption, rfl⟩)⟩)
    | (exact hret _ _ _ _ (by assumption) (by assumption) (by walk_at "my pos") ⟨_, _, ⟨_, _, _, _, rfl, rfl, by assumption, by walk_at "my pos", by walk_at "my pos", by walk_at "my pos", trivial⟩, .inr (.inr ⟨by assumption, by assumption, rfl⟩)⟩)
    | (rename (_ = true) => hc; exact absurd (h1.symm.trans hc) (by decide))))

set_option maxRecDepth 100000 in
set_option maxHeartbeats 8000000 in
theorem hsv_callT {w : World} {news : List (Addr × Obj)} (x y z : UInt64) (t1 t2 t3 : Tok) (p1 : 0 < t1) (p2 : 0 < t2) (p3 : 0 < t3)
   (h1 : (Float64.cmp y 0 == some Ordering.eq) = false) (h2 : Float64.isNaN (Float64.mul x 4618441417868443648) = false) (h3 : Float64.isInf (Float64.mul x 4618441417868443648) = false)
   (h4 : (hsvI x).natAbs < 2 ^ 40) :
   DoesT w 77 1 8 [.float x t1, .float y t2, .float z t3] news fun tk0 v news' tk1 =>
     ∃ r g b, Tup3P news v news' r g b (fun _ => True) ∧ RgbIs x y z r g b := by
  unfold DoesT
  k_fill
  intro p loose mean mg mb dp un gd cn cs a ccd cl outer A₀ base h₀ L m s Q E B F X N T hk hd hu htk hret
  refine wpAny_call ?_
  k_dflt cell_enter
  refine wp_gentoks0 (n := s.toks) (Nat.le_add_right _ _) ?_
  intro tk0 htk0
  k_steps
  all_goals (first
    | (exact hret _ _ _ _ (by assumption) (by assumption) (by walk_at "my pos") ⟨_, _, _, ⟨_, _, _, _, rfl, rfl, by assumption, by walk_at "my pos", by walk_at "my pos", by walk_at "my pos", trivial⟩, .inl ⟨by assumption, rfl, rfl, rfl⟩⟩)
    | (exact hret _ _ _ _ (by assumption) (by assumption) (by walk_at "my pos") ⟨_, _, _, ⟨_, _, _, _, rfl, rfl, by assumption, by walk_at "my pos", by walk_at "my pos", by walk_at "my pos", trivial⟩, .inr (.inl ⟨by assumption, rfl, rfl, rfl⟩)⟩)
    | (exact hret _ _ _ _ (by assumption) (by assumption) (by walk_at "my pos") ⟨_, _, _, ⟨_, _, _, _, rfl, rfl, by assumption, by walk_at "my pos", by walk_at "my pos", by walk_at "my pos", trivial⟩, .inr (.inr (.inl ⟨by assumption, rfl, rfl, rfl⟩))⟩)
    | (exact hret _ _ _ _ (by assumption) (by assumption) (by walk_at "my pos") ⟨_, _, _, ⟨_, _, _, _, rfl, rfl, by assumption, by walk_at "my pos", by walk_at "my pos", by walk_at "my pos", trivial⟩, .inr (.inr (.inr (.inl ⟨by assumption, rfl, rfl, rfl⟩)))⟩)
    | (exact hret _ _ _ _ (by assumption) (by assumption) (by walk_at "my pos") ⟨_, _, _, ⟨_, _, _, _, rfl, rfl, by assumption, by walk_at "my pos", by walk_at "my pos", by walk_at "my pos", trivial⟩, .inr (.inr (.inr (.inr (.inl ⟨by assumption, rfl, rfl, rfl⟩))))⟩)
    | (exact hret _ _ _ _ (by assumption) (by assumption) (by walk_at "my pos") ⟨_, _, _, ⟨_, _, _, _, rfl, rfl, by assumption, by walk_at "my pos", by walk_at "my pos", by walk_at "my pos", trivial⟩, .inr (.inr (.inr (.inr (.inr ⟨by assumption, rfl, rfl, rfl⟩))))⟩)
    | (exact (six_no (i := hsvI x) (by assumption) (by assumption) (by assumption) (by assumption) (by assumption) (by assumption)).elim)
    | (rename (_ ≤ Int.natAbs _) => hc; exact (big_no h4 hc).elim)
    | (rename (Float64.isNaN _ = true) => hc; exact absurd (h2.symm.trans hc) (by decide))
    | (rename (Float64.isInf _ = true) => hc; exact absurd (h3.symm.trans hc) (by decide))
    | (rename ((Float64.cmp _ _ == some Ordering.eq) = true) => hc; exact absurd (h1.symm.trans hc) (by decide))
    | skip)
end
local macro_rules | `(tactic| walk_at "execs cons") => `(tactic| (k_here; k_fold))
local macro_rules | `(tactic| walk_at "eval BinOp") => `(tactic| (k_here; k_fold))
local macro_rules | `(tactic| walk_at "eval Call") => `(tactic| (k_here; k_fold))
local macro_rules | `(tactic| walk_at "eval Compare") => `(tactic| (k_here; k_fold))
local macro_rules | `(tactic| walk_at "eval Tuple") => `(tactic| (k_here; k_fold))
local macro_rules | `(tactic| walk_at "eval Subscript") => `(tactic| (k_here; k_fold))
local macro_rules | `(tactic| walk_at "exec If") => `(tactic| (k_here; k_fold))
local macro_rules | `(tactic| walk_at "eval List") => `(tactic| (k_here; k_fold))
local macro_rules | `(tactic| walk_at "eval IfExp") => `(tactic| (k_here; k_fold))
local macro_rules | `(tactic| walk_at "exec Assign") => `(tactic| (k_here; k_fold))
local macro_rules | `(tactic| walk_at "exec Return some") => `(tactic| (k_here; k_fold))
local macro_rules | `(tactic| walk_at "exec Expr") => `(tactic| (k_here; k_fold))
section -- N1
open PySem PySem.W PyProof.Rows PySem.Calls
theorem all_ne_of_lt {d a : Nat} {news : List (Addr × Obj)} (h : AllLt d news) (hd : d ≤ a) : ∀ p ∈ news, p.1 ≠ a := by
  induction news with
  | nil => exact fun _ h => nomatch h
  | cons q r ih =>
    intro p hp
    rcases List.mem_cons.mp hp with rfl | hp
    · exact Nat.ne_of_lt (Nat.lt_of_lt_of_le h.1 hd)
    · exact ih h.2 p hp

noncomputable def bodyOf : Stmt → List Stmt
  | .FunctionDef _ _ b _ _ _ _ _ _ _ => b
  | _ => []
noncomputable def paramsOf : Stmt → Arguments
  | .FunctionDef _ a _ _ _ _ _ _ _ _ => a
  | _ => default
noncomputable def scopeOf : Stmt → Scope
  | .FunctionDef _ _ _ _ _ _ s _ _ _ => s
  | _ => default
noncomputable def stmtAt (l : List Stmt) (i : Nat) : Stmt := l.getD i (.Pass default)
noncomputable def topAt (i : Nat) : Stmt := stmtAt PySem.Challenge.pw_pe0224_01.main.body i

set_option maxRecDepth 100000 in
noncomputable abbrev ib1 : { b : List Stmt // bodyOf (stmtAt (bodyOf (topAt 4)) 1) = b } := by
  refine ⟨?b, ?h⟩
  case h => conv => lhs; whnf
set_option maxRecDepth 100000 in
noncomputable abbrev ip1 : { b : Arguments // paramsOf (stmtAt (bodyOf (topAt 4)) 1) = b } := by
  refine ⟨?b, ?h⟩
  case h => conv => lhs; whnf
set_option maxRecDepth 100000 in
noncomputable abbrev is1 : { b : Scope // scopeOf (stmtAt (bodyOf (topAt 4)) 1) = b } := by
  refine ⟨?b, ?h⟩
  case h => conv => lhs; whnf
set_option maxRecDepth 100000 in
noncomputable abbrev ib2 : { b : List Stmt // bodyOf (stmtAt (bodyOf (topAt 5)) 0) = b } := by
  refine ⟨?b, ?h⟩
  case h => conv => lhs; whnf
set_option maxRecDepth 100000 in
noncomputable abbrev ip2 : { b : Arguments // paramsOf (stmtAt (bodyOf (topAt 5)) 0) = b } := by
  refine ⟨?b, ?h⟩
  case h => conv => lhs; whnf
set_option maxRecDepth 100000 in
noncomputable abbrev is2 : { b : Scope // scopeOf (stmtAt (bodyOf (topAt 5)) 0) = b } := by
  refine ⟨?b, ?h⟩
  case h => conv => lhs; whnf
end
section -- N2
open PySem PySem.W PyProof.Rows PySem.Calls
theorem idle_N2 : True := by
  w_top off
  trivial
noncomputable def Halt (P : Prop) : Prop := P
theorem Halt.out {P : Prop} (h : Halt P) : P := h

noncomputable def midOf (lo hi : Int) : Int := (lo + hi).fdiv (2 ^ Int.toNat 1)
noncomputable def shOf (n lo hi : Int) : Int := ((lo + hi).fdiv (2 ^ Int.toNat 1) - lo) * n
noncomputable def fillI : Nat → Int → Int → Int → Int → List Int → List Int
  | 0, _, _, _, _, ns => ns
  | k + 1, n, x, lo, hi, ns => if lo + 1 = hi then ns.set lo.toNat x else
      fillI k n (x.fdiv (2 ^ (shOf n lo hi).toNat)) (midOf lo hi) hi (fillI k n (Builtin.bitXor x (x.fdiv (2 ^ (shOf n lo hi).toNat) * 2 ^ (shOf n lo hi).toNat)) lo (midOf lo hi) ns)
theorem fillI_length : ∀ (k : Nat) (n x lo hi : Int) (ns : List Int), (fillI k n x lo hi ns).length = ns.length
  | 0, _, _, _, _, _ => rfl
  | k + 1, n, x, lo, hi, ns => by
    unfold fillI
    split
    · exact List.length_set ..
    · rw [fillI_length k, fillI_length k]

theorem mid_facts {lo hi : Int} (h0 : 0 ≤ lo) (h : lo < hi) (h1 : lo + 1 ≠ hi) : lo < midOf lo hi ∧ midOf lo hi < hi := by
  unfold midOf
  have e : (2 : Int) ^ Int.toNat 1 = 2 := by decide
  rw [e, Int.fdiv_eq_ediv_of_nonneg _ (by decide)]
  lia
theorem sh_facts {n lo hi : Int} (n0 : 0 < n) (n6 : n ≤ 6) (h0 : 0 ≤ lo) (h : lo < hi) (h6 : hi ≤ 6) : 0 ≤ shOf n lo hi ∧ shOf n lo hi ≤ 36 := by
  have e : (2 : Int) ^ Int.toNat 1 = 2 := by decide
  unfold shOf
  rw [e, Int.fdiv_eq_ediv_of_nonneg _ (by decide)]
  have h1 : 0 ≤ (lo + hi) / 2 - lo := by lia
  have h2 : (lo + hi) / 2 - lo ≤ 6 := by lia
  generalize (lo + hi) / 2 - lo = d at *
  refine ⟨Int.mul_nonneg h1 (by lia), ?_⟩
  calc d * n ≤ 6 * n := Int.mul_le_mul_of_nonneg_right h2 (by lia)
    _ ≤ 36 := by lia
theorem xor_tab : ∀ x < 64, ∀ k < 37, Builtin.bitXor ((x : Nat) : Int) (((x : Nat) : Int).fdiv (2 ^ k) * 2 ^ k) = ((x % 2 ^ k : Nat) : Int) := by decide +kernel
theorem xor_low {x sh : Int} (x0 : 0 ≤ x) (x1 : x < 64) (s0 : 0 ≤ sh) (s1 : sh ≤ 36) : 0 ≤ Builtin.bitXor x (x.fdiv (2 ^ sh.toNat) * 2 ^ sh.toNat) ∧ Builtin.bitXor x (x.fdiv (2 ^ sh.toNat) * 2 ^ sh.toNat) < 64 := by
  have h := xor_tab x.toNat (by lia) sh.toNat (by lia)
  rw [show ((x.toNat : Nat) : Int) = x by lia] at h
  rw [h]
  have := Nat.mod_le x.toNat (2 ^ sh.toNat)
  lia
theorem up_facts {x : Int} {k : Nat} (x0 : 0 ≤ x) (x1 : x < 64) : 0 ≤ x.fdiv (2 ^ k) ∧ x.fdiv (2 ^ k) < 64 := by
  have hp : (0 : Int) < 2 ^ k := Int.pow_pos (by decide)
  rw [Int.fdiv_eq_ediv_of_nonneg _ (by lia)]
  have := Int.ediv_le_self (2 ^ k) x0
  have := Int.ediv_nonneg x0 (show (0 : Int) ≤ 2 ^ k by lia)
  lia

noncomputable abbrev fn1 (name qual : Str) (cN cI cA : Addr) (doc pm : Value) (c' : Addr) (ctv : Value) : Obj :=
  fnMade name qual ip1.1 ib1.1 is1.1 [(Str.ofString "n", cN), (Str.ofString "inner", cI), (Str.ofString "a_digits", cA)] doc pm c' ctv

noncomputable def Inner1 (w : World) (k : Nat) : Prop := ∀ (name qual : Str) (doc pm ctv : Value) (c' f l cA cI cN : Addr) (oc oA oI oN : Obj) (fvs : Array Value) (tq tn : Tok) (n : Int) (ep : Nat) (vs : List Value) (ns : List Int) (x lo hi : Int) (t1 t2 t3 : Tok) (news : List (Addr × Obj))
   (p : Program) (loose : List Str) (mean : ExcName → Option Value) (mg mb : Str → Option Value)
   (dp un : Nat) (gd : Option (List Code)) (cn : Str) (cs : Scope) (a : Addr) (ccd : Value) (cl : List (Str × Addr)) (outer : List Env) (A₀ : Around) (base h₀ : Heap) (L : Addr) (m : Str → Option Value) (s : Shared) (Q E : Value → Shared → Prop),
   Below A₀ base outer h₀ → Fr h₀ L s.heap m → (hd.heap_39 w.params).In h₀ →
   News h₀ L s.heap ((l, listOf vs.toArray ep) :: (f, fn1 name qual cN cI cA doc pm c' ctv) :: (c', oc) :: (cI, oI) :: (cA, oA) :: (cN, oN) :: news) →
   Top p loose mean mg mb h₀ → CodeHd base 34 30 → cs.kind = .function →
   dp + k < recursionLimit → un + 8 * k < cLine →
   @Ne Nat f l → @Ne Nat c' l → @Ne Nat cI l → @Ne Nat cA l → @Ne Nat cN l → (∀ q ∈ news, q.1 ≠ l) → IntsAre vs ns →
   oc.data = .fields fvs → fvs[1]? = some (.str qual tq) → oA.data = .cell (some (.ref l)) → oI.data = .cell (some (.ref f)) → oN.data = .cell (some (.int n tn)) →
   0 < n → n ≤ 6 → 0 ≤ lo → lo < hi → hi ≤ ns.length → ns.length ≤ 6 → 0 ≤ x → x < 64 → hi - lo ≤ k →
   (∀ (vs' : List Value) (h' : Heap) (tk' : Nat), Fr h₀ L h' m → IntsAre vs' (fillI k n x lo hi ns) → News h₀ L h' ((l, listOf vs'.toArray ep) :: (f, fn1 name qual cN cI cA doc pm c' ctv) :: (c', oc) :: (cI, oI) :: (cA, oA) :: (cN, oN) :: news) → Q .none { s with heap := h', toks := tk' }) →
   wpAny (model PySem.Challenge.rw_pe0224_01.row.prog w) (ktrTop dp un gd cn cs L a ccd cl outer) (call (.ref f) [.int x t1, .int lo t2, .int hi t3]) Q E s

end
local macro_rules | `(tactic| walk_at "s 1") => `(tactic| with_reducible assumption)
local macro_rules | `(tactic| walk_at "s 2") => `(tactic| exact all_ne_of_lt (by assumption) (by omega))
local macro_rules | `(tactic| walk_at "s 3") => `(tactic| (k_here; refine Halt.out ?_))
local macro_rules | `(tactic| walk_at "s 4") => `(tactic| (k_here; (with_reducible refine lshift_int_small ?kb1 ?kb2 ?kb3 ?_); (case kb1 => assumption); (case kb2 => assumption); (case kb3 => assumption)))
section
open PySem PySem.W PyProof.Rows PySem.Calls
local macro_rules | `(tactic| k_all) => `(tactic| walk_at "s 1")
local macro_rules | `(tactic| k_all) => `(tactic| walk_at "s 2")
local macro_rules | `(tactic| walk_at "call ref") => `(tactic| walk_at "s 3")
local macro_rules | `(tactic| walk_at "binaryOp RShift int int") => `(tactic| (k_here; (with_reducible refine rshift_int ?kb1 ?_); (case kb1 => first | decide | assumption)))
local macro_rules | `(tactic| walk_at "binaryOp LShift int int") => `(tactic| walk_at "s 4")
set_option maxRecDepth 100000 in
set_option maxHeartbeats 8000000 in
theorem inner1 (w : World) (k : Nat) : Inner1 w k := by
  induction k with
  | zero => unfold Inner1; intros; exfalso; lia
  | succ k ih =>
  unfold Inner1
  k_fill
  intro name qual doc pm ctv c' f l cA cI cN oc oA oI oN fvs tq tn n ep vs ns x lo hi t1 t2 t3 news p loose mean mg mb dp un gd cn cs a ccd cl outer A₀ base h₀ L m s Q E B F X N T C1 hk hd hu l1 l2 l3 l4 l5 l6 hI hoc hfv hA hIn hN n0 n6 lo0 lohi hil nl x0 x1 hik hret
  have hsh := sh_facts n0 n6 lo0 lohi (by lia)
  have hs0 : 0 ≤ ((lo + hi).fdiv (2 ^ Int.toNat 1) - lo) * n := hsh.1
  have hs1 : ((lo + hi).fdiv (2 ^ Int.toNat 1) - lo) * n ≤ 1000000 := Int.le_trans hsh.2 (by decide)
  have hup := up_facts (k := (shOf n lo hi).toNat) x0 x1
  have hs2 : (x.fdiv (2 ^ (((lo + hi).fdiv (2 ^ Int.toNat 1) - lo) * n).toNat)).natAbs < 2 ^ 64 := by
    have := hup; unfold shOf at this; omega
  have hlw := xor_low x0 x1 hsh.1 hsh.2
  refine wpAny_call ?_
  k_dflt ((refine' code_nest ?k1 ?k2 ?k3 ?k4 ?k5 ?kA ?kF ?kK ?k6 ?k7 ?k8 ?k9 ?kB ?_ ?c2 ?c3 ?c4 ?c5; (case kA => exact rfl); (case kF => exact rfl); (case kK => first | exact rfl | assumption); (case k1 => k_asm); (case k2 => k_asm); (case k3 => k_asm); (case k4 => k_asm); (case k5 => k_asm); (case k6 => k_mem); (case k7 => exact codeRec_news (by k_asm) (by k_mem) (by assumption) (by assumption)); (case k8 => ktr_room); (case k9 => exact BindsTo.of_eq rfl); (case c5 => decide); (case kB => exact locs rfl); (case c2 => exact rfl); (case c3 => exact rfl); (case c4 => exact rfl); k_whole; intro g' L' h' FG' F' N' B' X' T'; (try dsimp only); (try k_lift B'); (try k_fold)))
  k_steps
  · rename (lo + 1 = hi) => hc
    have e : fillI (k + 1) n x lo hi ns = ns.set lo.toNat x := by unfold fillI; rw [if_pos hc]
    exact hret _ _ _ (by assumption) (by rw [e]; assumption) (by assumption)
  · rename (¬ (lo + 1 = hi)) => hc
    have hm := mid_facts lo0 lohi hc
    have e : fillI (k + 1) n x lo hi ns = fillI k n (x.fdiv (2 ^ (shOf n lo hi).toNat)) (midOf lo hi) hi (fillI k n (Builtin.bitXor x (x.fdiv (2 ^ (shOf n lo hi).toNat) * 2 ^ (shOf n lo hi).toNat)) lo (midOf lo hi) ns) := by
      conv => lhs; unfold fillI
      rw [if_neg hc]
    unfold Halt
    refine ih name qual doc pm ctv c' f l cA cI cN oc oA oI oN fvs tq tn n ep vs ns _ lo _ _ _ _ news p loose mean mg mb _ _ _ _ _ _ _ _ _ _ _ _ _ _ _ _ _ (by k_asm) (by k_asm) (by k_asm) (by k_asm) (by k_asm) C1 rfl ?_ ?_ l1 l2 l3 l4 l5 l6 hI hoc hfv hA hIn hN n0 n6 lo0 hm.1 (show midOf lo hi ≤ _ by lia) nl hlw.1 hlw.2 (show midOf lo hi - lo ≤ _ by lia) ?_
    · show dp + 1 + k < recursionLimit; exact lt_k1 hd
    · show un + 3 + 8 * k < cLine; exact lt_k8 hu
    intro vs1 h1 tk1 F1 hI1 N1
    k_steps
    unfold Halt
    refine ih name qual doc pm ctv c' f l cA cI cN oc oA oI oN fvs tq tn n ep vs1 _ _ _ hi _ _ _ news p loose mean mg mb _ _ _ _ _ _ _ _ _ _ _ _ _ _ _ _ _ (by k_asm) (by k_asm) (by k_asm) (by k_asm) (by k_asm) C1 rfl ?_ ?_ l1 l2 l3 l4 l5 l6 hI1 hoc hfv hA hIn hN n0 n6 (show 0 ≤ midOf lo hi by lia) hm.2 (by rw [fillI_length]; exact hil) (by rw [fillI_length]; exact nl) hup.1 hup.2 (show hi - midOf lo hi ≤ _ by lia) ?_
    · show dp + 1 + k < recursionLimit; exact lt_k1 hd
    · show un + 3 + 8 * k < cLine; exact lt_k8 hu
    intro vs2 h2 tk2 F2 hI2 N2
    k_steps
    exact hret _ _ _ (by assumption) (by rw [e]; exact hI2) (by assumption)
end
section -- N3
open PySem PySem.W PyProof.Rows PySem.Calls
theorem idle_N3 : True := by
  w_top off
  trivial

noncomputable def combI : Nat → Int → Int → Int → List Int → Int
  | 0, _, _, _, _ => 0
  | k + 1, n, lo, hi, ns => if lo + 1 = hi then ns.getD lo.toNat 0 else
      combI k n (midOf lo hi) hi ns * 2 ^ (shOf n lo hi).toNat + combI k n lo (midOf lo hi) ns
theorem combI_bound {n : Int} {ns : List Int} (n0 : 0 < n) (n6 : n ≤ 6) (hd : ∀ x ∈ ns, 0 ≤ x ∧ x < 64) (nl : ns.length ≤ 6) : ∀ (k : Nat) (lo hi : Int), 0 ≤ lo → lo < hi → hi ≤ ns.length →
    0 ≤ combI k n lo hi ns ∧ combI k n lo hi ns < 2 ^ (6 + 37 * k)
  | 0, _, _, _, _, _ => ⟨Int.le_refl _, by show (0 : Int) < 2 ^ 6; decide⟩
  | k + 1, lo, hi, h0, h1, h2 => by
    unfold combI
    split
    · have hlt : lo.toNat < ns.length := by omega
      have e : ns.getD lo.toNat 0 = ns[lo.toNat] := by simp [List.getD_eq_getElem?_getD, hlt]
      have := hd _ (List.getElem_mem hlt)
      rw [e]
      refine ⟨this.1, Int.lt_of_lt_of_le this.2 ?_⟩
      have : (2 : Nat) ^ 6 ≤ 2 ^ (6 + 37 * (k + 1)) := Nat.pow_le_pow_right (by decide) (by lia)
      exact_mod_cast this
    · rename_i hc
      have hm := mid_facts h0 h1 hc
      have hs := sh_facts n0 n6 h0 h1 (by lia)
      have i1 := combI_bound n0 n6 hd nl k (midOf lo hi) hi (by lia) hm.2 h2
      have i2 := combI_bound n0 n6 hd nl k lo (midOf lo hi) h0 hm.1 (by lia)
      have hp : (0 : Int) < 2 ^ (shOf n lo hi).toNat := Int.pow_pos (by decide)
      have hp2 : (2 : Int) ^ (shOf n lo hi).toNat ≤ 2 ^ 36 := by
        have : (2 : Nat) ^ (shOf n lo hi).toNat ≤ 2 ^ 36 := Nat.pow_le_pow_right (by decide) (by lia)
        exact_mod_cast this
      generalize combI k n (midOf lo hi) hi ns = u at *
      generalize combI k n lo (midOf lo hi) ns = v at *
      generalize (2 : Int) ^ (shOf n lo hi).toNat = q at *
      have e : (2 : Int) ^ (6 + 37 * (k + 1)) = 2 ^ (6 + 37 * k) * 2 ^ 37 := by rw [← Int.pow_add]; congr 1
      rw [e]
      generalize (2 : Int) ^ (6 + 37 * k) = z at *
      have h3 : u * q ≤ z * 2 ^ 36 := by
        calc u * q ≤ u * 2 ^ 36 := Int.mul_le_mul_of_nonneg_left hp2 i1.1
          _ ≤ z * 2 ^ 36 := Int.mul_le_mul_of_nonneg_right (by omega) (by decide)
      have h4 := Int.mul_nonneg i1.1 (Int.le_of_lt hp)
      omega

theorem comb_bits {n : Int} {ns : List Int} {k : Nat} {lo hi s : Int} (n0 : 0 < n) (n6 : n ≤ 6) (hd : ∀ x ∈ ns, 0 ≤ x ∧ x < 64) (nl : ns.length ≤ 6) (h0 : 0 ≤ lo) (h1 : lo < hi) (h2 : hi ≤ ns.length) (hk : k ≤ 100) (hs : s ≤ 1000000) :
    (Builtin.Int.intBits (combI k n lo hi ns) : Int) + s ≤ 2 ^ 27 := by
  have h := combI_bound n0 n6 hd nl k lo hi h0 h1 h2
  have h3 : (combI k n lo hi ns).natAbs < 2 ^ (6 + 37 * k) := by
    have : ((combI k n lo hi ns).natAbs : Int) < ((2 ^ (6 + 37 * k) : Nat) : Int) := by
      rw [Int.natCast_pow]
      have := h.2
      have e : ((combI k n lo hi ns).natAbs : Int) = combI k n lo hi ns := by lia
      rw [e]; exact this
    omega
  have h4 := intBits_le_iff.mpr h3
  lia

noncomputable abbrev fn2 (name qual : Str) (cN cI cA : Addr) (doc pm : Value) (c' : Addr) (ctv : Value) : Obj :=
  fnMade name qual ip2.1 ib2.1 is2.1 [(Str.ofString "n", cN), (Str.ofString "inner", cI), (Str.ofString "digits", cA)] doc pm c' ctv

noncomputable def Inner2 (w : World) (k : Nat) : Prop := ∀ (name qual : Str) (doc pm ctv : Value) (c' f l cA cI cN : Addr) (oc oA oI oN : Obj) (fvs : Array Value) (tq tn : Tok) (n : Int) (ep : Nat) (vs : List Value) (ns : List Int) (lo hi : Int) (t2 t3 : Tok) (news : List (Addr × Obj))
   (p : Program) (loose : List Str) (mean : ExcName → Option Value) (mg mb : Str → Option Value)
   (dp un : Nat) (gd : Option (List Code)) (cn : Str) (cs : Scope) (a : Addr) (ccd : Value) (cl : List (Str × Addr)) (outer : List Env) (A₀ : Around) (base h₀ : Heap) (L : Addr) (m : Str → Option Value) (s : Shared) (Q E : Value → Shared → Prop),
   Below A₀ base outer h₀ → Fr h₀ L s.heap m → (hd.heap_39 w.params).In h₀ →
   News h₀ L s.heap ((l, listOf vs.toArray ep) :: (f, fn2 name qual cN cI cA doc pm c' ctv) :: (c', oc) :: (cI, oI) :: (cA, oA) :: (cN, oN) :: news) →
   Top p loose mean mg mb h₀ → CodeHd base 41 37 → cs.kind = .function →
   dp + k < recursionLimit → un + 8 * k < cLine → IntsAre vs ns →
   oc.data = .fields fvs → fvs[1]? = some (.str qual tq) → oA.data = .cell (some (.ref l)) → oI.data = .cell (some (.ref f)) → oN.data = .cell (some (.int n tn)) →
   0 < n → n ≤ 6 → 0 ≤ lo → lo < hi → hi ≤ ns.length → ns.length ≤ 6 → (∀ x ∈ ns, 0 ≤ x ∧ x < 64) → k ≤ 100 → hi - lo ≤ k →
   (∀ (t : Tok) (h' : Heap) (tk' : Nat), Fr h₀ L h' m → News h₀ L h' ((l, listOf vs.toArray ep) :: (f, fn2 name qual cN cI cA doc pm c' ctv) :: (c', oc) :: (cI, oI) :: (cA, oA) :: (cN, oN) :: news) → Q (.int (combI k n lo hi ns) t) { s with heap := h', toks := tk' }) →
   wpAny (model PySem.Challenge.rw_pe0224_01.row.prog w) (ktrTop dp un gd cn cs L a ccd cl outer) (call (.ref f) [.int lo t2, .int hi t3]) Q E s

local macro_rules | `(tactic| k_all) => `(tactic| walk_at "s 1")
local macro_rules | `(tactic| k_all) => `(tactic| walk_at "s 2")
local macro_rules | `(tactic| walk_at "call ref") => `(tactic| walk_at "s 3")
local macro_rules | `(tactic| walk_at "binaryOp LShift int int") => `(tactic| (k_here; (with_reducible refine lshift_int ?kb1 ?kb2 ?_); (case kb1 => assumption); (case kb2 => assumption)))
set_option maxRecDepth 100000 in
set_option maxHeartbeats 8000000 in
theorem inner2 (w : World) (k : Nat) : Inner2 w k := by
  induction k with
  | zero => unfold Inner2; intros; exfalso; lia
  | succ k ih =>
  unfold Inner2
  k_fill
  intro name qual doc pm ctv c' f l cA cI cN oc oA oI oN fvs tq tn n ep vs ns lo hi t2 t3 news p loose mean mg mb dp un gd cn cs a ccd cl outer A₀ base h₀ L m s Q E B F X N T C1 hk hd hu hI hoc hfv hA hIn hN n0 n6 lo0 lohi hil nl hdg hk9 hik hret
  have hsh := sh_facts n0 n6 lo0 lohi (by lia)
  have hs0 : 0 ≤ ((lo + hi).fdiv (2 ^ Int.toNat 1) - lo) * n := hsh.1
  refine wpAny_call ?_
  k_dflt ((refine' code_nest ?k1 ?k2 ?k3 ?k4 ?k5 ?kA ?kF ?kK ?k6 ?k7 ?k8 ?k9 ?kB ?_ ?c2 ?c3 ?c4 ?c5; (case kA => exact rfl); (case kF => exact rfl); (case kK => first | exact rfl | assumption); (case k1 => k_asm); (case k2 => k_asm); (case k3 => k_asm); (case k4 => k_asm); (case k5 => k_asm); (case k6 => k_mem); (case k7 => exact codeRec_news (by k_asm) (by k_mem) (by assumption) (by assumption)); (case k8 => ktr_room); (case k9 => exact BindsTo.of_eq rfl); (case c5 => decide); (case kB => exact locs rfl); (case c2 => exact rfl); (case c3 => exact rfl); (case c4 => exact rfl); k_whole; intro g' L' h' FG' F' N' B' X' T'; (try dsimp only); (try k_lift B'); (try k_fold)))
  k_steps
  · rename (lo + 1 = hi) => hc
    have e : combI (k + 1) n lo hi ns = ns.getD lo.toNat 0 := by unfold combI; rw [if_pos hc]
    rw [e] at hret
    exact hret _ _ _ (by assumption) (by assumption)
  · rename (¬ (lo + 1 = hi)) => hc
    have hm := mid_facts lo0 lohi hc
    have e : combI (k + 1) n lo hi ns = combI k n (midOf lo hi) hi ns * 2 ^ (shOf n lo hi).toNat + combI k n lo (midOf lo hi) ns := by
      conv => lhs; unfold combI
      rw [if_neg hc]
    have hb : (Builtin.Int.intBits (combI k n (midOf lo hi) hi ns) : Int) + ((lo + hi).fdiv (2 ^ Int.toNat 1) - lo) * n ≤ 2 ^ 27 := comb_bits n0 n6 hdg nl (by lia) hm.2 hil (by lia) (Int.le_trans hsh.2 (by decide))
    rw [e] at hret
    unfold Halt
    refine ih name qual doc pm ctv c' f l cA cI cN oc oA oI oN fvs tq tn n ep vs ns (midOf lo hi) hi _ _ news p loose mean mg mb _ _ _ _ _ _ _ _ _ _ _ _ _ _ _ _ _ (by k_asm) (by k_asm) (by k_asm) (by k_asm) (by k_asm) C1 rfl ?_ ?_ hI hoc hfv hA hIn hN n0 n6 (by lia) hm.2 hil nl hdg (by lia) (by lia) ?_
    · show dp + 1 + k < recursionLimit; exact lt_k1 hd
    · show un + 3 + 8 * k < cLine; exact lt_k8 hu
    intro tt1 h1 tk1 F1 N1
    k_steps
    unfold Halt
    refine ih name qual doc pm ctv c' f l cA cI cN oc oA oI oN fvs tq tn n ep vs ns lo (midOf lo hi) _ _ news p loose mean mg mb _ _ _ _ _ _ _ _ _ _ _ _ _ _ _ _ _ (by k_asm) (by k_asm) (by k_asm) (by k_asm) (by k_asm) C1 rfl ?_ ?_ hI hoc hfv hA hIn hN n0 n6 lo0 hm.1 (by lia) nl hdg (by lia) (by lia) ?_
    · show dp + 1 + k < recursionLimit; exact lt_k1 hd
    · show un + 3 + 8 * k < cLine; exact lt_k8 hu
    intro tt2 h2 tk2 F2 N2
    k_steps
    exact hret _ _ _ (by assumption) (by assumption)
end
section -- N3b
open PySem PySem.W PyProof.Rows PySem.Calls

theorem inner1_use {w : World} {k : Nat} {name qual : Str} {doc pm ctv : Value} {c' f l cA cI cN : Addr} {oc oA oI oN : Obj} {fvs : Array Value} {tq tn : Tok} {n : Int} {ep : Nat} {vs : List Value} {ns : List Int} {x lo hi : Int} {t1 t2 t3 : Tok} {led : List (Addr × Obj)} {g : Obj → List (Addr × Obj)}
   {p : Program} {loose : List Str} {mean : ExcName → Option Value} {mg mb : Str → Option Value}
   {dp un : Nat} {gd : Option (List Code)} {cn : Str} {cs : Scope} {a : Addr} {ccd : Value} {cl : List (Str × Addr)} {outer : List Env} {A₀ : Around} {base h₀ : Heap} {L : Addr} {m : Str → Option Value} {s : Shared} {Q E : Value → Shared → Prop}
   (B : Below A₀ base outer h₀) (F : Fr h₀ L s.heap m) (X : (hd.heap_39 w.params).In h₀) (N : News h₀ L s.heap led)
   (T : Top p loose mean mg mb h₀) (C1 : CodeHd base 34 30) (hk : cs.kind = .function)
   (m1 : (f, fn1 name qual cN cI cA doc pm c' ctv) ∈ led) (m2 : (cA, oA) ∈ led) (hA : oA.data = .cell (some (.ref l))) (U : UpdF l (listOf vs.toArray ep) led g)
   (m3 : (c', oc) ∈ led) (hoc : oc.data = .fields fvs) (hfv : fvs[1]? = some (.str qual tq)) (m4 : (cI, oI) ∈ led) (hIn : oI.data = .cell (some (.ref f))) (m5 : (cN, oN) ∈ led) (hN : oN.data = .cell (some (.int n tn)))
   (hI : IntsAre vs ns) (hd : dp + k < recursionLimit) (hu : un + 8 * k < cLine)
   (n0 : 0 < n) (n6 : n ≤ 6) (lo0 : 0 ≤ lo) (lohi : lo < hi) (hil : hi ≤ ns.length) (nl : ns.length ≤ 6) (x0 : 0 ≤ x) (x1 : x < 64) (hik : hi - lo ≤ k)
   (hret : ∀ (vs' : List Value) (h' : Heap) (tk' : Nat), Fr h₀ L h' m → IntsAre vs' (fillI k n x lo hi ns) → News h₀ L h' (g (listOf vs'.toArray ep)) → Q .none { s with heap := h', toks := tk' }) :
   wpAny (model PySem.Challenge.rw_pe0224_01.row.prog w) (ktrTop dp un gd cn cs L a ccd cl outer) (call (.ref f) [.int x t1, .int lo t2, .int hi t3]) Q E s := by
  obtain ⟨own, rest, rfl, hg, h1, h2⟩ := U.split
  have ne : ∀ (b : Addr) (o : Obj), (b, o) ∈ own ++ (l, listOf vs.toArray ep) :: rest → o ≠ listOf vs.toArray ep → b ≠ l := by
    intro b o hm ho hb
    rcases List.mem_append.mp hm with q | q
    · exact h1 _ q hb
    · rcases List.mem_cons.mp q with q | q
      · cases q; exact ho rfl
      · exact h2 _ q hb
  refine inner1 w k name qual doc pm ctv c' f l cA cI cN oc oA oI oN fvs tq tn n ep vs ns x lo hi t1 t2 t3 (own ++ rest) p loose mean mg mb dp un gd cn cs a ccd cl outer A₀ base h₀ L m s Q E B F X ?_ T C1 hk hd hu ?_ ?_ ?_ ?_ ?_ ?_ hI hoc hfv hA hIn hN n0 n6 lo0 lohi hil nl x0 x1 hik ?_
  · intro q hq
    simp only [List.mem_cons, List.mem_append] at hq
    rcases hq with rfl | rfl | rfl | rfl | rfl | rfl | hq | hq
    · exact N _ (List.mem_append_right _ (.head _))
    · exact N _ m1
    · exact N _ m3
    · exact N _ m4
    · exact N _ m2
    · exact N _ m5
    · exact N _ (List.mem_append_left _ hq)
    · exact N _ (List.mem_append_right _ (.tail _ hq))
  · exact ne _ _ m1 (fun e => by have := congrArg Obj.data e; cases this)
  · exact ne _ _ m3 (fun e => by rw [e] at hoc; cases hoc)
  · exact ne _ _ m4 (fun e => by rw [e] at hIn; cases hIn)
  · exact ne _ _ m2 (fun e => by rw [e] at hA; cases hA)
  · exact ne _ _ m5 (fun e => by rw [e] at hN; cases hN)
  · intro q hq
    rcases List.mem_append.mp hq with q' | q'
    · exact h1 _ q'
    · exact h2 _ q'
  · intro vs' h' tk' F' hI' N'
    refine hret vs' h' tk' F' hI' ?_
    rw [hg]
    intro q hq
    rcases List.mem_append.mp hq with q' | q'
    · exact N' _ (by simp [q'])
    · rcases List.mem_cons.mp q' with rfl | q'
      · exact N' _ (by simp)
      · exact N' _ (by simp [q'])

theorem inner2_use {w : World} {k : Nat} {name qual : Str} {doc pm ctv : Value} {c' f l cA cI cN : Addr} {oc oA oI oN : Obj} {fvs : Array Value} {tq tn : Tok} {n : Int} {ep : Nat} {vs : List Value} {ns : List Int} {lo hi : Int} {t2 t3 : Tok} {led : List (Addr × Obj)}
   {p : Program} {loose : List Str} {mean : ExcName → Option Value} {mg mb : Str → Option Value}
   {dp un : Nat} {gd : Option (List Code)} {cn : Str} {cs : Scope} {a : Addr} {ccd : Value} {cl : List (Str × Addr)} {outer : List Env} {A₀ : Around} {base h₀ : Heap} {L : Addr} {m : Str → Option Value} {s : Shared} {Q E : Value → Shared → Prop}
   (B : Below A₀ base outer h₀) (F : Fr h₀ L s.heap m) (X : (hd.heap_39 w.params).In h₀) (N : News h₀ L s.heap led)
   (T : Top p loose mean mg mb h₀) (C1 : CodeHd base 41 37) (hk : cs.kind = .function)
   (m1 : (f, fn2 name qual cN cI cA doc pm c' ctv) ∈ led) (m2 : (cA, oA) ∈ led) (hA : oA.data = .cell (some (.ref l))) (m0 : (l, listOf vs.toArray ep) ∈ led)
   (m3 : (c', oc) ∈ led) (hoc : oc.data = .fields fvs) (hfv : fvs[1]? = some (.str qual tq)) (m4 : (cI, oI) ∈ led) (hIn : oI.data = .cell (some (.ref f))) (m5 : (cN, oN) ∈ led) (hN : oN.data = .cell (some (.int n tn)))
   (hI : IntsAre vs ns) (hd : dp + k < recursionLimit) (hu : un + 8 * k < cLine)
   (n0 : 0 < n) (n6 : n ≤ 6) (lo0 : 0 ≤ lo) (lohi : lo < hi) (hil : hi ≤ ns.length) (nl : ns.length ≤ 6) (hdg : ∀ x ∈ ns, 0 ≤ x ∧ x < 64) (k9 : k ≤ 100) (hik : hi - lo ≤ k)
   (hret : ∀ (t : Tok) (h' : Heap) (tk' : Nat), Fr h₀ L h' m → News h₀ L h' led → Q (.int (combI k n lo hi ns) t) { s with heap := h', toks := tk' }) :
   wpAny (model PySem.Challenge.rw_pe0224_01.row.prog w) (ktrTop dp un gd cn cs L a ccd cl outer) (call (.ref f) [.int lo t2, .int hi t3]) Q E s := by
  refine inner2 w k name qual doc pm ctv c' f l cA cI cN oc oA oI oN fvs tq tn n ep vs ns lo hi t2 t3 led p loose mean mg mb dp un gd cn cs a ccd cl outer A₀ base h₀ L m s Q E B F X ?_ T C1 hk hd hu hI hoc hfv hA hIn hN n0 n6 lo0 lohi hil nl hdg k9 hik ?_
  · intro q hq
    simp only [List.mem_cons] at hq
    rcases hq with rfl | rfl | rfl | rfl | rfl | rfl | hq
    · exact N _ m0
    · exact N _ m1
    · exact N _ m3
    · exact N _ m4
    · exact N _ m2
    · exact N _ m5
    · exact N _ hq
  · intro t h' tk' F' N'
    exact hret t h' tk' F' fun q hq => N' q (by simp [hq])
end
section -- N4
open PySem PySem.W PyProof.Rows PySem.Calls
theorem idle_N4 : True := by
  w_top off
  trivial

/-- as Does, where the call may lay a code object into a table that was laid aside -/
noncomputable abbrev DoesN (w : World) (f : Addr) (room units : Nat) (vs : List Value) (news : List (Addr × Obj)) (R : Value → List (Addr × Obj) → Prop) : Prop :=
  ∀ (p : Program) (loose : List Str) (mean : ExcName → Option Value) (mg mb : Str → Option Value)
   (dp un : Nat) (gd : Option (List Code)) (cn : Str) (cs : Scope) (a : Addr) (ccd : Value) (cl : List (Str × Addr)) (outer : List Env) (A₀ : Around) (base h₀ : Heap) (L : Addr) (m : Str → Option Value) (s : Shared) (Q E : Value → Shared → Prop),
   Below A₀ base outer h₀ → Fr h₀ L s.heap m → (hd.heap_39 w.params).In h₀ → News h₀ L s.heap news → Top p loose mean mg mb h₀ → CodeHd base 34 30 → CodeHd base 41 37 → cs.kind = .function →
   dp + room < recursionLimit → un + units < cLine →
   (∀ (v : Value) (news' : List (Addr × Obj)) (h' : Heap) (tk' : Nat), Fr h₀ L h' m → News h₀ L h' news' → R v news' → Q v { s with heap := h', toks := tk' }) →
   wpAny (model PySem.Challenge.rw_pe0224_01.row.prog w) (ktrTop dp un gd cn cs L a ccd cl outer) (call (.ref f) vs) Q E s

theorem sub_tail {α : Type} {a b : List α} {x : α} (h : ∀ p ∈ a, p ∈ b) : ∀ p ∈ a, p ∈ x :: b := fun p hp => .tail _ (h p hp)
end
local macro_rules | `(tactic| walk_at "my sub") => `(tactic| first | exact fun _ h => h | (refine List.forall_mem_cons.mpr ⟨by k_mem, ?_⟩; walk_at "my sub") | (refine sub_tail ?_; walk_at "my sub"))
local macro_rules | `(tactic| walk_at "s 6") => `(tactic| exact all_ne_of_lt (by assumption) (by lia))
section
open PySem PySem.W PyProof.Rows PySem.Calls
local macro_rules | `(tactic| k_all) => `(tactic| walk_at "s 1")
local macro_rules | `(tactic| k_all) => `(tactic| walk_at "s 6")
local macro_rules | `(tactic| walk_at "call ref") => `(tactic| walk_at "s 3")
noncomputable def cnt (a n : Int) : Int := (((Builtin.Int.intBits a : Nat) : Int) + n - 1).fdiv n
noncomputable def digs (a n : Int) : List Int := fillI 6 n a 0 ((List.replicate (cnt a n).toNat [(0 : Int)]).flatten.length : Int) (List.replicate (cnt a n).toNat [(0 : Int)]).flatten

theorem rep_len {c : Int} (h1 : 1 ≤ c) : ((List.replicate c.toNat [(0 : Int)]).flatten.length : Int) = c := by
  simp only [List.length_flatten, List.map_replicate, List.length_cons, List.length_nil, Nat.zero_add, List.sum_replicate_nat, Nat.mul_one]
  lia
theorem AllLt.mono {d e : Nat} : ∀ {news : List (Addr × Obj)}, AllLt d news → d ≤ e → AllLt e news
  | [], _, _ => trivial
  | _ :: _, h, le => ⟨Nat.lt_of_lt_of_le h.1 le, AllLt.mono h.2 le⟩
theorem kin_lt {w : World} {h : Heap} (X : (hd.heap_39 w.params).In h) : 98 < h.objs.size := Heap.lt_size (X 98 _ rfl)
theorem fr_lt {w : World} {g h : Heap} {L : Addr} {m : Str → Option Value} (X : (hd.heap_39 w.params).In g) (F : Fr g L h m) : @LT.lt Nat _ 98 L := Nat.lt_of_lt_of_le (kin_lt X) F.above
noncomputable def q1 : Str := Str.ofString "_int2digits.<locals>.inner"
noncomputable def q2 : Str := Str.ofString "_digits2int.<locals>.inner"
noncomputable abbrev tabF (ln co : Nat) (c' : Addr) : Obj := tabObj #[rawInt (ln : Int), rawInt (co : Int), .ref c']
noncomputable def CodeOf (q : Str) (oc : Obj) : Prop := ∃ (fvs : Array Value) (t : Tok), oc.data = .fields fvs ∧ fvs[1]? = some (.str q t)

set_option maxRecDepth 100000 in
set_option maxHeartbeats 8000000 in
theorem i2d_fresh {w : World} {news : List (Addr × Obj)} (a n : Int) (t1 t3 : Tok) (ha : 0 < a) (ha' : a < 64) (n0 : 0 < n) (n6 : n ≤ 6) (c1 : 1 ≤ cnt a n) (c6 : cnt a n ≤ 6) (h30 : ∀ q ∈ news, q.1 ≠ 30) :
   DoesN w 35 8 80 [.int a t1, .int n t3] ((30, tabObj #[]) :: news) fun v news' =>
     ∃ (l c' : Addr) (oc : Obj) (vs : List Value) (ep : Nat), v = .ref l ∧ news' = (l, listOf vs.toArray ep) :: (30, tabF 32 4 c') :: (c', oc) :: news ∧ CodeOf q1 oc ∧ IntsAre vs (digs a n) ∧ @LT.lt Nat _ 98 l ∧ @LT.lt Nat _ 98 c' ∧ AllLt l news ∧ AllLt c' news := by
  have c1' : 1 ≤ (((Builtin.Int.intBits a : Nat) : Int) + n - 1).fdiv n := c1
  have c6' : (((Builtin.Int.intBits a : Nat) : Int) + n - 1).fdiv n ≤ 6 := c6
  unfold DoesN
  k_fill
  intro p loose mean mg mb dp un gd cn cs af ccd cl outer A₀ base h₀ L m s Q E B F X N T C1 C2 hk hd hu hret
  refine wpAny_call ?_
  k_dflt ((refine' code_defC ?k1 ?k2 ?k3 ?k4 ?k5 ?kA ?kF ?kK ?k6 ?k7 ?k8 ?k9 ?kB ?kD ?_ ?c2 ?c3 ?c4; (case kA => exact rfl); (case kF => exact rfl); (case kK => assumption); (case k1 => k_asm); (case k2 => k_asm); (case k3 => k_asm); (case k4 => k_asm); (case k5 => k_asm); (case k6 => k_is); (case k7 => k_is); (case k8 => ktr_room); (case k9 => exact BindsTo.of_eq rfl); (case kB => exact rfl); (case kD => decide +kernel); (case c2 => exact rfl); (case c3 => exact rfl); (case c4 => exact rfl); k_whole; intro g' L' h' tk' cells' FG' F' N' Y' B' X' T' l1; (try k_lt l1); k_cells Y'; (try simp only [List.cons_append, List.nil_append] at N'); (try dsimp only); (try k_lift B'); (try k_fold)))
  rename (_ ∧ AllLt _ _) => lz
  have lz2 := lz.2
  have lz3 := fr_lt (by assumption) (by assumption)
  k_steps
  · unfold Halt
    rename (List.length _ = _) => e1
    subst e1
    have hl := rep_len c1'
    refine' inner1_use (k := 6) ?B ?F ?X ?N ?T C1 ?hk ?m1 ?m2 ?hA ?U ?m3 ?hoc ?hfv ?m4 ?hIn ?m5 ?hN ?hI ?hd ?hu n0 n6 (Int.le_refl 0) ?lohi ?hil ?nl ?x0 ?x1 ?hik ?hret
    (case B => k_asm)
    (case F => k_asm)
    (case X => k_asm)
    (case N => k_asm)
    (case T => k_asm)
    (case hk => exact rfl)
    (case m1 => k_mem)
    (case m2 => k_mem)
    (case hA => assumption)
    (case U => k_updF)
    (case m3 => k_mem)
    (case hoc => assumption)
    (case hfv => assumption)
    (case m4 => k_mem)
    (case hIn => assumption)
    (case m5 => k_mem)
    (case hN => assumption)
    (case hI => assumption)
    (case hd => (show dp + 1 + 6 < recursionLimit; exact lt_room (k := 7) hd (by decide)))
    (case hu => (show un + 3 + 8 * 6 < cLine; exact lt_room (k := 51) hu (by decide)))
    (case lohi => omega)
    (case hil => omega)
    (case nl => omega)
    (case x0 => lia)
    (case x1 => omega)
    (case hik => omega)
    intro vs1 h1 tk1 F1 hI1 N1
    k_steps
    refine hret _ _ _ _ (by assumption) (cb_drop (by assumption) (by walk_at "my sub")) ⟨_, _, _, _, _, rfl, rfl, ⟨_, _, by assumption, by assumption⟩, hI1, by lia, by omega, AllLt.mono lz2 (by omega), AllLt.mono lz2 (by omega)⟩
  · exfalso; lia

set_option maxRecDepth 100000 in
set_option maxHeartbeats 8000000 in
theorem i2d_hit {w : World} {news : List (Addr × Obj)} {c' : Addr} {oc : Obj} (a n : Int) (t1 t3 : Tok) (ha : 0 < a) (ha' : a < 64) (n0 : 0 < n) (n6 : n ≤ 6) (c1 : 1 ≤ cnt a n) (c6 : cnt a n ≤ 6) (hoc : CodeOf q1 oc) :
   DoesN w 35 8 80 [.int a t1, .int n t3] ((30, tabF 32 4 c') :: (c', oc) :: news) fun v news' =>
     ∃ (l : Addr) (vs : List Value) (ep : Nat), v = .ref l ∧ news' = (l, listOf vs.toArray ep) :: (30, tabF 32 4 c') :: (c', oc) :: news ∧ IntsAre vs (digs a n) ∧ @LT.lt Nat _ 98 l ∧ AllLt l news := by
  have c1' : 1 ≤ (((Builtin.Int.intBits a : Nat) : Int) + n - 1).fdiv n := c1
  have c6' : (((Builtin.Int.intBits a : Nat) : Int) + n - 1).fdiv n ≤ 6 := c6
  obtain ⟨fvs, tq, hoc1, hoc2⟩ := hoc
  unfold DoesN
  k_fill
  intro p loose mean mg mb dp un gd cn cs af ccd cl outer A₀ base h₀ L m s Q E B F X N T C1 C2 hk hd hu hret
  refine wpAny_call ?_
  k_dflt ((refine' code_defC ?k1 ?k2 ?k3 ?k4 ?k5 ?kA ?kF ?kK ?k6 ?k7 ?k8 ?k9 ?kB ?kD ?_ ?c2 ?c3 ?c4; (case kA => exact rfl); (case kF => exact rfl); (case kK => assumption); (case k1 => k_asm); (case k2 => k_asm); (case k3 => k_asm); (case k4 => k_asm); (case k5 => k_asm); (case k6 => k_is); (case k7 => k_is); (case k8 => ktr_room); (case k9 => exact BindsTo.of_eq rfl); (case kB => exact rfl); (case kD => decide +kernel); (case c2 => exact rfl); (case c3 => exact rfl); (case c4 => exact rfl); k_whole; intro g' L' h' tk' cells' FG' F' N' Y' B' X' T' l1; (try k_lt l1); k_cells Y'; (try simp only [List.cons_append, List.nil_append] at N'); (try dsimp only); (try k_lift B'); (try k_fold)))
  rename (_ ∧ _ ∧ AllLt _ _) => lz
  have lz2 := lz.2.2
  have lz3 := fr_lt (by assumption) (by assumption)
  k_steps
  · unfold Halt
    rename (List.length _ = _) => e1
    subst e1
    have hl := rep_len c1'
    refine' inner1_use (k := 6) ?B ?F ?X ?N ?T C1 ?hk ?m1 ?m2 ?hA ?U ?m3 ?hoc ?hfv ?m4 ?hIn ?m5 ?hN ?hI ?hd ?hu n0 n6 (Int.le_refl 0) ?lohi ?hil ?nl ?x0 ?x1 ?hik ?hret
    (case B => k_asm)
    (case F => k_asm)
    (case X => k_asm)
    (case N => k_asm)
    (case T => k_asm)
    (case hk => exact rfl)
    (case m1 => k_mem)
    (case m2 => k_mem)
    (case hA => assumption)
    (case U => k_updF)
    (case m3 => k_mem)
    (case hoc => assumption)
    (case hfv => assumption)
    (case m4 => k_mem)
    (case hIn => assumption)
    (case m5 => k_mem)
    (case hN => assumption)
    (case hI => assumption)
    (case hd => (show dp + 1 + 6 < recursionLimit; exact lt_room (k := 7) hd (by decide)))
    (case hu => (show un + 3 + 8 * 6 < cLine; exact lt_room (k := 51) hu (by decide)))
    (case lohi => omega)
    (case hil => omega)
    (case nl => omega)
    (case x0 => lia)
    (case x1 => omega)
    (case hik => omega)
    intro vs1 h1 tk1 F1 hI1 N1
    k_steps
    refine hret _ _ _ _ (by assumption) (cb_drop (by assumption) (by walk_at "my sub")) ⟨_, _, _, rfl, rfl, hI1, by lia, AllLt.mono lz2 (by omega)⟩
  · exfalso; lia
end
local macro_rules | `(tactic| walk_at "idle 0") => `(tactic| fail)
section -- N5
open PySem PySem.W PyProof.Rows PySem.Calls
theorem idle_N5 : True := by
  w_top off
  trivial
local macro_rules | `(tactic| k_all) => `(tactic| walk_at "s 1")
local macro_rules | `(tactic| k_all) => `(tactic| walk_at "s 6")
local macro_rules | `(tactic| walk_at "call ref") => `(tactic| walk_at "s 3")
set_option maxRecDepth 100000 in
set_option maxHeartbeats 8000000 in
theorem d2i_fresh {w : World} {news : List (Addr × Obj)} {l : Addr} {vs : List Value} {ns : List Int} {ep : Nat} (n : Int) (t3 : Tok) (hI : IntsAre vs ns) (hn1 : 1 ≤ ns.length) (nl : ns.length ≤ 6) (hdg : ∀ x ∈ ns, 0 ≤ x ∧ x < 64) (n0 : 0 < n) (n6 : n ≤ 6) (h37 : ∀ q ∈ news, q.1 ≠ 37) (hl37 : @Ne Nat l 37) :
   DoesN w 42 8 80 [.ref l, .int n t3] ((l, listOf vs.toArray ep) :: (37, tabObj #[]) :: news) fun v news' =>
     ∃ (c' : Addr) (oc : Obj) (t : Tok), v = .int (combI 6 n 0 (ns.length : Int) ns) t ∧ news' = (l, listOf vs.toArray ep) :: (37, tabF 47 4 c') :: (c', oc) :: news ∧ CodeOf q2 oc ∧ @LT.lt Nat _ 98 c' ∧ AllLt c' news := by
  have hln : vs.length = ns.length := hI.length
  unfold DoesN
  k_fill
  intro p loose mean mg mb dp un gd cn cs af ccd cl outer A₀ base h₀ L m s Q E B F X N T C1 C2 hk hd hu hret
  refine wpAny_call ?_
  k_dflt ((refine' code_defC ?k1 ?k2 ?k3 ?k4 ?k5 ?kA ?kF ?kK ?k6 ?k7 ?k8 ?k9 ?kB ?kD ?_ ?c2 ?c3 ?c4; (case kA => exact rfl); (case kF => exact rfl); (case kK => assumption); (case k1 => k_asm); (case k2 => k_asm); (case k3 => k_asm); (case k4 => k_asm); (case k5 => k_asm); (case k6 => k_is); (case k7 => k_is); (case k8 => ktr_room); (case k9 => exact BindsTo.of_eq rfl); (case kB => exact rfl); (case kD => decide +kernel); (case c2 => exact rfl); (case c3 => exact rfl); (case c4 => exact rfl); k_whole; intro g' L' h' tk' cells' FG' F' N' Y' B' X' T' l1; (try k_lt l1); k_cells Y'; (try simp only [List.cons_append, List.nil_append] at N'); (try dsimp only); (try k_lift B'); (try k_fold)))
  rename (_ ∧ _ ∧ AllLt _ _) => lz
  have lz2 := lz.2.2
  have lz3 := fr_lt (by assumption) (by assumption)
  k_steps
  · unfold Halt
    refine' inner2_use (k := 6) ?B ?F ?X ?N ?T C2 ?hk ?m1 ?m2 ?hA ?m0 ?m3 ?hoc ?hfv ?m4 ?hIn ?m5 ?hN ?hI ?hd ?hu n0 n6 (Int.le_refl 0) ?lohi ?hil ?nl hdg (by decide) ?hik ?hret
    (case B => k_asm)
    (case F => k_asm)
    (case X => k_asm)
    (case N => k_asm)
    (case T => k_asm)
    (case hk => exact rfl)
    (case m1 => k_mem)
    (case m2 => k_mem)
    (case hA => assumption)
    (case m0 => k_mem)
    (case m3 => k_mem)
    (case hoc => assumption)
    (case hfv => assumption)
    (case m4 => k_mem)
    (case hIn => assumption)
    (case m5 => k_mem)
    (case hN => assumption)
    (case hI => assumption)
    (case hd => (show dp + 1 + 6 < recursionLimit; exact lt_room (k := 7) hd (by decide)))
    (case hu => (show un + 3 + 8 * 6 < cLine; exact lt_room (k := 51) hu (by decide)))
    (case lohi => lia)
    (case hil => lia)
    (case nl => omega)
    (case hik => lia)
    intro tt1 h1 tk1 F1 N1
    k_steps
    refine hret _ _ _ _ (by assumption) (cb_drop (by assumption) (by walk_at "my sub")) ⟨_, _, _, rfl, rfl, ⟨_, _, by assumption, by assumption⟩, by lia, AllLt.mono lz2 (by lia)⟩

set_option maxRecDepth 100000 in
set_option maxHeartbeats 8000000 in
theorem d2i_hit {w : World} {news : List (Addr × Obj)} {c' : Addr} {oc : Obj} {l : Addr} {vs : List Value} {ns : List Int} {ep : Nat} (n : Int) (t3 : Tok) (hI : IntsAre vs ns) (hn1 : 1 ≤ ns.length) (nl : ns.length ≤ 6) (hdg : ∀ x ∈ ns, 0 ≤ x ∧ x < 64) (n0 : 0 < n) (n6 : n ≤ 6) (hoc : CodeOf q2 oc) :
   DoesN w 42 8 80 [.ref l, .int n t3] ((l, listOf vs.toArray ep) :: (37, tabF 47 4 c') :: (c', oc) :: news) fun v news' =>
     ∃ (t : Tok), v = .int (combI 6 n 0 (ns.length : Int) ns) t ∧ news' = (l, listOf vs.toArray ep) :: (37, tabF 47 4 c') :: (c', oc) :: news := by
  have hln : vs.length = ns.length := hI.length
  obtain ⟨fvs, tq, hoc1, hoc2⟩ := hoc
  unfold DoesN
  k_fill
  intro p loose mean mg mb dp un gd cn cs af ccd cl outer A₀ base h₀ L m s Q E B F X N T C1 C2 hk hd hu hret
  refine wpAny_call ?_
  k_dflt ((refine' code_defC ?k1 ?k2 ?k3 ?k4 ?k5 ?kA ?kF ?kK ?k6 ?k7 ?k8 ?k9 ?kB ?kD ?_ ?c2 ?c3 ?c4; (case kA => exact rfl); (case kF => exact rfl); (case kK => assumption); (case k1 => k_asm); (case k2 => k_asm); (case k3 => k_asm); (case k4 => k_asm); (case k5 => k_asm); (case k6 => k_is); (case k7 => k_is); (case k8 => ktr_room); (case k9 => exact BindsTo.of_eq rfl); (case kB => exact rfl); (case kD => decide +kernel); (case c2 => exact rfl); (case c3 => exact rfl); (case c4 => exact rfl); k_whole; intro g' L' h' tk' cells' FG' F' N' Y' B' X' T' l1; (try k_lt l1); k_cells Y'; (try simp only [List.cons_append, List.nil_append] at N'); (try dsimp only); (try k_lift B'); (try k_fold)))
  rename (_ ∧ _ ∧ _ ∧ AllLt _ _) => lz
  have lz2 := lz.2.2.2
  have lz3 := fr_lt (by assumption) (by assumption)
  k_steps
  · unfold Halt
    refine' inner2_use (k := 6) ?B ?F ?X ?N ?T C2 ?hk ?m1 ?m2 ?hA ?m0 ?m3 ?hoc ?hfv ?m4 ?hIn ?m5 ?hN ?hI ?hd ?hu n0 n6 (Int.le_refl 0) ?lohi ?hil ?nl hdg (by decide) ?hik ?hret
    (case B => k_asm)
    (case F => k_asm)
    (case X => k_asm)
    (case N => k_asm)
    (case T => k_asm)
    (case hk => exact rfl)
    (case m1 => k_mem)
    (case m2 => k_mem)
    (case hA => assumption)
    (case m0 => k_mem)
    (case m3 => k_mem)
    (case hoc => assumption)
    (case hfv => assumption)
    (case m4 => k_mem)
    (case hIn => assumption)
    (case m5 => k_mem)
    (case hN => assumption)
    (case hI => assumption)
    (case hd => (show dp + 1 + 6 < recursionLimit; exact lt_room (k := 7) hd (by decide)))
    (case hu => (show un + 3 + 8 * 6 < cLine; exact lt_room (k := 51) hu (by decide)))
    (case lohi => lia)
    (case hil => lia)
    (case nl => omega)
    (case hik => lia)
    intro tt1 h1 tk1 F1 N1
    k_steps
    refine hret _ _ _ _ (by assumption) (cb_drop (by assumption) (by walk_at "my sub")) ⟨_, rfl, rfl⟩
end
section -- L1
open PySem PySem.W PyProof.Rows PySem.Calls

/-- what a turn of a loop has to leave behind -/
noncomputable def LpEnd {σ : Type} (h₀ : Heap) (L : Addr) (s : Shared) (Led : σ → List (Addr × Obj)) (rest : List (Addr × Obj)) (J : σ → (Str → Option Value) → Prop) (Q : Flow → Shared → Prop) (f : Flow) (s₂ : Shared) : Prop :=
  match f with
  | .ret v => Q (.ret v) s₂
  | .brk => Q .next s₂
  | _ => ∃ (st : σ) (h' : Heap) (tk' : Nat) (m' : Str → Option Value), s₂ = { s with heap := h', toks := tk' } ∧ Fr h₀ L h' m' ∧ News h₀ L h' (Led st ++ rest) ∧ J st m'
theorem LpEnd.next {σ : Type} {h₀ : Heap} {L : Addr} {s : Shared} {Led : σ → List (Addr × Obj)} {rest : List (Addr × Obj)} {J : σ → (Str → Option Value) → Prop} {Q : Flow → Shared → Prop} (st : σ) {h' : Heap} {tk' : Nat} {m' : Str → Option Value}
    (F : Fr h₀ L h' m') (N : News h₀ L h' (Led st ++ rest)) (hJ : J st m') : LpEnd h₀ L s Led rest J Q .next { s with heap := h', toks := tk' } := ⟨st, h', tk', m', rfl, F, N, hJ⟩
theorem LpEnd.ret {σ : Type} {h₀ : Heap} {L : Addr} {s s₂ : Shared} {Led : σ → List (Addr × Obj)} {rest : List (Addr × Obj)} {J : σ → (Str → Option Value) → Prop} {Q : Flow → Shared → Prop} {v : Value} (h : Q (.ret v) s₂) : LpEnd h₀ L s Led rest J Q (.ret v) s₂ := h

section
variable {prog : Program} {w : World} {A : Around} {E : Value → Shared → Prop} {s : Shared} {env : Env} {h₀ : Heap} {x : Str} {body : List Stmt} {Q : Flow → Shared → Prop}

theorem loopJ {σ : Type} {I : Addr} {fp wr : List Addr} {n : Nat} {P : Nat → Value → Prop} {St : Nat → Heap → Prop} {m₀ : Str → Option Value} (adr : List Addr) (Led : σ → List (Addr × Obj)) (fixed : List (Addr × Obj)) (J : Nat → σ → (Str → Option Value) → Prop) (st₀ : σ)
    (W : Walks prog w A I fp wr n P St) (hLf : env.locals ∉ fp) (hwr : ∀ b ∈ wr, h₀.get? b = none) (hst : St 0 s.heap)
    (hadr : ∀ st, (Led st).map (·.1) = adr) (hfp : ∀ b ∈ adr, b ∉ fp) (hfx : ∀ p ∈ fixed, p.1 ∉ wr) (hsep : ∀ p ∈ fixed, p.1 ∉ adr)
    (F : Fr h₀ env.locals s.heap m₀) (N : News h₀ env.locals s.heap (Led st₀ ++ fixed)) (hj : J 0 st₀ m₀)
    (turn : ∀ i v st m₁ h tk rest, i < n → P i v → J i st m₁ → Fr h₀ env.locals h (fun y => if y = x then some v else m₁ y) → News h₀ env.locals h (Led st ++ rest) → (∀ p ∈ rest, p.1 ∉ adr) → (∀ p ∈ fixed, p ∈ rest) →
      wpAny (model prog w) A (execs body env) (LpEnd h₀ env.locals { s with heap := h, toks := tk } Led rest (J (i + 1)) Q) E { s with heap := h, toks := tk })
    (done : ∀ st m' h' tk, J n st m' → Fr h₀ env.locals h' m' → News h₀ env.locals h' (Led st ++ fixed) → Q .next { s with heap := h', toks := tk }) :
    LoopAtV prog w A h₀ env x body Q E (.ref I) s := by
  have hmem : ∀ st (p : Addr × Obj), p ∈ Led st → p.1 ∈ adr := fun st p hp => by rw [← hadr st]; exact List.mem_map_of_mem hp
  have hoff : ∀ st (p : Addr × Obj), p ∈ Led st ++ fixed → p.1 ∉ wr := fun st p hp => by
    rcases List.mem_append.mp hp with q | q
    · exact fun hb => hfp _ (hmem st p q) (W.sub _ hb)
    · exact hfx p q
  refine ⟨I, fp, wr, n, P, St, m₀, Led st₀ ++ fixed, fun i m₁ news₁ => ∃ st, news₁ = Led st ++ fixed ∧ J i st m₁, rfl, W, hLf, hwr, hoff st₀, hst, F, N, ⟨st₀, rfl, hj⟩, ?_, ?_⟩
  · rintro i v m₁ news₁ s₁ own ⟨hh', tk', rfl⟩ hin hP ⟨st, rfl, hJ⟩ _ hown _ _ _ F₁ N₁
    refine wpAny_mono (turn i v st m₁ hh' tk' (own ++ fixed) hin hP hJ F₁ (fun p hp => N₁ p ?_) ?_ fun p hp => List.mem_append_right _ hp) (fun f s₂ p => ?_) fun _ _ e => e
    · simp only [List.mem_append] at hp ⊢
      rcases hp with h | h | h
      · exact .inr (.inl h)
      · exact .inl h
      · exact .inr (.inr h)
    · intro p hp
      rcases List.mem_append.mp hp with q | q
      · exact fun hb => hfp _ hb (hown p q)
      · exact hsep p q
    · have fin : (∃ (st : σ) (h' : Heap) (tk : Nat) (m' : Str → Option Value), s₂ = { s with heap := h', toks := tk } ∧ Fr h₀ env.locals h' m' ∧ News h₀ env.locals h' (Led st ++ (own ++ fixed)) ∧ J (i + 1) st m') →
          LoopStepU h₀ env.locals wr own (fun m₁ news₁ => ∃ st, news₁ = Led st ++ fixed ∧ J (i + 1) st m₁) { s with heap := hh', toks := tk' } .next s₂ := by
        rintro ⟨st', h', tk, m', e, F', N', hJ'⟩
        refine ⟨rfl, h', tk, m', Led st' ++ fixed, e, F', fun p hp => N' p ?_, hoff st', st', rfl, hJ'⟩
        simp only [List.mem_append] at hp ⊢
        rcases hp with h | h | h
        · exact .inr (.inl h)
        · exact .inl h
        · exact .inr (.inr h)
      cases f with
      | ret v => exact .ret p
      | brk => exact .brk p
      | next => exact .next (fin p)
      | cont => exact .cont (fin p)
  · rintro h' tk m' news' F' N' _ ⟨st, rfl, hJ⟩
    exact done st m' h' tk hJ F' N'

/-- over reversed(l), l a made list -/
theorem revJ {σ : Type} {ax I : Addr} {vs : List Value} {ep : Nat} {m₀ : Str → Option Value} (adr : List Addr) (Led : σ → List (Addr × Obj)) (fixed : List (Addr × Obj)) (J : Nat → σ → (Str → Option Value) → Prop) (st₀ : σ)
    (hh : A.handled = none) (hadr : ∀ st, (Led st).map (·.1) = adr) (hIa : ∀ b ∈ adr, b ≠ I) (hax : ∀ b ∈ adr, b ≠ ax) (hfx : ∀ p ∈ fixed, p.1 ≠ I) (hsep : ∀ p ∈ fixed, p.1 ∉ adr) (hm : (ax, listOf vs.toArray ep) ∈ fixed)
    (F : Fr h₀ env.locals s.heap m₀) (N : News h₀ env.locals s.heap ((I, revObj ax ((vs.length : Int) - 1)) :: (Led st₀ ++ fixed))) (hj : J 0 st₀ m₀)
    (turn : ∀ i v st m₁ h tk rest, i < vs.length → vs[vs.length - 1 - i]? = some v → J i st m₁ → Fr h₀ env.locals h (fun y => if y = x then some v else m₁ y) → News h₀ env.locals h (Led st ++ rest) → (∀ p ∈ rest, p.1 ∉ adr) → (∀ p ∈ fixed, p ∈ rest) →
      wpAny (model prog w) A (execs body env) (LpEnd h₀ env.locals { s with heap := h, toks := tk } Led rest (J (i + 1)) Q) E { s with heap := h, toks := tk })
    (done : ∀ st m' h' tk, J vs.length st m' → Fr h₀ env.locals h' m' → News h₀ env.locals h' (Led st ++ fixed) → Q .next { s with heap := h', toks := tk }) :
    wpAny (model prog w) A (pyIter (.ref I)) (fun it s₂ => LoopAtV prog w A h₀ env x body Q E it s₂) E s := by
  have hIx := N _ (List.mem_cons_self ..)
  have hx := N _ (List.mem_cons_of_mem _ (List.mem_append_right _ hm))
  have hl : s.heap.IsList ax vs.toArray := ⟨_, hx.1, rfl, ep, rfl⟩
  have hne : ax ≠ I := hfx _ hm
  have hit : s.heap.IsRevIter I ax ((vs.length : Int) - 1) := ⟨_, hIx.1, rfl, rfl⟩
  refine wpAny_pyIter_revIter hit ?_
  have W := Walks.listRev (prog := prog) (w := w) hh I ax hne vs.toArray
  have hlen : vs.toArray.size = vs.length := by simp
  rw [hlen] at W
  refine loopJ adr Led fixed J st₀ W ?_ ?_ ⟨Nat.zero_le _, ?_, hl⟩ hadr ?_ ?_ hsep F (fun p hp => N p (List.mem_cons_of_mem _ hp)) hj ?_ done
  · intro hmm
    rcases List.mem_cons.mp hmm with e | hmm
    · exact hIx.2.1 e.symm
    · exact hx.2.1 (List.mem_singleton.mp hmm).symm
  · intro b hb
    rw [List.mem_singleton.mp hb]
    exact hIx.2.2
  · have e : (vs.length : Int) - 1 - ((0 : Nat) : Int) = (vs.length : Int) - 1 := by lia
    rw [e]; exact hit
  · intro b hb hmm
    rcases List.mem_cons.mp hmm with e | hmm
    · exact hIa b hb e
    · exact hax b hb (List.mem_singleton.mp hmm)
  · intro p hp hmm
    exact hfx p hp (List.mem_singleton.mp hmm)
  · intro i v st m₁ h tk rest hi hP
    exact turn i v st m₁ h tk rest hi (by simpa using hP)

end
end
section -- P1
open PySem PySem.W PyProof.Rows PySem.Calls

noncomputable def bl (b : Int) : Int := ((Builtin.Int.intBits b : Nat) : Int)
noncomputable def dstep (n b : Int) (st : Int × List Int) (d : Int) : Int × List Int := ((st.1 * 2 ^ n.toNat + d).fmod b, st.2 ++ [(st.1 * 2 ^ n.toNat + d).fdiv b])
noncomputable def dfold (n b : Int) (ds : List Int) (i : Nat) : Int × List Int := (ds.reverse.take i).foldl (dstep n b) (0, [])
noncomputable def inb (lo hi x : Int) : Bool := decide (lo ≤ x) && decide (x < hi)
/-- all that the walk of _divmod_pos asks, and its answer -/
noncomputable def goodDiv (a b : Int) : Bool :=
  inb 1 7 (bl b) && inb 1 7 (cnt a (bl b)) && decide ((digs a (bl b)).length = (cnt a (bl b)).toNat) &&
  ((List.range (cnt a (bl b)).toNat).all fun i => inb 0 64 (dfold (bl b) b (digs a (bl b)) i).1 && inb 0 4096 ((dfold (bl b) b (digs a (bl b)) i).1 * 2 ^ (bl b).toNat + (digs a (bl b)).reverse.getD i 0)) &&
  ((dfold (bl b) b (digs a (bl b)) (cnt a (bl b)).toNat).2.all (inb 0 64)) &&
  decide (combI 6 (bl b) 0 ((dfold (bl b) b (digs a (bl b)) (cnt a (bl b)).toNat).2.reverse.length : Int) (dfold (bl b) b (digs a (bl b)) (cnt a (bl b)).toNat).2.reverse = a.fdiv b) &&
  decide ((dfold (bl b) b (digs a (bl b)) (cnt a (bl b)).toNat).1 = a.fmod b)
noncomputable def goodRow (a : Nat) : Bool := (List.range 64).all fun b => (b == 0 || decide (a < b)) || goodDiv (a : Int) (b : Int)
theorem good_tab0 : (List.range' 0 23).all goodRow = true := by decide +kernel
theorem good_tab1 : (List.range' 23 9).all goodRow = true := by decide +kernel
theorem good_tab2 : (List.range' 32 7).all goodRow = true := by decide +kernel
theorem good_tab3 : (List.range' 39 6).all goodRow = true := by decide +kernel
theorem good_tab4 : (List.range' 45 6).all goodRow = true := by decide +kernel
theorem good_tab5 : (List.range' 51 4).all goodRow = true := by decide +kernel
theorem good_tab6 : (List.range' 55 5).all goodRow = true := by decide +kernel
theorem good_tab7 : (List.range' 60 4).all goodRow = true := by decide +kernel
theorem good_row {a : Nat} (h : a < 64) : goodRow a = true := by
  have f : ∀ {lo n : Nat}, (List.range' lo n).all goodRow = true → lo ≤ a → a < lo + n → goodRow a = true := fun t h1 h2 => List.all_eq_true.mp t a (List.mem_range'_1.mpr ⟨h1, h2⟩)
  rcases Nat.lt_or_ge a 23 with h0 | g0
  · exact f good_tab0 (Nat.zero_le a) h0
  rcases Nat.lt_or_ge a 32 with h1 | g1
  · exact f good_tab1 g0 h1
  rcases Nat.lt_or_ge a 39 with h2 | g2
  · exact f good_tab2 g1 h2
  rcases Nat.lt_or_ge a 45 with h3 | g3
  · exact f good_tab3 g2 h3
  rcases Nat.lt_or_ge a 51 with h4 | g4
  · exact f good_tab4 g3 h4
  rcases Nat.lt_or_ge a 55 with h5 | g5
  · exact f good_tab5 g4 h5
  rcases Nat.lt_or_ge a 60 with h6 | g6
  · exact f good_tab6 g5 h6
  exact f good_tab7 g6 h
theorem good_div {a b : Int} (hb : 1 ≤ b) (hab : b ≤ a) (ha : a < 64) : goodDiv a b = true := by
  have h := List.all_eq_true.mp (good_row (a := a.toNat) (by lia)) b.toNat (List.mem_range.mpr (by lia))
  rw [show ((a.toNat : Nat) : Int) = a by lia, show ((b.toNat : Nat) : Int) = b by lia] at h
  rcases Bool.or_eq_true_iff.mp h with h | h
  · exfalso
    rcases Bool.or_eq_true_iff.mp h with h | h
    · have := beq_iff_eq.mp h; lia
    · have := of_decide_eq_true h; lia
  · exact h
end
section -- P2
open PySem PySem.W PyProof.Rows PySem.Calls
theorem idle_P2 : True := by
  w_top off
  trivial
local macro_rules | `(tactic| k_all) => `(tactic| walk_at "s 1")
local macro_rules | `(tactic| k_all) => `(tactic| walk_at "s 2")
noncomputable def Tup2I (news : List (Addr × Obj)) (v : Value) (news' : List (Addr × Obj)) (a b : Int) : Prop :=
  ∃ (d : Addr) (t t' : Tok), v = .ref d ∧ news' = (d, tup [.int a t, .int b t']) :: news ∧ AllLt d news
theorem allLt_news {h₀ h : Heap} {L : Addr} {news : List (Addr × Obj)} (N : News h₀ L h news) : AllLt h.objs.size news := allLt_of fun p hp => Heap.lt_size (N p hp).1
theorem bits_small {x n : Int} (h0 : 0 ≤ x) (h : x < 4096) (hn : 0 ≤ n) : ((Builtin.Int.intBits x : Nat) : Int) - n ≤ 4000 := by
  have h3 : x.natAbs < 2 ^ 12 := by lia
  have h4 := intBits_le_iff.mpr h3
  lia

set_option maxRecDepth 100000 in
set_option maxHeartbeats 8000000 in
theorem div21_call {w : World} {news : List (Addr × Obj)} (x b n : Int) (t1 t2 t3 : Tok) (h0 : 0 ≤ x) (h1 : x < 4096) (hb : 0 < b) (hb' : b < 64) (hn : 0 ≤ n) :
   Does w 21 1 8 [.int x t1, .int b t2, .int n t3] news fun v news' => Tup2I news v news' (x.fdiv b) (x.fmod b) := by
  have hbits := bits_small h0 h1 hn
  unfold Does
  k_fill
  intro p loose mean mg mb dp un gd cn cs a ccd cl outer A₀ base h₀ L m s Q E B F X N T hk hd hu hret
  refine wpAny_call ?_
  k_dflt cell_enter
  k_steps
  exact hret _ _ _ _ (by assumption) (by assumption) ⟨_, _, _, rfl, rfl, allLt_news (by assumption)⟩
end
section -- L2
open PySem PySem.W PyProof.Rows PySem.Calls
theorem fr_congr {h₀ h : Heap} {L : Addr} {m m' : Str → Option Value} (F : Fr h₀ L h m) (e : ∀ z, m z = m' z) : Fr h₀ L h m' := by
  rw [← funext e]; exact F
theorem fr_conv {h₀ h : Heap} {L : Addr} {m₁ m₀ : Str → Option Value} {x y z : Str} {v u : Value} (hy : m₁ y = some u) (hm : ∀ t, t ≠ x → t ≠ y → t ≠ z → m₁ t = m₀ t) (F : Fr h₀ L h (fun t => if t = x then some v else m₁ t)) :
    Fr h₀ L h (fun t => if t = x then some v else if t = y then some u else if t = z then m₁ t else m₀ t) := by
  refine fr_congr F fun t => ?_
  by_cases h1 : t = x
  · simp only [if_pos h1]
  · simp only [if_neg h1]
    by_cases h2 : t = y
    · simp only [if_pos h2]; rw [h2]; exact hy
    · simp only [if_neg h2]
      by_cases h3 : t = z
      · simp only [if_pos h3]
      · simp only [if_neg h3]; exact hm t h1 h2 h3
theorem fr_conv2 {h₀ h : Heap} {L : Addr} {m₁ m₀ : Str → Option Value} {x y z : Str} {u : Value} (hy : m₁ y = some u) (hm : ∀ t, t ≠ x → t ≠ y → t ≠ z → m₁ t = m₀ t) (F : Fr h₀ L h m₁) :
    Fr h₀ L h (fun t => if t = y then some u else if t = x then m₁ t else if t = z then m₁ t else m₀ t) := by
  refine fr_congr F fun t => ?_
  by_cases h2 : t = y
  · simp only [if_pos h2]; rw [h2]; exact hy
  · simp only [if_neg h2]
    by_cases h1 : t = x
    · simp only [if_pos h1]
    · simp only [if_neg h1]
      by_cases h3 : t = z
      · simp only [if_pos h3]
      · simp only [if_neg h3]; exact hm t h1 h2 h3
section
variable {prog : Program} {w : World} {A : Around} {E : Value → Shared → Prop} {s : Shared} {env : Env} {h₀ : Heap} {x : Str} {body : List Stmt} {Q : Flow → Shared → Prop}
/-- over reversed(l), one list q grown, two more names of the frame stored -/
theorem revQ {ax I q : Addr} {vs : List Value} {ep : Nat} {m₀ : Str → Option Value} {fixed : List (Addr × Obj)} (y y' : Str) (K : Nat → List Value → (Str → Option Value) → Prop)
    (hh : A.handled = none) (F : Fr h₀ env.locals s.heap m₀) (N : News h₀ env.locals s.heap ((I, revObj ax ((vs.length : Int) - 1)) :: (q, listOf #[] 0) :: fixed)) (hIq : q ≠ I) (hqx : q ≠ ax) (hfx : ∀ p ∈ fixed, p.1 ≠ I) (hsep : ∀ p ∈ fixed, p.1 ≠ q) (hm : (ax, listOf vs.toArray ep) ∈ fixed)
    (hj : K 0 [] m₀)
    (turn : ∀ i v vq eq m₁ h tk rest, i < vs.length → vs[vs.length - 1 - i]? = some v → K i vq m₁ → (∀ z, z ≠ x → z ≠ y → z ≠ y' → m₁ z = m₀ z) → Fr h₀ env.locals h (fun z => if z = x then some v else m₁ z) → News h₀ env.locals h ((q, listOf vq.toArray eq) :: rest) → (∀ p ∈ rest, p.1 ≠ q) → (∀ p ∈ fixed, p ∈ rest) →
      wpAny (model prog w) A (execs body env) (LpEnd h₀ env.locals { s with heap := h, toks := tk } (fun st : List Value × Nat => [(q, listOf st.1.toArray st.2)]) rest (fun st m' => K (i + 1) st.1 m' ∧ ∀ z, z ≠ x → z ≠ y → z ≠ y' → m' z = m₀ z) Q) E { s with heap := h, toks := tk })
    (done : ∀ vq eq m' h' tk, K vs.length vq m' → (∀ z, z ≠ x → z ≠ y → z ≠ y' → m' z = m₀ z) → Fr h₀ env.locals h' m' → News h₀ env.locals h' ((q, listOf vq.toArray eq) :: fixed) → Q .next { s with heap := h', toks := tk }) :
    wpAny (model prog w) A (pyIter (.ref I)) (fun it s₂ => LoopAtV prog w A h₀ env x body Q E it s₂) E s := by
  refine revJ (σ := List Value × Nat) [q] (fun st => [(q, listOf st.1.toArray st.2)]) fixed (fun i st m' => K i st.1 m' ∧ ∀ z, z ≠ x → z ≠ y → z ≠ y' → m' z = m₀ z) ([], 0) hh (fun _ => rfl) ?_ ?_ hfx ?_ hm F N ⟨hj, fun _ _ _ _ => rfl⟩ ?_ ?_
  · intro b hb; rw [List.mem_singleton.mp hb]; exact hIq
  · intro b hb; rw [List.mem_singleton.mp hb]; exact hqx
  · intro p hp hb; exact hsep p hp (List.mem_singleton.mp hb)
  · intro i v st m₁ h tk rest hi hv hJ F' N' hr hf
    exact turn i v st.1 st.2 m₁ h tk rest hi hv hJ.1 hJ.2 F' N' (fun p hp e => hr p hp (List.mem_singleton.mpr e)) hf
  · intro st m' h' tk hJ F' N'
    exact done st.1 st.2 m' h' tk hJ.1 hJ.2 F' N'
end
end
section -- P3
open PySem PySem.W PyProof.Rows PySem.Calls
theorem idle_P3 : True := by
  w_top off
  trivial
theorem Does.use {w : World} {f : Addr} {room units : Nat} {vs : List Value} {news : List (Addr × Obj)} {R : Value → List (Addr × Obj) → Prop} (D : Does w f room units vs news R)
   {p : Program} {loose : List Str} {mean : ExcName → Option Value} {mg mb : Str → Option Value}
   {dp un : Nat} {gd : Option (List Code)} {cn : Str} {cs : Scope} {a : Addr} {ccd : Value} {cl : List (Str × Addr)} {outer : List Env} {A₀ : Around} {base h₀ : Heap} {L : Addr} {m : Str → Option Value} {s : Shared} {Q E : Value → Shared → Prop}
   (B : Below A₀ base outer h₀) (F : Fr h₀ L s.heap m) (X : (hd.heap_39 w.params).In h₀) (N : News h₀ L s.heap news) (T : Top p loose mean mg mb h₀) (hk : cs.kind = .function)
   (hd : dp + room < recursionLimit) (hu : un + units < cLine)
   (hret : ∀ (v : Value) (news' : List (Addr × Obj)) (h' : Heap) (tk' : Nat), Fr h₀ L h' m → News h₀ L h' news' → R v news' → Q v { s with heap := h', toks := tk' }) :
   wpAny (model PySem.Challenge.rw_pe0224_01.row.prog w) (ktrTop dp un gd cn cs L a ccd cl outer) (call (.ref f) vs) Q E s := D p loose mean mg mb dp un gd cn cs a ccd cl outer A₀ base h₀ L m s Q E B F X N T hk hd hu hret
theorem DoesN.use {w : World} {f : Addr} {room units : Nat} {vs : List Value} {news : List (Addr × Obj)} {R : Value → List (Addr × Obj) → Prop} (D : DoesN w f room units vs news R)
   {p : Program} {loose : List Str} {mean : ExcName → Option Value} {mg mb : Str → Option Value}
   {dp un : Nat} {gd : Option (List Code)} {cn : Str} {cs : Scope} {a : Addr} {ccd : Value} {cl : List (Str × Addr)} {outer : List Env} {A₀ : Around} {base h₀ : Heap} {L : Addr} {m : Str → Option Value} {s : Shared} {Q E : Value → Shared → Prop}
   (B : Below A₀ base outer h₀) (F : Fr h₀ L s.heap m) (X : (hd.heap_39 w.params).In h₀) (N : News h₀ L s.heap news) (T : Top p loose mean mg mb h₀) (C1 : CodeHd base 34 30) (C2 : CodeHd base 41 37) (hk : cs.kind = .function)
   (hd : dp + room < recursionLimit) (hu : un + units < cLine)
   (hret : ∀ (v : Value) (news' : List (Addr × Obj)) (h' : Heap) (tk' : Nat), Fr h₀ L h' m → News h₀ L h' news' → R v news' → Q v { s with heap := h', toks := tk' }) :
   wpAny (model PySem.Challenge.rw_pe0224_01.row.prog w) (ktrTop dp un gd cn cs L a ccd cl outer) (call (.ref f) vs) Q E s := D p loose mean mg mb dp un gd cn cs a ccd cl outer A₀ base h₀ L m s Q E B F X N T C1 C2 hk hd hu hret

theorem dfold_len {n b : Int} : ∀ (l : List Int) (st : Int × List Int), (l.foldl (dstep n b) st).2.length = st.2.length + l.length
  | [], _ => rfl
  | d :: l, st => by rw [List.foldl_cons, dfold_len l]; simp [dstep]; lia
theorem dfold_le {n b : Int} {ds : List Int} {i : Nat} : (dfold n b ds i).2.length ≤ i := by
  unfold dfold; rw [dfold_len]; simp; lia
theorem ints_snoc {x : Int} {u : Tok} : ∀ {vs : List Value} {ns : List Int}, IntsAre vs ns → IntsAre (vs ++ [.int x u]) (ns ++ [x])
  | _, _, .nil => .cons x u .nil
  | _, _, .cons i t h => .cons i t (ints_snoc h)
theorem ints_reverse : ∀ {vs : List Value} {ns : List Int}, IntsAre vs ns → IntsAre vs.reverse ns.reverse
  | _, _, .nil => .nil
  | _, _, .cons i t h => by rw [List.reverse_cons, List.reverse_cons]; exact ints_snoc (ints_reverse h)
end
local macro_rules | `(tactic| walk_at "s 7") => `(tactic| (k_here; (rename Fr _ _ _ _ => lF'); (with_unfolding_all refine' For_invVF lF' ?k1 ?k2 ?_; (case k1 => exact rfl); (case k2 => exact rfl); k_whole)))
local macro_rules | `(tactic| walk_at "my use") => `(tactic| ((case B => k_asm); (case F => k_asm); (case X => k_asm); (case N => exact cb_drop (by k_asm) (by walk_at "my sub")); (case T => k_asm); (case hk => exact rfl)))
local macro_rules | `(tactic| walk_at "my useN") => `(tactic| (walk_at "my use"; (case C1 => assumption); (case C2 => assumption)))
section
open PySem PySem.W PyProof.Rows PySem.Calls
local macro_rules | `(tactic| k_all) => `(tactic| walk_at "s 1")
local macro_rules | `(tactic| k_all) => `(tactic| walk_at "s 6")
local macro_rules | `(tactic| walk_at "call ref") => `(tactic| walk_at "s 3")
local macro_rules | `(tactic| walk_at "pyIter ref") => `(tactic| walk_at "s 3")
local macro_rules | `(tactic| walk_at "exec For Name Call cons nil") => `(tactic| walk_at "s 7")
local macro_rules | `(tactic| walk_at "binaryOp LShift int int") => `(tactic| walk_at "s 4")
local macro_rules | `(tactic| walk_at "call builtin:list.append") => `(tactic| walk_at "s 3")
local macro_rules | `(tactic| walk_at "call builtin:list.reverse") => `(tactic| walk_at "s 3")
set_option maxRecDepth 100000 in
set_option maxHeartbeats 8000000 in
theorem dpos_fresh {w : World} {news : List (Addr × Obj)} (a b : Int) (t1 t2 : Tok) (hb : 1 ≤ b) (hab : b ≤ a) (ha : a < 64) (h30 : ∀ q ∈ news, q.1 ≠ 30) (h37 : ∀ q ∈ news, q.1 ≠ 37) :
   DoesN w 49 9 90 [.int a t1, .int b t2] ((30, tabObj #[]) :: (37, tabObj #[]) :: news) fun v news' =>
     ∃ (d c1 c2 : Addr) (oc1 oc2 : Obj) (t t' : Tok), v = .ref d ∧ news' = (d, tup [.int (a.fdiv b) t, .int (a.fmod b) t']) :: (30, tabF 32 4 c1) :: (c1, oc1) :: (37, tabF 47 4 c2) :: (c2, oc2) :: news ∧ CodeOf q1 oc1 ∧ CodeOf q2 oc2 := by
  have hg := good_div hb hab ha
  simp only [goodDiv, inb, Bool.and_eq_true, decide_eq_true_eq, List.all_eq_true, List.mem_range] at hg
  obtain ⟨⟨⟨⟨⟨⟨⟨hn1, hn2⟩, hc1', hc6'⟩, hlen⟩, hbd⟩, hqs⟩, hq⟩, hr⟩ := hg
  replace hn1 : 0 < bl b := by lia
  replace hn2 : bl b ≤ 6 := by lia
  replace hc6' : cnt a (bl b) ≤ 6 := by lia
  unfold DoesN
  k_fill
  intro p loose mean mg mb dp un gd cn cs af ccd cl outer A₀ base h₀ L m s Q E B F X N T C1 C2 hk hd hu hret
  refine wpAny_call ?_
  k_dflt cell_enter
  k_steps
  all_goals repeat' (unfold Halt; (first | (k_here; (with_reducible show wpAny _ _ (call (Value.builtin _) [Value.ref _, _]) _ _ _); k_dflt (refine' append_K ?k1 ?k2 ?k3 ?_ ?z; (case k1 => k_asm); (case k2 => k_asm); (case k3 => k_upd); (case z => assumption); k_whole); intro h' F' N'; (try k_sweep)) | (k_here; (with_reducible show wpAny _ _ (call (Value.builtin _) [Value.ref _]) _ _ _); k_dflt (refine' kl_reverse ?F ?N ?e ?U ?z ?_; (case F => k_asm); (case N => k_asm); (case U => k_upd); (case e => exact rfl); (case z => assumption)); intro h' F' N'; (try k_sweep))); k_steps)
  unfold Halt
  refine' DoesN.use (i2d_fresh (news := (37, tabObj #[]) :: news) a (bl b) _ _ (by lia) ha hn1 hn2 hc1' hc6' (List.forall_mem_cons.mpr ⟨by decide, h30⟩)) ?B ?F ?X ?N ?T ?C1 ?C2 ?hk ?hd ?hu ?hret
  walk_at "my useN"
  (case hd => (show dp + 1 + 8 < recursionLimit; exact lt_room (k := 9) hd (by decide)))
  (case hu => (show un + 3 + 80 < cLine; exact lt_room (k := 83) hu (by decide)))
  rintro v1 news1 hh1 tkk1 FF1 NN1 ⟨l, c1, oc1, vs, ep, rfl, rfl, hc1, hI, hl98, hc98, hlt, hct⟩
  k_steps
  all_goals repeat' (unfold Halt; (first | (k_here; (with_reducible show wpAny _ _ (call (Value.builtin _) [Value.ref _, _]) _ _ _); k_dflt (refine' append_K ?k1 ?k2 ?k3 ?_ ?z; (case k1 => k_asm); (case k2 => k_asm); (case k3 => k_upd); (case z => assumption); k_whole); intro h' F' N'; (try k_sweep)) | (k_here; (with_reducible show wpAny _ _ (call (Value.builtin _) [Value.ref _]) _ _ _); k_dflt (refine' kl_reverse ?F ?N ?e ?U ?z ?_; (case F => k_asm); (case N => k_asm); (case U => k_upd); (case e => exact rfl); (case z => assumption)); intro h' F' N'; (try k_sweep))); k_steps)
  unfold Halt
  have hds : (digs a (bl b)).length = vs.length := hI.length.symm
  refine' revQ (Str.ofString "r") (Str.ofString "q_digit") (fun i vq m' => (∃ t, m' (Str.ofString "r") = some (.int (dfold (bl b) b (digs a (bl b)) i).1 t)) ∧ IntsAre vq (dfold (bl b) b (digs a (bl b)) i).2) ?hh ?F ?N ?hIq ?hqx ?hfx ?hsep ?hm ?hj ?turn ?done
  (case hh => exact rfl)
  (case F => k_asm)
  (case N => k_asm)
  (case hIq => k_ne)
  (case hqx => k_ne)
  (case hfx => k_all)
  (case hsep => k_all)
  (case hm => k_mem)
  (case hj => exact ⟨⟨_, rfl⟩, .nil⟩)
  (case turn =>
    rintro i v vq eq m₁ hh tkk rest hi hv ⟨⟨tr, hrr⟩, hIq⟩ hmm FF NN hrest hfx
    obtain ⟨d, td, rfl, hd9⟩ := hI.at _ _ hv
    have hcl : (cnt a (bl b)).toNat = vs.length := by lia
    have hrev : (digs a (bl b)).reverse[i]? = some d := by rw [List.getElem?_reverse (by lia), hds]; exact hd9
    have hrd : (digs a (bl b)).reverse.getD i 0 = d := by rw [List.getD_eq_getElem?_getD, hrev]; rfl
    have hb9 := hbd i (by lia)
    rw [hrd] at hb9
    have hstep : dfold (bl b) b (digs a (bl b)) (i + 1) = dstep (bl b) b (dfold (bl b) b (digs a (bl b)) i) d := by
      unfold dfold; rw [List.take_add_one, hrev]; simp
    rw [hstep]
    clear hbd hqs hq hr hstep hrd hrev
    have hdl := dfold_le (n := bl b) (b := b) (ds := digs a (bl b)) (i := i)
    generalize dfold (bl b) b (digs a (bl b)) i = st at *
    have hn3 : 0 ≤ ((Builtin.Int.intBits b : Nat) : Int) := by lia
    have hn4 : ((Builtin.Int.intBits b : Nat) : Int) ≤ 1000000 := by have : ((Builtin.Int.intBits b : Nat) : Int) = bl b := rfl; lia
    have hn5 : st.1.natAbs < 2 ^ 64 := by lia
    have hql := hIq.length
    have hvs : vq.toArray.size ≤ sizeLine := by rw [List.size_toArray, sizeLine_eq]; lia
    have F2 := fr_conv hrr hmm FF
    clear FF hrr
    k_steps
    all_goals repeat' (unfold Halt; (first | (k_here; (with_reducible show wpAny _ _ (call (Value.builtin _) [Value.ref _, _]) _ _ _); k_dflt (refine' append_K ?k1 ?k2 ?k3 ?_ ?z; (case k1 => k_asm); (case k2 => k_asm); (case k3 => k_upd); (case z => assumption); k_whole); intro h' F' N'; (try k_sweep)) | (k_here; (with_reducible show wpAny _ _ (call (Value.builtin _) [Value.ref _]) _ _ _); k_dflt (refine' kl_reverse ?F ?N ?e ?U ?z ?_; (case F => k_asm); (case N => k_asm); (case U => k_upd); (case e => exact rfl); (case z => assumption)); intro h' F' N'; (try k_sweep))); k_steps)
    unfold Halt
    refine Does.use (div21_call _ b _ _ _ _ hb9.2.1 hb9.2.2 (by lia) (by lia) hn3) (by k_asm) (by k_asm) (by k_asm) (cb_drop (by k_asm) (by walk_at "my sub")) (by k_asm) rfl ?_ ?_ ?_
    · show dp + 1 + 1 < recursionLimit; exact lt_room (k := 2) hd (by decide)
    · show un + 3 + 8 < cLine; exact lt_room (k := 11) hu (by decide)
    rintro v2 news2 hh2 tkk2 FF2 NN2 ⟨d2, u1, u2, rfl, rfl, hlt2⟩
    simp only [AllLt] at hlt2
    k_steps
    all_goals repeat' (unfold Halt; (first | (k_here; (with_reducible show wpAny _ _ (call (Value.builtin _) [Value.ref _, _]) _ _ _); k_dflt (refine' append_K ?k1 ?k2 ?k3 ?_ ?z; (case k1 => k_asm); (case k2 => k_asm); (case k3 => k_upd); (case z => assumption); k_whole); intro h' F' N'; (try k_sweep)) | (k_here; (with_reducible show wpAny _ _ (call (Value.builtin _) [Value.ref _]) _ _ _); k_dflt (refine' kl_reverse ?F ?N ?e ?U ?z ?_; (case F => k_asm); (case N => k_asm); (case U => k_upd); (case e => exact rfl); (case z => assumption)); intro h' F' N'; (try k_sweep))); k_steps)
    rename News _ _ _ _ => NZ
    rw [List.push_toArray] at NZ
    refine LpEnd.next (_ ++ [_], _ + 1) (by assumption) (cb_drop NZ (by walk_at "my sub")) ⟨⟨⟨_, rfl⟩, ints_snoc hIq⟩, fun z h1 h2 h3 => ?_⟩
    simp only [if_neg h1, if_neg h2, if_neg h3])
  rintro vq eq m₁ hh tkk ⟨⟨tr, hrr⟩, hIq⟩ hmm FF NN
  have hcl : (cnt a (bl b)).toNat = vs.length := by lia
  rw [hcl] at hq hqs hr
  have hql := hIq.length
  have hdl : (dfold (bl b) b (digs a (bl b)) vs.length).2.length = vs.length := by
    unfold dfold; rw [dfold_len, ← hds]; simp
  generalize dfold (bl b) b (digs a (bl b)) vs.length = st at *
  have hvz : vq.toArray.toList.length ≤ sizeLine := by rw [sizeLine_eq]; show vq.length ≤ _; lia
  have F2 := fr_conv2 hrr hmm FF
  clear FF hrr
  k_steps
  all_goals repeat' (unfold Halt; (first | (k_here; (with_reducible show wpAny _ _ (call (Value.builtin _) [Value.ref _, _]) _ _ _); k_dflt (refine' append_K ?k1 ?k2 ?k3 ?_ ?z; (case k1 => k_asm); (case k2 => k_asm); (case k3 => k_upd); (case z => assumption); k_whole); intro h' F' N'; (try k_sweep)) | (k_here; (with_reducible show wpAny _ _ (call (Value.builtin _) [Value.ref _]) _ _ _); k_dflt (refine' kl_reverse ?F ?N ?e ?U ?z ?_; (case F => k_asm); (case N => k_asm); (case U => k_upd); (case e => exact rfl); (case z => assumption)); intro h' F' N'; (try k_sweep))); k_steps)
  unfold Halt
  refine DoesN.use (d2i_fresh (news := (30, tabF 32 4 c1) :: (c1, oc1) :: news) (bl b) _ (ints_reverse hIq) (by simp; lia) (by simp; lia) (fun x hx => hqs x (List.mem_reverse.mp hx)) hn1 hn2 (List.forall_mem_cons.mpr ⟨by show (30 : Nat) ≠ 37; decide, List.forall_mem_cons.mpr ⟨by show c1 ≠ 37; exact Nat.ne_of_gt (Nat.lt_trans (by decide) hc98), h37⟩⟩) (by lia)) (by k_asm) (by k_asm) (by k_asm) (cb_drop (by k_asm) (by walk_at "my sub")) (by k_asm) C1 C2 rfl ?_ ?_ ?_
  · show dp + 1 + 8 < recursionLimit; exact lt_room (k := 9) hd (by decide)
  · show un + 3 + 80 < cLine; exact lt_room (k := 83) hu (by decide)
  rintro v3 news3 hh3 tkk3 FF3 NN3 ⟨c2, oc2, t9, rfl, rfl, hc2, hc298, hc2t⟩
  k_steps
  all_goals repeat' (unfold Halt; (first | (k_here; (with_reducible show wpAny _ _ (call (Value.builtin _) [Value.ref _, _]) _ _ _); k_dflt (refine' append_K ?k1 ?k2 ?k3 ?_ ?z; (case k1 => k_asm); (case k2 => k_asm); (case k3 => k_upd); (case z => assumption); k_whole); intro h' F' N'; (try k_sweep)) | (k_here; (with_reducible show wpAny _ _ (call (Value.builtin _) [Value.ref _]) _ _ _); k_dflt (refine' kl_reverse ?F ?N ?e ?U ?z ?_; (case F => k_asm); (case N => k_asm); (case U => k_upd); (case e => exact rfl); (case z => assumption)); intro h' F' N'; (try k_sweep))); k_steps)
  rw [← hq, ← hr] at hret
  refine hret _ _ _ _ (by assumption) (cb_drop (by assumption) (by walk_at "my sub")) ⟨_, c1, c2, oc1, oc2, _, _, rfl, rfl, hc1, hc2⟩

set_option maxRecDepth 100000 in
set_option maxHeartbeats 8000000 in
theorem dpos_hit {w : World} {news : List (Addr × Obj)} {c1 c2 : Addr} {oc1 oc2 : Obj} (a b : Int) (t1 t2 : Tok) (hb : 1 ≤ b) (hab : b ≤ a) (ha : a < 64) (hc1 : CodeOf q1 oc1) (hc2 : CodeOf q2 oc2) :
   DoesN w 49 9 90 [.int a t1, .int b t2] ((30, tabF 32 4 c1) :: (c1, oc1) :: (37, tabF 47 4 c2) :: (c2, oc2) :: news) fun v news' =>
     ∃ (d : Addr) (t t' : Tok), v = .ref d ∧ news' = (d, tup [.int (a.fdiv b) t, .int (a.fmod b) t']) :: (30, tabF 32 4 c1) :: (c1, oc1) :: (37, tabF 47 4 c2) :: (c2, oc2) :: news := by
  have hg := good_div hb hab ha
  simp only [goodDiv, inb, Bool.and_eq_true, decide_eq_true_eq, List.all_eq_true, List.mem_range] at hg
  obtain ⟨⟨⟨⟨⟨⟨⟨hn1, hn2⟩, hc1', hc6'⟩, hlen⟩, hbd⟩, hqs⟩, hq⟩, hr⟩ := hg
  replace hn1 : 0 < bl b := by lia
  replace hn2 : bl b ≤ 6 := by lia
  replace hc6' : cnt a (bl b) ≤ 6 := by lia
  unfold DoesN
  k_fill
  intro p loose mean mg mb dp un gd cn cs af ccd cl outer A₀ base h₀ L m s Q E B F X N T C1 C2 hk hd hu hret
  refine wpAny_call ?_
  k_dflt cell_enter
  k_steps
  all_goals repeat' (unfold Halt; (first | (k_here; (with_reducible show wpAny _ _ (call (Value.builtin _) [Value.ref _, _]) _ _ _); k_dflt (refine' append_K ?k1 ?k2 ?k3 ?_ ?z; (case k1 => k_asm); (case k2 => k_asm); (case k3 => k_upd); (case z => assumption); k_whole); intro h' F' N'; (try k_sweep)) | (k_here; (with_reducible show wpAny _ _ (call (Value.builtin _) [Value.ref _]) _ _ _); k_dflt (refine' kl_reverse ?F ?N ?e ?U ?z ?_; (case F => k_asm); (case N => k_asm); (case U => k_upd); (case e => exact rfl); (case z => assumption)); intro h' F' N'; (try k_sweep))); k_steps)
  unfold Halt
  refine' DoesN.use (i2d_hit (c' := c1) (oc := oc1) (news := (37, tabF 47 4 c2) :: (c2, oc2) :: news) a (bl b) _ _ (by lia) ha hn1 hn2 hc1' hc6' hc1) ?B ?F ?X ?N ?T ?C1 ?C2 ?hk ?hd ?hu ?hret
  walk_at "my useN"
  (case hd => (show dp + 1 + 8 < recursionLimit; exact lt_room (k := 9) hd (by decide)))
  (case hu => (show un + 3 + 80 < cLine; exact lt_room (k := 83) hu (by decide)))
  rintro v1 news1 hh1 tkk1 FF1 NN1 ⟨l, vs, ep, rfl, rfl, hI, hl98, hlt⟩
  k_steps
  all_goals repeat' (unfold Halt; (first | (k_here; (with_reducible show wpAny _ _ (call (Value.builtin _) [Value.ref _, _]) _ _ _); k_dflt (refine' append_K ?k1 ?k2 ?k3 ?_ ?z; (case k1 => k_asm); (case k2 => k_asm); (case k3 => k_upd); (case z => assumption); k_whole); intro h' F' N'; (try k_sweep)) | (k_here; (with_reducible show wpAny _ _ (call (Value.builtin _) [Value.ref _]) _ _ _); k_dflt (refine' kl_reverse ?F ?N ?e ?U ?z ?_; (case F => k_asm); (case N => k_asm); (case U => k_upd); (case e => exact rfl); (case z => assumption)); intro h' F' N'; (try k_sweep))); k_steps)
  unfold Halt
  have hds : (digs a (bl b)).length = vs.length := hI.length.symm
  refine' revQ (Str.ofString "r") (Str.ofString "q_digit") (fun i vq m' => (∃ t, m' (Str.ofString "r") = some (.int (dfold (bl b) b (digs a (bl b)) i).1 t)) ∧ IntsAre vq (dfold (bl b) b (digs a (bl b)) i).2) ?hh ?F ?N ?hIq ?hqx ?hfx ?hsep ?hm ?hj ?turn ?done
  (case hh => exact rfl)
  (case F => k_asm)
  (case N => k_asm)
  (case hIq => k_ne)
  (case hqx => k_ne)
  (case hfx => k_all)
  (case hsep => k_all)
  (case hm => k_mem)
  (case hj => exact ⟨⟨_, rfl⟩, .nil⟩)
  (case turn =>
    rintro i v vq eq m₁ hh tkk rest hi hv ⟨⟨tr, hrr⟩, hIq⟩ hmm FF NN hrest hfx
    obtain ⟨d, td, rfl, hd9⟩ := hI.at _ _ hv
    have hcl : (cnt a (bl b)).toNat = vs.length := by lia
    have hrev : (digs a (bl b)).reverse[i]? = some d := by rw [List.getElem?_reverse (by lia), hds]; exact hd9
    have hrd : (digs a (bl b)).reverse.getD i 0 = d := by rw [List.getD_eq_getElem?_getD, hrev]; rfl
    have hb9 := hbd i (by lia)
    rw [hrd] at hb9
    have hstep : dfold (bl b) b (digs a (bl b)) (i + 1) = dstep (bl b) b (dfold (bl b) b (digs a (bl b)) i) d := by
      unfold dfold; rw [List.take_add_one, hrev]; simp
    rw [hstep]
    clear hbd hqs hq hr hstep hrd hrev
    have hdl := dfold_le (n := bl b) (b := b) (ds := digs a (bl b)) (i := i)
    generalize dfold (bl b) b (digs a (bl b)) i = st at *
    have hn3 : 0 ≤ ((Builtin.Int.intBits b : Nat) : Int) := by lia
    have hn4 : ((Builtin.Int.intBits b : Nat) : Int) ≤ 1000000 := by have : ((Builtin.Int.intBits b : Nat) : Int) = bl b := rfl; lia
    have hn5 : st.1.natAbs < 2 ^ 64 := by lia
    have hql := hIq.length
    have hvs : vq.toArray.size ≤ sizeLine := by rw [List.size_toArray, sizeLine_eq]; lia
    have F2 := fr_conv hrr hmm FF
    clear FF hrr
    k_steps
    all_goals repeat' (unfold Halt; (first | (k_here; (with_reducible show wpAny _ _ (call (Value.builtin _) [Value.ref _, _]) _ _ _); k_dflt (refine' append_K ?k1 ?k2 ?k3 ?_ ?z; (case k1 => k_asm); (case k2 => k_asm); (case k3 => k_upd); (case z => assumption); k_whole); intro h' F' N'; (try k_sweep)) | (k_here; (with_reducible show wpAny _ _ (call (Value.builtin _) [Value.ref _]) _ _ _); k_dflt (refine' kl_reverse ?F ?N ?e ?U ?z ?_; (case F => k_asm); (case N => k_asm); (case U => k_upd); (case e => exact rfl); (case z => assumption)); intro h' F' N'; (try k_sweep))); k_steps)
    unfold Halt
    refine Does.use (div21_call _ b _ _ _ _ hb9.2.1 hb9.2.2 (by lia) (by lia) hn3) (by k_asm) (by k_asm) (by k_asm) (cb_drop (by k_asm) (by walk_at "my sub")) (by k_asm) rfl ?_ ?_ ?_
    · show dp + 1 + 1 < recursionLimit; exact lt_room (k := 2) hd (by decide)
    · show un + 3 + 8 < cLine; exact lt_room (k := 11) hu (by decide)
    rintro v2 news2 hh2 tkk2 FF2 NN2 ⟨d2, u1, u2, rfl, rfl, hlt2⟩
    simp only [AllLt] at hlt2
    k_steps
    all_goals repeat' (unfold Halt; (first | (k_here; (with_reducible show wpAny _ _ (call (Value.builtin _) [Value.ref _, _]) _ _ _); k_dflt (refine' append_K ?k1 ?k2 ?k3 ?_ ?z; (case k1 => k_asm); (case k2 => k_asm); (case k3 => k_upd); (case z => assumption); k_whole); intro h' F' N'; (try k_sweep)) | (k_here; (with_reducible show wpAny _ _ (call (Value.builtin _) [Value.ref _]) _ _ _); k_dflt (refine' kl_reverse ?F ?N ?e ?U ?z ?_; (case F => k_asm); (case N => k_asm); (case U => k_upd); (case e => exact rfl); (case z => assumption)); intro h' F' N'; (try k_sweep))); k_steps)
    rename News _ _ _ _ => NZ
    rw [List.push_toArray] at NZ
    refine LpEnd.next (_ ++ [_], _ + 1) (by assumption) (cb_drop NZ (by walk_at "my sub")) ⟨⟨⟨_, rfl⟩, ints_snoc hIq⟩, fun z h1 h2 h3 => ?_⟩
    simp only [if_neg h1, if_neg h2, if_neg h3])
  rintro vq eq m₁ hh tkk ⟨⟨tr, hrr⟩, hIq⟩ hmm FF NN
  have hcl : (cnt a (bl b)).toNat = vs.length := by lia
  rw [hcl] at hq hqs hr
  have hql := hIq.length
  have hdl : (dfold (bl b) b (digs a (bl b)) vs.length).2.length = vs.length := by
    unfold dfold; rw [dfold_len, ← hds]; simp
  generalize dfold (bl b) b (digs a (bl b)) vs.length = st at *
  have hvz : vq.toArray.toList.length ≤ sizeLine := by rw [sizeLine_eq]; show vq.length ≤ _; lia
  have F2 := fr_conv2 hrr hmm FF
  clear FF hrr
  k_steps
  all_goals repeat' (unfold Halt; (first | (k_here; (with_reducible show wpAny _ _ (call (Value.builtin _) [Value.ref _, _]) _ _ _); k_dflt (refine' append_K ?k1 ?k2 ?k3 ?_ ?z; (case k1 => k_asm); (case k2 => k_asm); (case k3 => k_upd); (case z => assumption); k_whole); intro h' F' N'; (try k_sweep)) | (k_here; (with_reducible show wpAny _ _ (call (Value.builtin _) [Value.ref _]) _ _ _); k_dflt (refine' kl_reverse ?F ?N ?e ?U ?z ?_; (case F => k_asm); (case N => k_asm); (case U => k_upd); (case e => exact rfl); (case z => assumption)); intro h' F' N'; (try k_sweep))); k_steps)
  unfold Halt
  refine DoesN.use (d2i_hit (c' := c2) (oc := oc2) (news := (30, tabF 32 4 c1) :: (c1, oc1) :: news) (bl b) _ (ints_reverse hIq) (by simp; lia) (by simp; lia) (fun x hx => hqs x (List.mem_reverse.mp hx)) hn1 hn2 hc2) (by k_asm) (by k_asm) (by k_asm) (cb_drop (by k_asm) (by walk_at "my sub")) (by k_asm) C1 C2 rfl ?_ ?_ ?_
  · show dp + 1 + 8 < recursionLimit; exact lt_room (k := 9) hd (by decide)
  · show un + 3 + 80 < cLine; exact lt_room (k := 83) hu (by decide)
  rintro v3 news3 hh3 tkk3 FF3 NN3 ⟨t9, rfl, rfl⟩
  k_steps
  all_goals repeat' (unfold Halt; (first | (k_here; (with_reducible show wpAny _ _ (call (Value.builtin _) [Value.ref _, _]) _ _ _); k_dflt (refine' append_K ?k1 ?k2 ?k3 ?_ ?z; (case k1 => k_asm); (case k2 => k_asm); (case k3 => k_upd); (case z => assumption); k_whole); intro h' F' N'; (try k_sweep)) | (k_here; (with_reducible show wpAny _ _ (call (Value.builtin _) [Value.ref _]) _ _ _); k_dflt (refine' kl_reverse ?F ?N ?e ?U ?z ?_; (case F => k_asm); (case N => k_asm); (case U => k_upd); (case e => exact rfl); (case z => assumption)); intro h' F' N'; (try k_sweep))); k_steps)
  rw [← hq, ← hr] at hret
  refine hret _ _ _ _ (by assumption) (cb_drop (by assumption) (by walk_at "my sub")) ⟨_, _, _, rfl, rfl⟩
end
local macro_rules | `(tactic| walk_at "idle 0") => `(tactic| fail)
section -- P4
open PySem PySem.W PyProof.Rows PySem.Calls
theorem idle_P4 : True := by
  w_top off
  trivial
local macro_rules | `(tactic| k_all) => `(tactic| walk_at "s 1")
local macro_rules | `(tactic| k_all) => `(tactic| walk_at "s 2")
local macro_rules | `(tactic| walk_at "call ref") => `(tactic| walk_at "s 3")
local macro_rules | `(tactic| walk_at "pyIter ref") => `(tactic| walk_at "s 3")
local macro_rules | `(tactic| walk_at "exec For Name Call cons nil") => `(tactic| walk_at "s 7")
local macro_rules | `(tactic| walk_at "binaryOp LShift int int") => `(tactic| walk_at "s 4")
local macro_rules | `(tactic| walk_at "call builtin:list.append") => `(tactic| walk_at "s 3")
local macro_rules | `(tactic| walk_at "call builtin:list.reverse") => `(tactic| walk_at "s 3")
set_option maxRecDepth 100000 in
set_option maxHeartbeats 8000000 in
theorem idm_fresh {w : World} {news : List (Addr × Obj)} (a b : Int) (t1 t2 : Tok) (hb : 1 ≤ b) (hab : b ≤ a) (ha : a < 64) (h30 : ∀ q ∈ news, q.1 ≠ 30) (h37 : ∀ q ∈ news, q.1 ≠ 37) :
   DoesN w 56 10 100 [.int a t1, .int b t2] ((30, tabObj #[]) :: (37, tabObj #[]) :: news) fun v news' =>
     ∃ (d c1 c2 : Addr) (oc1 oc2 : Obj) (t t' : Tok), v = .ref d ∧ news' = (d, tup [.int (a.fdiv b) t, .int (a.fmod b) t']) :: (30, tabF 32 4 c1) :: (c1, oc1) :: (37, tabF 47 4 c2) :: (c2, oc2) :: news ∧ CodeOf q1 oc1 ∧ CodeOf q2 oc2 := by
  have hb0 : b ≠ 0 := by lia
  have hb1 : ¬ b < 0 := by lia
  have ha1 : ¬ a < 0 := by lia
  unfold DoesN
  k_fill
  intro p loose mean mg mb dp un gd cn cs af ccd cl outer A₀ base h₀ L m s Q E B F X N T C1 C2 hk hd hu hret
  refine wpAny_call ?_
  k_dflt cell_enter
  k_steps
  all_goals repeat' (unfold Halt; (first | (k_here; (with_reducible show wpAny _ _ (call (Value.builtin _) [Value.ref _, _]) _ _ _); k_dflt (refine' append_K ?k1 ?k2 ?k3 ?_ ?z; (case k1 => k_asm); (case k2 => k_asm); (case k3 => k_upd); (case z => assumption); k_whole); intro h' F' N'; (try k_sweep)) | (k_here; (with_reducible show wpAny _ _ (call (Value.builtin _) [Value.ref _]) _ _ _); k_dflt (refine' kl_reverse ?F ?N ?e ?U ?z ?_; (case F => k_asm); (case N => k_asm); (case U => k_upd); (case e => exact rfl); (case z => assumption)); intro h' F' N'; (try k_sweep))); k_steps)
  all_goals (try (exfalso; lia))
  unfold Halt
  refine DoesN.use (dpos_fresh a b _ _ hb hab ha h30 h37) (by k_asm) (by k_asm) (by k_asm) (by k_asm) (by k_asm) C1 C2 rfl ?_ ?_ ?_
  · show dp + 1 + 9 < recursionLimit; exact lt_room (k := 10) hd (by decide)
  · show un + 3 + 90 < cLine; exact lt_room (k := 93) hu (by decide)
  rintro v3 news3 hh3 tkk3 FF3 NN3 ⟨d, c1, c2, oc1, oc2, t, t', rfl, rfl, hc1, hc2⟩
  k_steps
  all_goals repeat' (unfold Halt; (first | (k_here; (with_reducible show wpAny _ _ (call (Value.builtin _) [Value.ref _, _]) _ _ _); k_dflt (refine' append_K ?k1 ?k2 ?k3 ?_ ?z; (case k1 => k_asm); (case k2 => k_asm); (case k3 => k_upd); (case z => assumption); k_whole); intro h' F' N'; (try k_sweep)) | (k_here; (with_reducible show wpAny _ _ (call (Value.builtin _) [Value.ref _]) _ _ _); k_dflt (refine' kl_reverse ?F ?N ?e ?U ?z ?_; (case F => k_asm); (case N => k_asm); (case U => k_upd); (case e => exact rfl); (case z => assumption)); intro h' F' N'; (try k_sweep))); k_steps)
  exact hret _ _ _ _ (by assumption) (by assumption) ⟨d, c1, c2, oc1, oc2, t, t', rfl, rfl, hc1, hc2⟩

set_option maxRecDepth 100000 in
set_option maxHeartbeats 8000000 in
theorem idm_hit {w : World} {news : List (Addr × Obj)} {c1 c2 : Addr} {oc1 oc2 : Obj} (a b : Int) (t1 t2 : Tok) (hb : 1 ≤ b) (hab : b ≤ a) (ha : a < 64) (hc1 : CodeOf q1 oc1) (hc2 : CodeOf q2 oc2) :
   DoesN w 56 10 100 [.int a t1, .int b t2] ((30, tabF 32 4 c1) :: (c1, oc1) :: (37, tabF 47 4 c2) :: (c2, oc2) :: news) fun v news' =>
     ∃ (d : Addr) (t t' : Tok), v = .ref d ∧ news' = (d, tup [.int (a.fdiv b) t, .int (a.fmod b) t']) :: (30, tabF 32 4 c1) :: (c1, oc1) :: (37, tabF 47 4 c2) :: (c2, oc2) :: news := by
  have hb0 : b ≠ 0 := by lia
  have hb1 : ¬ b < 0 := by lia
  have ha1 : ¬ a < 0 := by lia
  unfold DoesN
  k_fill
  intro p loose mean mg mb dp un gd cn cs af ccd cl outer A₀ base h₀ L m s Q E B F X N T C1 C2 hk hd hu hret
  refine wpAny_call ?_
  k_dflt cell_enter
  k_steps
  all_goals repeat' (unfold Halt; (first | (k_here; (with_reducible show wpAny _ _ (call (Value.builtin _) [Value.ref _, _]) _ _ _); k_dflt (refine' append_K ?k1 ?k2 ?k3 ?_ ?z; (case k1 => k_asm); (case k2 => k_asm); (case k3 => k_upd); (case z => assumption); k_whole); intro h' F' N'; (try k_sweep)) | (k_here; (with_reducible show wpAny _ _ (call (Value.builtin _) [Value.ref _]) _ _ _); k_dflt (refine' kl_reverse ?F ?N ?e ?U ?z ?_; (case F => k_asm); (case N => k_asm); (case U => k_upd); (case e => exact rfl); (case z => assumption)); intro h' F' N'; (try k_sweep))); k_steps)
  all_goals (try (exfalso; lia))
  unfold Halt
  refine DoesN.use (dpos_hit a b _ _ hb hab ha hc1 hc2) (by k_asm) (by k_asm) (by k_asm) (by k_asm) (by k_asm) C1 C2 rfl ?_ ?_ ?_
  · show dp + 1 + 9 < recursionLimit; exact lt_room (k := 10) hd (by decide)
  · show un + 3 + 90 < cLine; exact lt_room (k := 93) hu (by decide)
  rintro v3 news3 hh3 tkk3 FF3 NN3 ⟨d, t, t', rfl, rfl⟩
  k_steps
  all_goals repeat' (unfold Halt; (first | (k_here; (with_reducible show wpAny _ _ (call (Value.builtin _) [Value.ref _, _]) _ _ _); k_dflt (refine' append_K ?k1 ?k2 ?k3 ?_ ?z; (case k1 => k_asm); (case k2 => k_asm); (case k3 => k_upd); (case z => assumption); k_whole); intro h' F' N'; (try k_sweep)) | (k_here; (with_reducible show wpAny _ _ (call (Value.builtin _) [Value.ref _]) _ _ _); k_dflt (refine' kl_reverse ?F ?N ?e ?U ?z ?_; (case F => k_asm); (case N => k_asm); (case U => k_upd); (case e => exact rfl); (case z => assumption)); intro h' F' N'; (try k_sweep))); k_steps)
  exact hret _ _ _ _ (by assumption) (by assumption) ⟨d, t, t', rfl, rfl⟩
end
section -- L3
open PySem PySem.W PyProof.Rows PySem.Calls

noncomputable def Apart (a b : List (Addr × Obj)) : Prop := ∀ p ∈ a, ∀ q ∈ b, p.1 ≠ q.1
/-- what a turn of a loop has to leave behind; the loop's own part of the ledger may grow -/
noncomputable def LpG {σ : Type} (h₀ : Heap) (L : Addr) (s : Shared) (Led : σ → List (Addr × Obj)) (rest : List (Addr × Obj)) (J : σ → (Str → Option Value) → Prop) (Q : Flow → Shared → Prop) (f : Flow) (s₂ : Shared) : Prop :=
  match f with
  | .ret v => Q (.ret v) s₂
  | .brk => Q .next s₂
  | _ => ∃ (st : σ) (h' : Heap) (tk' : Nat) (m' : Str → Option Value), s₂ = { s with heap := h', toks := tk' } ∧ Fr h₀ L h' m' ∧ News h₀ L h' (Led st ++ rest) ∧ Apart (Led st) rest ∧ J st m'
theorem LpG.next {σ : Type} {h₀ : Heap} {L : Addr} {s : Shared} {Led : σ → List (Addr × Obj)} {rest : List (Addr × Obj)} {J : σ → (Str → Option Value) → Prop} {Q : Flow → Shared → Prop} (st : σ) {h' : Heap} {tk' : Nat} {m' : Str → Option Value}
    (F : Fr h₀ L h' m') (N : News h₀ L h' (Led st ++ rest)) (hA : Apart (Led st) rest) (hJ : J st m') : LpG h₀ L s Led rest J Q .next { s with heap := h', toks := tk' } := ⟨st, h', tk', m', rfl, F, N, hA, hJ⟩
theorem LpG.ret {σ : Type} {h₀ : Heap} {L : Addr} {s s₂ : Shared} {Led : σ → List (Addr × Obj)} {rest : List (Addr × Obj)} {J : σ → (Str → Option Value) → Prop} {Q : Flow → Shared → Prop} {v : Value} (h : Q (.ret v) s₂) : LpG h₀ L s Led rest J Q (.ret v) s₂ := h

section
variable {prog : Program} {w : World} {A : Around} {E : Value → Shared → Prop} {s : Shared} {env : Env} {h₀ : Heap} {x : Str} {body : List Stmt} {Q : Flow → Shared → Prop}

theorem loopG {σ : Type} {I : Addr} {fp wr : List Addr} {n : Nat} {P : Nat → Value → Prop} {St : Nat → Heap → Prop} {m₀ : Str → Option Value} (Led : σ → List (Addr × Obj)) (fixed : List (Addr × Obj)) (J : Nat → σ → (Str → Option Value) → Prop) (st₀ : σ)
    (W : Walks prog w A I fp wr n P St) (hlive : ∀ i h, St i h → ∀ b ∈ fp, ∃ o, h.get? b = some o) (hLf : env.locals ∉ fp) (hwr : ∀ b ∈ wr, h₀.get? b = none) (hst : St 0 s.heap)
    (hfp : ∀ p ∈ Led st₀, p.1 ∉ fp) (hfx : ∀ p ∈ fixed, p.1 ∉ wr) (hsep : Apart (Led st₀) fixed)
    (F : Fr h₀ env.locals s.heap m₀) (N : News h₀ env.locals s.heap (Led st₀ ++ fixed)) (hj : J 0 st₀ m₀)
    (turn : ∀ i v st m₁ h tk rest, i < n → P i v → J i st m₁ → Fr h₀ env.locals h (fun y => if y = x then some v else m₁ y) → News h₀ env.locals h (Led st ++ rest) → Apart (Led st) rest → (∀ p ∈ fixed, p ∈ rest) →
      wpAny (model prog w) A (execs body env) (LpG h₀ env.locals { s with heap := h, toks := tk } Led rest (J (i + 1)) Q) E { s with heap := h, toks := tk })
    (done : ∀ st m' h' tk, J n st m' → Fr h₀ env.locals h' m' → News h₀ env.locals h' (Led st ++ fixed) → Apart (Led st) fixed → Q .next { s with heap := h', toks := tk }) :
    LoopAtV prog w A h₀ env x body Q E (.ref I) s := by
  have hoff : ∀ st, (∀ p ∈ Led st, p.1 ∉ fp) → ∀ p ∈ Led st ++ fixed, p.1 ∉ wr := fun st hs p hp => by
    rcases List.mem_append.mp hp with q | q
    · exact fun hb => hs p q (W.sub _ hb)
    · exact hfx p q
  refine ⟨I, fp, wr, n, P, St, m₀, Led st₀ ++ fixed, fun i m₁ news₁ => ∃ st, news₁ = Led st ++ fixed ∧ (∀ p ∈ Led st, p.1 ∉ fp) ∧ Apart (Led st) fixed ∧ J i st m₁, rfl, W, hLf, hwr, hoff st₀ hfp, hst, F, N, ⟨st₀, rfl, hfp, hsep, hj⟩, ?_, ?_⟩
  · rintro i v m₁ news₁ s₁ own ⟨hh', tk', rfl⟩ hin hP ⟨st, rfl, hsf, hsx, hJ⟩ _ hown _ hall hst' F₁ N₁
    refine wpAny_mono (turn i v st m₁ hh' tk' (own ++ fixed) hin hP hJ F₁ (fun p hp => N₁ p ?_) ?_ fun p hp => List.mem_append_right _ hp) (fun f s₂ p => ?_) fun _ _ e => e
    · simp only [List.mem_append] at hp ⊢
      rcases hp with h | h | h
      · exact .inr (.inl h)
      · exact .inl h
      · exact .inr (.inr h)
    · intro p hp q hq e
      rcases List.mem_append.mp hq with q' | q'
      · exact hsf p hp (e ▸ hown q q')
      · exact hsx p hp q q' e
    · have fin : (∃ (st : σ) (h' : Heap) (tk : Nat) (m' : Str → Option Value), s₂ = { s with heap := h', toks := tk } ∧ Fr h₀ env.locals h' m' ∧ News h₀ env.locals h' (Led st ++ (own ++ fixed)) ∧ Apart (Led st) (own ++ fixed) ∧ J (i + 1) st m') →
          LoopStepU h₀ env.locals wr own (fun m₁ news₁ => ∃ st, news₁ = Led st ++ fixed ∧ (∀ p ∈ Led st, p.1 ∉ fp) ∧ Apart (Led st) fixed ∧ J (i + 1) st m₁) { s with heap := hh', toks := tk' } .next s₂ := by
        rintro ⟨st', h', tk, m', e, F', N', hA, hJ'⟩
        have hsf' : ∀ p ∈ Led st', p.1 ∉ fp := fun p hp hb => by
          obtain ⟨o, ho⟩ := hlive _ _ hst' _ hb
          cases hn : h₀.get? p.1 with
          | some o' => have := (N' p (List.mem_append_left _ hp)).2.2; rw [hn] at this; cases this
          | none => exact hA p hp _ (List.mem_append_left _ (hall _ hb hn o ho)) rfl
        refine ⟨rfl, h', tk, m', Led st' ++ fixed, e, F', fun p hp => N' p ?_, hoff st' hsf', st', rfl, hsf', fun p hp q hq => hA p hp q (List.mem_append_right _ hq), hJ'⟩
        simp only [List.mem_append] at hp ⊢
        rcases hp with h | h | h
        · exact .inr (.inl h)
        · exact .inl h
        · exact .inr (.inr h)
      cases f with
      | ret v => exact .ret p
      | brk => exact .brk p
      | next => exact .next (fin p)
      | cont => exact .cont (fin p)
  · rintro h' tk m' news' F' N' _ ⟨st, rfl, _, hsx, hJ⟩
    exact done st m' h' tk hJ F' N' hsx

/-- over range(a, b) -/
theorem rangeG {σ : Type} {r : Addr} {a₀ b₀ : Int} {t₀ u₀ v₀ : Tok} {n : Nat} {m₀ : Str → Option Value} (Led : σ → List (Addr × Obj)) (fixed : List (Addr × Obj)) (J : Nat → σ → (Str → Option Value) → Prop) (st₀ : σ)
    (hh : A.handled = none) (hr : IsRange s.heap r a₀ b₀ 1 t₀ u₀ v₀) (hsmall : Builtin.Range.small a₀ b₀ 1 = true) (hn : Builtin.Range.rangeSize a₀ b₀ 1 = (n : Int)) (hsep : Apart (Led st₀) fixed)
    (F : Fr h₀ env.locals s.heap m₀) (N : News h₀ env.locals s.heap (Led st₀ ++ fixed)) (hj : J 0 st₀ m₀)
    (turn : ∀ i t st m₁ h tk rest, i < n → J i st m₁ → Fr h₀ env.locals h (fun y => if y = x then some (.int (a₀ + (i : Int)) t) else m₁ y) → News h₀ env.locals h (Led st ++ rest) → Apart (Led st) rest → (∀ p ∈ fixed, p ∈ rest) →
      wpAny (model prog w) A (execs body env) (LpG h₀ env.locals { s with heap := h, toks := tk } Led rest (J (i + 1)) Q) E { s with heap := h, toks := tk })
    (done : ∀ st m' h' tk, J n st m' → Fr h₀ env.locals h' m' → News h₀ env.locals h' (Led st ++ fixed) → Apart (Led st) fixed → Q .next { s with heap := h', toks := tk }) :
    wpAny (model prog w) A (pyIter (.ref r)) (fun it s₂ => LoopAtV prog w A h₀ env x body Q E it s₂) E s := by
  refine wpAny_pyIter_range hr hsmall ?_
  have W : Walks prog w A s.heap.objs.size [s.heap.objs.size] [s.heap.objs.size] n (fun i v => i < n ∧ ∃ t, v = .int (a₀ + i * 1) t)
      (fun i h => IsRangeIter h s.heap.objs.size (a₀ + (i : Nat) * 1) ((n : Int) - (i : Nat)) 1) := (Walks.range hh _ a₀ 1 n).bound
  refine loopG Led fixed J st₀ W ?_ ?_ ?_ (by show IsRangeIter _ _ _ _ _; rw [hn]; simpa using Heap.get?_push_size _ rfl) ?_ ?_ hsep (F.push _) (fun p hp => ⟨Heap.get?_push_of_some _ (N p hp).1, (N p hp).2⟩) hj ?_ ?_
  · intro i h hst b hb
    rw [List.mem_singleton.mp hb]
    exact ⟨_, hst⟩
  · intro hm
    exact absurd F.ns.lt ((List.mem_singleton.mp hm) ▸ Nat.lt_irrefl _)
  · intro b hb
    rw [List.mem_singleton.mp hb]
    exact next_is_new F
  · intro p hp hI
    exact absurd (Heap.lt_size (N p (List.mem_append_left _ hp)).1) ((List.mem_singleton.mp hI) ▸ Nat.lt_irrefl _)
  · intro p hp hI
    exact absurd (Heap.lt_size (N p (List.mem_append_right _ hp)).1) ((List.mem_singleton.mp hI) ▸ Nat.lt_irrefl _)
  · rintro i v st m₁ h tk rest hi ⟨_, t, rfl⟩ hJ F' N'
    have e : a₀ + (i : Int) * 1 = a₀ + (i : Int) := by lia
    rw [e] at F'
    exact turn i t st m₁ h tk rest hi hJ F' N'
  · exact done
end
end
section -- G1
open PySem PySem.W PyProof.Rows PySem.Calls

/-- the two tables of codes: as the top left them, or with the inner defs' codes in them -/
inductive TabS where
  | fresh
  | full (c1 : Addr) (oc1 : Obj) (c2 : Addr) (oc2 : Obj)
noncomputable def tabLed : TabS → List (Addr × Obj)
  | .fresh => [(30, tabObj #[]), (37, tabObj #[])]
  | .full c1 oc1 c2 oc2 => [(30, tabF 32 4 c1), (c1, oc1), (37, tabF 47 4 c2), (c2, oc2)]
noncomputable def TabOk : TabS → Prop
  | .fresh => True
  | .full _ oc1 _ oc2 => CodeOf q1 oc1 ∧ CodeOf q2 oc2

theorem idm_any {w : World} {news : List (Addr × Obj)} {ts : TabS} (a b : Int) (t1 t2 : Tok) (hb : 1 ≤ b) (hab : b ≤ a) (ha : a < 64) (ok : TabOk ts) (h30 : ∀ q ∈ news, q.1 ≠ 30) (h37 : ∀ q ∈ news, q.1 ≠ 37) :
   DoesN w 56 10 100 [.int a t1, .int b t2] (tabLed ts ++ news) fun v news' =>
     ∃ (d : Addr) (ts' : TabS) (t t' : Tok), v = .ref d ∧ news' = (d, tup [.int (a.fdiv b) t, .int (a.fmod b) t']) :: (tabLed ts' ++ news) ∧ TabOk ts' := by
  intro p loose mean mg mb dp un gd cn cs af ccd cl outer A₀ base h₀ L m s Q E B F X N T C1 C2 hk hd hu hret
  cases ts with
  | fresh =>
    refine idm_fresh a b t1 t2 hb hab ha h30 h37 p loose mean mg mb dp un gd cn cs af ccd cl outer A₀ base h₀ L m s Q E B F X N T C1 C2 hk hd hu ?_
    rintro v news' h' tk' F' N' ⟨d, c1, c2, oc1, oc2, t, t', rfl, rfl, hc1, hc2⟩
    exact hret _ _ h' tk' F' N' ⟨d, .full c1 oc1 c2 oc2, t, t', rfl, rfl, hc1, hc2⟩
  | full c1 oc1 c2 oc2 =>
    refine idm_hit a b t1 t2 hb hab ha ok.1 ok.2 p loose mean mg mb dp un gd cn cs af ccd cl outer A₀ base h₀ L m s Q E B F X N T C1 C2 hk hd hu ?_
    rintro v news' h' tk' F' N' ⟨d, t, t', rfl, rfl⟩
    exact hret _ _ h' tk' F' N' ⟨d, .full c1 oc1 c2 oc2, t, t', rfl, rfl, ok⟩

structure Sg where
  ah : Int
  be : Int
  ne : Int
  fa : Int
deriving DecidableEq
noncomputable def upS (s : Sg) : Sg := ⟨s.ah + s.be, s.be, s.ne - s.fa, s.fa⟩
noncomputable def dnS (s : Sg) : Sg := ⟨s.ah, s.ah + s.be, s.ne, s.fa - s.ne⟩
noncomputable def repS (f : Sg → Sg) : Nat → Sg × List Sg → Sg × List Sg
  | 0, x => x
  | k + 1, x => (f (repS f k x).1, (repS f k x).2 ++ [f (repS f k x).1])
noncomputable def iterS (x : Sg × List Sg) : Sg × List Sg :=
  if x.1.fa < x.1.ne then repS upS ((x.1.ne - 1).fdiv x.1.fa).toNat x else repS dnS ((x.1.fa - 1).fdiv x.1.ne).toNat x
noncomputable def runS : Nat → Int → Sg × List Sg → Sg × List Sg
  | 0, _, x => x
  | k + 1, many, x => if x.1.ah + x.1.be < many then runS k many (iterS x) else x
noncomputable def okS (x : Sg × List Sg) : Bool :=
  (if x.1.fa < x.1.ne then decide (1 ≤ x.1.fa) && decide (x.1.ne ≤ 64) else decide (1 ≤ x.1.ne) && decide (x.1.ne < x.1.fa) && decide (x.1.fa ≤ 64)) && decide (x.2.length ≤ 64)
noncomputable def checkS : Nat → Int → Sg × List Sg → Bool
  | 0, many, x => decide (many ≤ x.1.ah + x.1.be)
  | k + 1, many, x => if x.1.ah + x.1.be < many then okS x && checkS k many (iterS x) else true

inductive SgsAre : List (Addr × Obj) → List Sg → Prop
  | nil : SgsAre [] []
  | cons (a : Addr) (t1 t2 t3 t4 : Tok) (s : Sg) {D : List (Addr × Obj)} {xs : List Sg} (h : SgsAre D xs) : SgsAre ((a, tup [.int s.ah t1, .int s.be t2, .int s.ne t3, .int s.fa t4]) :: D) (s :: xs)
theorem SgsAre.length : ∀ {D : List (Addr × Obj)} {xs : List Sg}, SgsAre D xs → D.length = xs.length
  | _, _, .nil => rfl
  | _, _, .cons _ _ _ _ _ _ h => by simp [h.length]
theorem SgsAre.snoc {a : Addr} {t1 t2 t3 t4 : Tok} {s : Sg} : ∀ {D : List (Addr × Obj)} {xs : List Sg}, SgsAre D xs → SgsAre (D ++ [(a, tup [.int s.ah t1, .int s.be t2, .int s.ne t3, .int s.fa t4])]) (xs ++ [s])
  | _, _, .nil => .cons a t1 t2 t3 t4 s .nil
  | _, _, .cons a' u1 u2 u3 u4 s' h => .cons a' u1 u2 u3 u4 s' h.snoc
theorem SgsAre.at : ∀ {D : List (Addr × Obj)} {xs : List Sg}, SgsAre D xs → ∀ (i : Nat) (s : Sg), xs[i]? = some s → ∃ a t1 t2 t3 t4, D[i]? = some (a, tup [.int s.ah t1, .int s.be t2, .int s.ne t3, .int s.fa t4])
  | _, _, .nil, i, s, h => by simp at h
  | _, _, .cons a t1 t2 t3 t4 s' h, 0, s, e => by simp at e; subst e; exact ⟨a, t1, t2, t3, t4, rfl⟩
  | _, _, .cons a t1 t2 t3 t4 s' h, i + 1, s, e => by simp at e; simpa using h.at i s e
noncomputable abbrev refsOf (D : List (Addr × Obj)) : List Value := D.map fun p => .ref p.1
end
section -- G2
open PySem PySem.W PyProof.Rows PySem.Calls
theorem idle_G2 : True := by
  w_top off
  trivial
local macro_rules | `(tactic| k_all) => `(tactic| walk_at "s 1")
local macro_rules | `(tactic| k_all) => `(tactic| walk_at "s 2")
local macro_rules | `(tactic| walk_at "call ref") => `(tactic| walk_at "s 3")
local macro_rules | `(tactic| walk_at "pyIter ref") => `(tactic| walk_at "s 3")
local macro_rules | `(tactic| walk_at "exec While Compare cons nil") => `(tactic| walk_at "s 3")
local macro_rules | `(tactic| walk_at "exec For Name Call cons nil") => `(tactic| walk_at "s 7")
local macro_rules | `(tactic| walk_at "call builtin:list.append") => `(tactic| walk_at "s 3")
theorem led_name2 {P : Prop} {h₀ h : Heap} {L a b : Addr} {o o' : Obj} {r : List (Addr × Obj)} (_N : News h₀ L h ((a, o) :: (b, o') :: r)) (k : ∀ a' b', a' = a → b' = b → P) : P := k a b rfl rfl
theorem led_name1 {P : Prop} {h₀ h : Heap} {L a : Addr} {o : Obj} {r : List (Addr × Obj)} (_N : News h₀ L h ((a, o) :: r)) (k : ∀ a' o', a' = a → o' = o → P) : P := k a o rfl rfl
theorem fr_name {P : Prop} {h₀ h : Heap} {L : Addr} {m : Str → Option Value} (_F : Fr h₀ L h m) (k : ∀ m', m' = m → P) : P := k m rfl

theorem fr4 {h₀ h : Heap} {L : Addr} {m₁ m₀ : Str → Option Value} {x y1 y2 y3 y4 : Str} {u1 u2 u3 u4 : Value} (h1 : m₁ y1 = some u1) (h2 : m₁ y2 = some u2) (h3 : m₁ y3 = some u3) (h4 : m₁ y4 = some u4)
    (hm : ∀ t, t ≠ x → t ≠ y1 → t ≠ y2 → t ≠ y3 → t ≠ y4 → m₁ t = m₀ t) (F : Fr h₀ L h m₁) :
    Fr h₀ L h (fun t => if t = y1 then some u1 else if t = y2 then some u2 else if t = y3 then some u3 else if t = y4 then some u4 else if t = x then m₁ t else m₀ t) := by
  refine fr_congr F fun t => ?_
  by_cases e1 : t = y1
  · simp only [if_pos e1]; rw [e1]; exact h1
  by_cases e2 : t = y2
  · simp only [if_neg e1, if_pos e2]; rw [e2]; exact h2
  by_cases e3 : t = y3
  · simp only [if_neg e1, if_neg e2, if_pos e3]; rw [e3]; exact h3
  by_cases e4 : t = y4
  · simp only [if_neg e1, if_neg e2, if_neg e3, if_pos e4]; rw [e4]; exact h4
  by_cases e5 : t = x
  · simp only [if_neg e1, if_neg e2, if_neg e3, if_neg e4, if_pos e5]
  · simp only [if_neg e1, if_neg e2, if_neg e3, if_neg e4, if_neg e5]; exact hm t e5 e1 e2 e3 e4
theorem fr4v {h₀ h : Heap} {L : Addr} {m₁ m₀ : Str → Option Value} {x y1 y2 y3 y4 : Str} {v u1 u2 u3 u4 : Value} (h1 : m₁ y1 = some u1) (h2 : m₁ y2 = some u2) (h3 : m₁ y3 = some u3) (h4 : m₁ y4 = some u4)
    (hm : ∀ t, t ≠ x → t ≠ y1 → t ≠ y2 → t ≠ y3 → t ≠ y4 → m₁ t = m₀ t) (F : Fr h₀ L h (fun t => if t = x then some v else m₁ t)) :
    Fr h₀ L h (fun t => if t = x then some v else if t = y1 then some u1 else if t = y2 then some u2 else if t = y3 then some u3 else if t = y4 then some u4 else m₀ t) := by
  refine fr_congr F fun t => ?_
  by_cases e5 : t = x
  · simp only [if_pos e5]
  by_cases e1 : t = y1
  · simp only [if_neg e5, if_pos e1]; rw [e1]; exact h1
  by_cases e2 : t = y2
  · simp only [if_neg e5, if_neg e1, if_pos e2]; rw [e2]; exact h2
  by_cases e3 : t = y3
  · simp only [if_neg e5, if_neg e1, if_neg e2, if_pos e3]; rw [e3]; exact h3
  by_cases e4 : t = y4
  · simp only [if_neg e5, if_neg e1, if_neg e2, if_neg e3, if_pos e4]; rw [e4]; exact h4
  · simp only [if_neg e1, if_neg e2, if_neg e3, if_neg e4, if_neg e5]; exact hm t e5 e1 e2 e3 e4

/-- the frame of _law_stages holds the stage s -/
noncomputable def Fm4 (m₀ m₁ : Str → Option Value) (s : Sg) : Prop :=
  (∃ t, m₁ (Str.ofString "ahead") = some (.int s.ah t)) ∧ (∃ t, m₁ (Str.ofString "behind") = some (.int s.be t)) ∧ (∃ t, m₁ (Str.ofString "near") = some (.int s.ne t)) ∧ (∃ t, m₁ (Str.ofString "far") = some (.int s.fa t)) ∧
  ∀ t, t ≠ Str.ofString "turn" → t ≠ Str.ofString "ahead" → t ≠ Str.ofString "behind" → t ≠ Str.ofString "near" → t ≠ Str.ofString "far" → m₁ t = m₀ t
theorem runS_stop {x : Sg × List Sg} {many : Int} (h : ¬ x.1.ah + x.1.be < many) : ∀ n, runS n many x = x
  | 0 => rfl
  | n + 1 => by unfold runS; rw [if_neg h]
theorem checkS_go {x : Sg × List Sg} {many : Int} (h : x.1.ah + x.1.be < many) : ∀ {n : Nat}, checkS n many x = true → ∃ k, n = k + 1 ∧ okS x = true ∧ checkS k many (iterS x) = true ∧ runS n many x = runS k many (iterS x)
  | 0, hc => by have := of_decide_eq_true hc; lia
  | k + 1, hc => by
    unfold checkS at hc
    rw [if_pos h, Bool.and_eq_true] at hc
    exact ⟨k, rfl, hc.1, hc.2, by conv => lhs; unfold runS; rw [if_pos h]⟩
theorem repS_len {f : Sg → Sg} {x : Sg × List Sg} : ∀ k, (repS f k x).2.length = x.2.length + k
  | 0 => rfl
  | k + 1 => by show List.length (_ ++ _) = _; rw [List.length_append, repS_len k]; simp; lia
theorem ne_list {h₀ h : Heap} {L sA : Addr} {led : List (Addr × Obj)} {its : Array Value} {ep : Nat} (N : News h₀ L h led) (hs : (sA, listOf its ep) ∈ led) {p : Addr × Obj} (hp : p ∈ led) (ho : p.2 ≠ listOf its ep) : p.1 ≠ sA := fun e => by
  have h1 := (N _ hs).1
  have h2 := (N p hp).1
  rw [e] at h2
  rw [h1] at h2
  exact ho (Option.some.inj h2).symm
theorem sgs_tup {D : List (Addr × Obj)} {xs : List Sg} (h : SgsAre D xs) : ∀ p ∈ D, p.2.cls = .type "tuple" := by
  induction h with
  | nil => exact fun _ h => nomatch h
  | cons a t1 t2 t3 t4 s h ih =>
    intro p hp
    rcases List.mem_cons.mp hp with rfl | hp
    · rfl
    · exact ih p hp
theorem tab_not {ts : TabS} (ok : TabOk ts) : ∀ p ∈ tabLed ts, ∃ vs, p.2.data = .fields vs := by
  cases ts with
  | fresh =>
    intro p hp
    simp only [tabLed, List.mem_cons, List.not_mem_nil, or_false] at hp
    rcases hp with rfl | rfl <;> exact ⟨_, rfl⟩
  | full c1 oc1 c2 oc2 =>
    obtain ⟨⟨f1, _, e1, _⟩, ⟨f2, _, e2, _⟩⟩ := ok
    intro p hp
    simp only [tabLed, List.mem_cons, List.not_mem_nil, or_false] at hp
    rcases hp with rfl | rfl | rfl | rfl
    · exact ⟨_, rfl⟩
    · exact ⟨_, e1⟩
    · exact ⟨_, rfl⟩
    · exact ⟨_, e2⟩

theorem sgs_seq {D : List (Addr × Obj)} {xs : List Sg} (h : SgsAre D xs) : ∀ p ∈ D, ∃ its n, p.2.data = .seq its n := by
  induction h with
  | nil => exact fun _ h => nomatch h
  | cons a t1 t2 t3 t4 s h ih =>
    intro p hp
    rcases List.mem_cons.mp hp with rfl | hp
    · exact ⟨_, _, rfl⟩
    · exact ih p hp
theorem news_ne {h₀ h : Heap} {L : Addr} {led : List (Addr × Obj)} (N : News h₀ L h led) {p q : Addr × Obj} (hp : p ∈ led) (hq : q ∈ led) (ho : p.2 ≠ q.2) : p.1 ≠ q.1 := fun e => by
  have h1 := (N p hp).1
  have h2 := (N q hq).1
  rw [e, h2] at h1
  exact ho (Option.some.inj h1).symm
theorem tab_apart {h₀ h : Heap} {L : Addr} {led : List (Addr × Obj)} {ts : TabS} (N : News h₀ L h led) (ok : TabOk ts) (hts : ∀ q ∈ tabLed ts, q ∈ led) {p : Addr × Obj} (hp : p ∈ led) (hd : ∃ its n, p.2.data = .seq its n) : ∀ q ∈ tabLed ts, p.1 ≠ q.1 := fun q hq =>
  news_ne N hp (hts q hq) fun e => by
    obtain ⟨vs, hv⟩ := tab_not ok q hq
    obtain ⟨its, n, hs⟩ := hd
    rw [e, hv] at hs
    cases hs
theorem tab_has (ts : TabS) : (∃ o, ((30 : Addr), o) ∈ tabLed ts) ∧ ∃ o, ((37 : Addr), o) ∈ tabLed ts := by
  cases ts with
  | fresh => exact ⟨⟨_, .head _⟩, ⟨_, .tail _ (.head _)⟩⟩
  | full c1 oc1 c2 oc2 => exact ⟨⟨_, .head _⟩, ⟨_, .tail _ (.tail _ (.head _))⟩⟩

set_option maxRecDepth 100000 in
set_option maxHeartbeats 8000000 in
theorem stages_call {w : World} {news : List (Addr × Obj)} {ts : TabS} (step wheel many : Int) (t1 t2 t3 : Tok) (x₀ : Sg × List Sg) (hx₀ : x₀ = (⟨1, 1, step, wheel - step⟩, [⟨1, 1, step, wheel - step⟩])) (hchk : checkS 14 many x₀ = true) (ok : TabOk ts) (h30 : ∀ q ∈ news, q.1 ≠ 30) (h37 : ∀ q ∈ news, q.1 ≠ 37) :
   DoesN w 91 12 120 [.int step t1, .int wheel t2, .int many t3] (tabLed ts ++ news) fun v news' =>
     ∃ (sA : Addr) (D : List (Addr × Obj)) (ep : Nat) (ts' : TabS), v = .ref sA ∧ news' = (sA, listOf (refsOf D).toArray ep) :: (D ++ (tabLed ts' ++ news)) ∧ SgsAre D (runS 14 many x₀).2 ∧ TabOk ts' := by
  unfold DoesN
  k_fill
  intro p loose mean mg mb dp un gd cn cs af ccd cl outer A₀ base h₀ L m s Q E B F X N T C1 C2 hk hd hu hret
  refine wpAny_call ?_
  k_dflt cell_enter
  k_steps
  all_goals repeat' (unfold Halt; ((k_here; (with_reducible show wpAny _ _ (call (Value.builtin _) [Value.ref _, _]) _ _ _); k_dflt (refine' append_K ?k1 ?k2 ?k3 ?_ ?z; (case k1 => k_asm); (case k2 => k_asm); (case k3 => k_upd); (case z => assumption); k_whole); intro h' F' N'; (try k_sweep))); k_steps)
  unfold Halt
  refine led_name2 (by k_asm) ?_
  intro sA d0 e1 e2
  subst e1 e2
  refine fr_name (by k_asm) ?_
  intro m₀ hm₀
  rename (_ ∧ _ ∧ _ ∧ AllLt sA _) => hlt
  rename (_ ∧ _ ∧ AllLt d0 _) => hlt0
  have hsn : ∀ q ∈ tabLed ts ++ news, q.1 < sA := kst_ltOf hlt.2.2.2
  have hdn : ∀ q ∈ tabLed ts ++ news, q.1 < d0 := kst_ltOf hlt0.2.2
  have hsA : ∀ q ∈ news, q.1 ≠ sA := fun q hq => Nat.ne_of_lt (hsn q (List.mem_append_right _ hq))
  refine While_inv (n₀ := 14) (fun n m led => ∃ (x : Sg × List Sg) (D : List (Addr × Obj)) (ep : Nat) (ts' : TabS), led = (sA, listOf (refsOf D).toArray ep) :: (D ++ (tabLed ts' ++ news)) ∧ SgsAre D x.2 ∧ TabOk ts' ∧ Apart D news ∧ checkS n many x = true ∧ runS n many x = runS 14 many x₀ ∧ Fm4 m₀ m x.1) (by k_asm) (show News _ _ _ ((sA, listOf #[.ref d0] 0) :: (d0, _) :: (tabLed ts ++ news)) from cb_drop (by k_asm) (by walk_at "my sub")) ?_ ?_
  · subst hx₀
    refine ⟨_, [(d0, _)], 0, ts, rfl, .cons d0 _ _ _ _ ⟨1, 1, step, wheel - step⟩ .nil, ok, ?_, hchk, rfl, ?_⟩
    · intro p hp q hq
      rw [List.mem_singleton.mp hp]
      exact Nat.ne_of_gt (hdn q (List.mem_append_right _ hq))
    · exact ⟨⟨_, rfl⟩, ⟨_, rfl⟩, ⟨_, rfl⟩, ⟨_, rfl⟩, fun z _ _ _ _ _ => by rw [hm₀]⟩
  rintro n m₁ led h₁ tk₁ F₁ N₁ ⟨x, D, ep, ts', rfl, hS, hok, hA, hc, hr, ⟨ta, e1⟩, ⟨tb, e2⟩, ⟨tc, e3⟩, ⟨td, e4⟩, hm⟩
  have F2 := fr4 e1 e2 e3 e4 hm F₁
  simp only [hm₀] at F2
  clear F₁ e1 e2 e3 e4
  show PySem.wpAny _ _ _ _ _ _
  k_fold
  k_steps
  all_goals repeat' (unfold Halt; ((k_here; (with_reducible show wpAny _ _ (call (Value.builtin _) [Value.ref _, _]) _ _ _); k_dflt (refine' append_K ?k1 ?k2 ?k3 ?_ ?z; (case k1 => k_asm); (case k2 => k_asm); (case k3 => k_upd); (case z => assumption); k_whole); intro h' F' N'; (try k_sweep))); k_steps)
  · rename (x.1.ah + x.1.be < many) => hw
    rename (x.1.fa < x.1.ne) => hgt
    obtain ⟨k, rfl, hok1, hck, hrk⟩ := checkS_go hw hc
    have hcond := hok1; simp only [okS, if_pos hgt, Bool.and_eq_true, decide_eq_true_eq] at hcond
    have hb1 : 1 ≤ x.1.fa := hcond.1.1
    have hb2 : x.1.fa ≤ x.1.ne - 1 := by lia
    have hb3 : x.1.ne - 1 < 64 := by lia
    have hq0 : 0 ≤ (x.1.ne - 1).fdiv x.1.fa := Int.fdiv_nonneg (by lia) (by lia)
    have hq1 : (x.1.ne - 1).fdiv x.1.fa < 64 := by
      rw [Int.fdiv_eq_ediv_of_nonneg _ (by lia)]
      have := Int.ediv_le_self x.1.fa (show 0 ≤ x.1.ne - 1 by lia)
      omega
    have hsp : ∀ q ∈ (sA, listOf (refsOf D).toArray ep) :: D, ∀ r ∈ tabLed ts', q.1 ≠ r.1 := by
      intro q hq r hr
      rcases List.mem_cons.mp hq with rfl | hq
      · exact tab_apart N₁ hok (fun z hz => by simp [hz]) (.head _) ⟨_, _, rfl⟩ r hr
      · exact tab_apart N₁ hok (fun z hz => by simp [hz]) (List.mem_cons_of_mem _ (List.mem_append_left _ hq)) (sgs_seq hS q hq) r hr
    unfold Halt
    refine DoesN.use (idm_any (ts := ts') (news := (sA, listOf (refsOf D).toArray ep) :: (D ++ news)) (x.1.ne - 1) x.1.fa _ _ hb1 hb2 hb3 hok ?_ ?_) (by k_asm) (by k_asm) (by k_asm) (fun p hp => N₁ p (by simp only [List.mem_cons, List.mem_append] at hp ⊢; rcases hp with h | h | h | h <;> simp [h])) (by k_asm) C1 C2 rfl ?_ ?_ ?_
    · obtain ⟨o, ho⟩ := (tab_has ts').1
      intro q hq
      rcases List.mem_cons.mp hq with rfl | hq
      · exact hsp _ (.head _) _ ho
      · rcases List.mem_append.mp hq with hq | hq
        · exact hsp q (.tail _ hq) _ ho
        · exact h30 q hq
    · obtain ⟨o, ho⟩ := (tab_has ts').2
      intro q hq
      rcases List.mem_cons.mp hq with rfl | hq
      · exact hsp _ (.head _) _ ho
      · rcases List.mem_append.mp hq with hq | hq
        · exact hsp q (.tail _ hq) _ ho
        · exact h37 q hq
    · show dp + 1 + 10 < recursionLimit; exact lt_room (k := 11) hd (by decide)
    · show un + 3 + 100 < cLine; exact lt_room (k := 103) hu (by decide)
    rintro v5 news5 hh5 tkk5 FF5 NN5 ⟨d5, ts5, u5, u5', rfl, rfl, hok5⟩
    clear N₁
    have hsp5 : ∀ q ∈ (sA, listOf (refsOf D).toArray ep) :: D, ∀ r ∈ tabLed ts5, q.1 ≠ r.1 := by
      intro q hq r hr
      rcases List.mem_cons.mp hq with rfl | hq
      · exact tab_apart NN5 hok5 (fun z hz => by simp [hz]) (by simp) ⟨_, _, rfl⟩ r hr
      · exact tab_apart NN5 hok5 (fun z hz => by simp [hz]) (by simp [hq]) (sgs_seq hS q hq) r hr
    k_steps
    all_goals repeat' (unfold Halt; ((k_here; (with_reducible show wpAny _ _ (call (Value.builtin _) [Value.ref _, _]) _ _ _); k_dflt (refine' append_K ?k1 ?k2 ?k3 ?_ ?z; (case k1 => k_asm); (case k2 => k_asm); (case k3 => k_upd); (case z => assumption); k_whole); intro h' F' N'; (try k_sweep))); k_steps)
    unfold Halt
    rename (∀ (b : Addr) (o : Obj), _ → Heap.get? _ b = some o) => hkp
    refine rangeG (σ := List (Addr × Obj) × Nat) (n := ((x.1.ne - 1).fdiv x.1.fa).toNat) (fun st => (sA, listOf (refsOf st.1).toArray st.2) :: st.1) (tabLed ts5 ++ news) (fun i st m₁ => SgsAre st.1 (repS upS i x).2 ∧ Apart st.1 news ∧ Fm4 m₀ m₁ (repS upS i x).1) (D, ep) rfl (by assumption) (small_one (by lia) (by lia) (by omega) (by omega)) (by rw [rangeSize_nat]; simp) ?_ (by k_asm) (fun p hp => (by assumption : News _ _ _ _) p (by simp only [List.mem_cons, List.mem_append] at hp ⊢; rcases hp with (h | h) | h | h <;> simp [h])) ⟨hS, hA, ?_⟩ ?_ ?_
    · intro p hp q hq
      rcases List.mem_append.mp hq with hq | hq
      · exact hsp5 p hp q hq
      · rcases List.mem_cons.mp hp with rfl | hp
        · exact fun e => hsA q hq e.symm
        · exact hA p hp q hq
    · exact ⟨⟨_, rfl⟩, ⟨_, rfl⟩, ⟨_, rfl⟩, ⟨_, rfl⟩, fun z z1 z2 z3 z4 z5 => by simp only [hm₀, if_neg z1, if_neg z2, if_neg z3, if_neg z4, if_neg z5]⟩
    · rintro i t ⟨D', ep'⟩ m₂ h tk rest hi ⟨hS', hA', ⟨ta1, e1⟩, ⟨tb1, e2⟩, ⟨tc1, e3⟩, ⟨td1, e4⟩, hm'⟩ FF NN hap hfx
      have F3 := fr4v e1 e2 e3 e4 hm' FF
      simp only [hm₀] at F3
      simp only [List.cons_append] at NN
      have hne : ∀ p ∈ D' ++ rest, p.1 ≠ sA := by
        intro p hp
        rcases List.mem_append.mp hp with hp' | hp'
        · exact ne_list NN (.head _) (.tail _ hp) (fun e => by have := sgs_tup hS' p hp'; rw [e] at this; exact absurd (Value.type.inj this) (by decide))
        · exact fun e => hap _ (.head _) p hp' e.symm
      have hsz : (refsOf D').toArray.size ≤ sizeLine := by
        rw [List.size_toArray, List.length_map, hS'.length, repS_len, sizeLine_eq]
        have := hcond.2
        omega
      clear FF e1 e2 e3 e4
      show PySem.wpAny _ _ _ _ _ _
      k_fold
      k_steps
      all_goals repeat' (unfold Halt; ((k_here; (with_reducible show wpAny _ _ (call (Value.builtin _) [Value.ref _, _]) _ _ _); k_dflt (refine' append_K ?k1 ?k2 ?k3 ?_ ?z; (case k1 => k_asm); (case k2 => k_asm); (case k3 => k_upd); (case z => assumption); k_whole); intro h' F' N'; (try k_sweep))); k_steps)
      rename News _ _ _ _ => NZ
      refine led_name1 NZ ?_
      intro dn oN e1 e2
      subst e1
      rw [← e2] at NZ
      rename (_ ∧ _ ∧ AllLt dn _) => hl
      have hN := cb_drop NZ (List.forall_mem_cons.mpr ⟨.tail _ (.tail _ (.head _)), List.forall_mem_cons.mpr ⟨.head _, fun _ h => .tail _ (.tail _ (.tail _ h))⟩⟩)
      have hrf : (refsOf (D' ++ [(dn, oN)])).toArray = (refsOf D').toArray.push (.ref dn) := by simp [refsOf]
      refine LpG.next (D' ++ [(dn, oN)], ep' + 1) (by assumption) (fun p hp => hN p ?_) ?_ ⟨?_, ?_, ?_⟩
      · rw [hrf] at hp
        simp only [List.mem_cons, List.mem_append, List.not_mem_nil, or_false] at hp ⊢
        rcases hp with (h | h | h) | h <;> simp [h]
      · intro p hp q hq
        rcases List.mem_cons.mp hp with rfl | hp
        · exact hap _ (.head _) q hq
        · rcases List.mem_append.mp hp with hp | hp
          · exact hap p (.tail _ hp) q hq
          · rw [List.mem_singleton.mp hp]
            exact Nat.ne_of_gt (kst_ltOf hl.2.2 q (List.mem_append_right _ hq))
      · rw [e2]; exact hS'.snoc (s := upS (repS upS i x).1)
      · intro p hp q hq
        rcases List.mem_append.mp hp with hp | hp
        · exact hA' p hp q hq
        · rw [List.mem_singleton.mp hp]
          exact Nat.ne_of_gt (kst_ltOf hl.2.2 q (List.mem_append_right _ (hfx q (List.mem_append_right _ hq))))
      · exact ⟨⟨_, rfl⟩, ⟨_, rfl⟩, ⟨_, rfl⟩, ⟨_, rfl⟩, fun z z1 z2 z3 z4 z5 => by simp only [hm₀, if_neg z1, if_neg z2, if_neg z3, if_neg z4, if_neg z5]⟩
    · rintro ⟨D', ep'⟩ m₂ h tk ⟨hS', hA', hFm⟩ FF NN hap
      simp only [List.cons_append] at NN
      k_steps
      all_goals repeat' (unfold Halt; ((k_here; (with_reducible show wpAny _ _ (call (Value.builtin _) [Value.ref _, _]) _ _ _); k_dflt (refine' append_K ?k1 ?k2 ?k3 ?_ ?z; (case k1 => k_asm); (case k2 => k_asm); (case k3 => k_upd); (case z => assumption); k_whole); intro h' F' N'; (try k_sweep))); k_steps)
      have hit : iterS x = repS upS ((x.1.ne - 1).fdiv x.1.fa).toNat x := by unfold iterS; rw [if_pos hgt]
      refine WhileStep.intro FF NN (Nat.lt_succ_self k) ⟨iterS x, D', ep', ts5, rfl, by rw [hit]; exact hS', hok5, hA', hck, hrk.symm.trans hr, by rw [hit]; exact hFm⟩
  · rename (x.1.ah + x.1.be < many) => hw
    rename (¬ x.1.fa < x.1.ne) => hgt
    obtain ⟨k, rfl, hok1, hck, hrk⟩ := checkS_go hw hc
    have hcond := hok1; simp only [okS, if_neg hgt, Bool.and_eq_true, decide_eq_true_eq] at hcond
    have hb1 : 1 ≤ x.1.ne := hcond.1.1.1
    have hb2 : x.1.ne ≤ x.1.fa - 1 := by omega
    have hb3 : x.1.fa - 1 < 64 := by omega
    have hq0 : 0 ≤ (x.1.fa - 1).fdiv x.1.ne := Int.fdiv_nonneg (by lia) (by lia)
    have hq1 : (x.1.fa - 1).fdiv x.1.ne < 64 := by
      rw [Int.fdiv_eq_ediv_of_nonneg _ (by lia)]
      have := Int.ediv_le_self x.1.ne (show 0 ≤ x.1.fa - 1 by lia)
      omega
    have hsp : ∀ q ∈ (sA, listOf (refsOf D).toArray ep) :: D, ∀ r ∈ tabLed ts', q.1 ≠ r.1 := by
      intro q hq r hr
      rcases List.mem_cons.mp hq with rfl | hq
      · exact tab_apart N₁ hok (fun z hz => by simp [hz]) (.head _) ⟨_, _, rfl⟩ r hr
      · exact tab_apart N₁ hok (fun z hz => by simp [hz]) (List.mem_cons_of_mem _ (List.mem_append_left _ hq)) (sgs_seq hS q hq) r hr
    unfold Halt
    refine DoesN.use (idm_any (ts := ts') (news := (sA, listOf (refsOf D).toArray ep) :: (D ++ news)) (x.1.fa - 1) x.1.ne _ _ hb1 hb2 hb3 hok ?_ ?_) (by k_asm) (by k_asm) (by k_asm) (fun p hp => N₁ p (by simp only [List.mem_cons, List.mem_append] at hp ⊢; rcases hp with h | h | h | h <;> simp [h])) (by k_asm) C1 C2 rfl ?_ ?_ ?_
    · obtain ⟨o, ho⟩ := (tab_has ts').1
      intro q hq
      rcases List.mem_cons.mp hq with rfl | hq
      · exact hsp _ (.head _) _ ho
      · rcases List.mem_append.mp hq with hq | hq
        · exact hsp q (.tail _ hq) _ ho
        · exact h30 q hq
    · obtain ⟨o, ho⟩ := (tab_has ts').2
      intro q hq
      rcases List.mem_cons.mp hq with rfl | hq
      · exact hsp _ (.head _) _ ho
      · rcases List.mem_append.mp hq with hq | hq
        · exact hsp q (.tail _ hq) _ ho
        · exact h37 q hq
    · show dp + 1 + 10 < recursionLimit; exact lt_room (k := 11) hd (by decide)
    · show un + 3 + 100 < cLine; exact lt_room (k := 103) hu (by decide)
    rintro v5 news5 hh5 tkk5 FF5 NN5 ⟨d5, ts5, u5, u5', rfl, rfl, hok5⟩
    clear N₁
    have hsp5 : ∀ q ∈ (sA, listOf (refsOf D).toArray ep) :: D, ∀ r ∈ tabLed ts5, q.1 ≠ r.1 := by
      intro q hq r hr
      rcases List.mem_cons.mp hq with rfl | hq
      · exact tab_apart NN5 hok5 (fun z hz => by simp [hz]) (by simp) ⟨_, _, rfl⟩ r hr
      · exact tab_apart NN5 hok5 (fun z hz => by simp [hz]) (by simp [hq]) (sgs_seq hS q hq) r hr
    k_steps
    all_goals repeat' (unfold Halt; ((k_here; (with_reducible show wpAny _ _ (call (Value.builtin _) [Value.ref _, _]) _ _ _); k_dflt (refine' append_K ?k1 ?k2 ?k3 ?_ ?z; (case k1 => k_asm); (case k2 => k_asm); (case k3 => k_upd); (case z => assumption); k_whole); intro h' F' N'; (try k_sweep))); k_steps)
    unfold Halt
    rename (∀ (b : Addr) (o : Obj), _ → Heap.get? _ b = some o) => hkp
    refine rangeG (σ := List (Addr × Obj) × Nat) (n := ((x.1.fa - 1).fdiv x.1.ne).toNat) (fun st => (sA, listOf (refsOf st.1).toArray st.2) :: st.1) (tabLed ts5 ++ news) (fun i st m₁ => SgsAre st.1 (repS dnS i x).2 ∧ Apart st.1 news ∧ Fm4 m₀ m₁ (repS dnS i x).1) (D, ep) rfl (by assumption) (small_one (by lia) (by lia) (by omega) (by omega)) (by rw [rangeSize_nat]; simp) ?_ (by k_asm) (fun p hp => (by assumption : News _ _ _ _) p (by simp only [List.mem_cons, List.mem_append] at hp ⊢; rcases hp with (h | h) | h | h <;> simp [h])) ⟨hS, hA, ?_⟩ ?_ ?_
    · intro p hp q hq
      rcases List.mem_append.mp hq with hq | hq
      · exact hsp5 p hp q hq
      · rcases List.mem_cons.mp hp with rfl | hp
        · exact fun e => hsA q hq e.symm
        · exact hA p hp q hq
    · exact ⟨⟨_, rfl⟩, ⟨_, rfl⟩, ⟨_, rfl⟩, ⟨_, rfl⟩, fun z z1 z2 z3 z4 z5 => by simp only [hm₀, if_neg z1, if_neg z2, if_neg z3, if_neg z4, if_neg z5]⟩
    · rintro i t ⟨D', ep'⟩ m₂ h tk rest hi ⟨hS', hA', ⟨ta1, e1⟩, ⟨tb1, e2⟩, ⟨tc1, e3⟩, ⟨td1, e4⟩, hm'⟩ FF NN hap hfx
      have F3 := fr4v e1 e2 e3 e4 hm' FF
      simp only [hm₀] at F3
      simp only [List.cons_append] at NN
      have hne : ∀ p ∈ D' ++ rest, p.1 ≠ sA := by
        intro p hp
        rcases List.mem_append.mp hp with hp' | hp'
        · exact ne_list NN (.head _) (.tail _ hp) (fun e => by have := sgs_tup hS' p hp'; rw [e] at this; exact absurd (Value.type.inj this) (by decide))
        · exact fun e => hap _ (.head _) p hp' e.symm
      have hsz : (refsOf D').toArray.size ≤ sizeLine := by
        rw [List.size_toArray, List.length_map, hS'.length, repS_len, sizeLine_eq]
        have := hcond.2
        omega
      clear FF e1 e2 e3 e4
      show PySem.wpAny _ _ _ _ _ _
      k_fold
      k_steps
      all_goals repeat' (unfold Halt; ((k_here; (with_reducible show wpAny _ _ (call (Value.builtin _) [Value.ref _, _]) _ _ _); k_dflt (refine' append_K ?k1 ?k2 ?k3 ?_ ?z; (case k1 => k_asm); (case k2 => k_asm); (case k3 => k_upd); (case z => assumption); k_whole); intro h' F' N'; (try k_sweep))); k_steps)
      rename News _ _ _ _ => NZ
      refine led_name1 NZ ?_
      intro dn oN e1 e2
      subst e1
      rw [← e2] at NZ
      rename (_ ∧ _ ∧ AllLt dn _) => hl
      have hN := cb_drop NZ (List.forall_mem_cons.mpr ⟨.tail _ (.tail _ (.head _)), List.forall_mem_cons.mpr ⟨.head _, fun _ h => .tail _ (.tail _ (.tail _ h))⟩⟩)
      have hrf : (refsOf (D' ++ [(dn, oN)])).toArray = (refsOf D').toArray.push (.ref dn) := by simp [refsOf]
      refine LpG.next (D' ++ [(dn, oN)], ep' + 1) (by assumption) (fun p hp => hN p ?_) ?_ ⟨?_, ?_, ?_⟩
      · rw [hrf] at hp
        simp only [List.mem_cons, List.mem_append, List.not_mem_nil, or_false] at hp ⊢
        rcases hp with (h | h | h) | h <;> simp [h]
      · intro p hp q hq
        rcases List.mem_cons.mp hp with rfl | hp
        · exact hap _ (.head _) q hq
        · rcases List.mem_append.mp hp with hp | hp
          · exact hap p (.tail _ hp) q hq
          · rw [List.mem_singleton.mp hp]
            exact Nat.ne_of_gt (kst_ltOf hl.2.2 q (List.mem_append_right _ hq))
      · rw [e2]; exact hS'.snoc (s := dnS (repS dnS i x).1)
      · intro p hp q hq
        rcases List.mem_append.mp hp with hp | hp
        · exact hA' p hp q hq
        · rw [List.mem_singleton.mp hp]
          exact Nat.ne_of_gt (kst_ltOf hl.2.2 q (List.mem_append_right _ (hfx q (List.mem_append_right _ hq))))
      · exact ⟨⟨_, rfl⟩, ⟨_, rfl⟩, ⟨_, rfl⟩, ⟨_, rfl⟩, fun z z1 z2 z3 z4 z5 => by simp only [hm₀, if_neg z1, if_neg z2, if_neg z3, if_neg z4, if_neg z5]⟩
    · rintro ⟨D', ep'⟩ m₂ h tk ⟨hS', hA', hFm⟩ FF NN hap
      simp only [List.cons_append] at NN
      k_steps
      all_goals repeat' (unfold Halt; ((k_here; (with_reducible show wpAny _ _ (call (Value.builtin _) [Value.ref _, _]) _ _ _); k_dflt (refine' append_K ?k1 ?k2 ?k3 ?_ ?z; (case k1 => k_asm); (case k2 => k_asm); (case k3 => k_upd); (case z => assumption); k_whole); intro h' F' N'; (try k_sweep))); k_steps)
      have hit : iterS x = repS dnS ((x.1.fa - 1).fdiv x.1.ne).toNat x := by unfold iterS; rw [if_neg hgt]
      refine WhileStep.intro FF NN (Nat.lt_succ_self k) ⟨iterS x, D', ep', ts5, rfl, by rw [hit]; exact hS', hok5, hA', hck, hrk.symm.trans hr, by rw [hit]; exact hFm⟩
  · rename (¬ (x.1.ah + x.1.be < many)) => hw
    rw [runS_stop hw] at hr
    exact hret _ _ _ _ (by assumption) (by assumption) ⟨sA, D, ep, ts', rfl, rfl, by rw [← hr]; exact hS, hok⟩
end
section -- G3
open PySem PySem.W PyProof.Rows PySem.Calls
theorem idle_G3 : True := by
  w_top off
  trivial
noncomputable def nextF (k n : Int) (s : Sg) : Int × Int := if k + s.ah ≤ n then (k + s.ah, s.ne) else if s.be ≤ k then (k - s.be, s.fa) else (k + s.ah - s.be, s.ne + s.fa)

set_option maxRecDepth 100000 in
set_option maxHeartbeats 8000000 in
theorem next_call {w : World} {news : List (Addr × Obj)} (k n : Int) (x : Sg) (st : Addr) (tk tn t1 t2 t3 t4 : Tok) :
   Does w 98 1 8 [.int k tk, .int n tn, .ref st] ((st, tup [.int x.ah t1, .int x.be t2, .int x.ne t3, .int x.fa t4]) :: news) fun v news' =>
     Tup2I ((st, tup [.int x.ah t1, .int x.be t2, .int x.ne t3, .int x.fa t4]) :: news) v news' (nextF k n x).1 (nextF k n x).2 := by
  unfold Does
  k_fill
  intro p loose mean mg mb dp un gd cn cs a ccd cl outer A₀ base h₀ L m s Q E B F X N T hk hd hu hret
  refine wpAny_call ?_
  k_dflt cell_enter
  k_steps
  · rename (k + x.ah ≤ n) => hc
    have e : nextF k n x = (k + x.ah, x.ne) := by unfold nextF; rw [if_pos hc]
    rw [e] at hret
    exact hret _ _ _ _ (by assumption) (by assumption) ⟨_, _, _, rfl, rfl, by simp only [AllLt] at *; assumption⟩
  · rename (¬ (k + x.ah ≤ n)) => hc
    rename (x.be ≤ k) => hd
    have e : nextF k n x = (k - x.be, x.fa) := by unfold nextF; rw [if_neg hc, if_pos hd]
    rw [e] at hret
    exact hret _ _ _ _ (by assumption) (by assumption) ⟨_, _, _, rfl, rfl, by simp only [AllLt] at *; assumption⟩
  · rename (¬ (k + x.ah ≤ n)) => hc
    rename (¬ (x.be ≤ k)) => hd
    have e : nextF k n x = (k + x.ah - x.be, x.ne + x.fa) := by unfold nextF; rw [if_neg hc, if_neg hd]
    rw [e] at hret
    exact hret _ _ _ _ (by assumption) (by assumption) ⟨_, _, _, rfl, rfl, by simp only [AllLt] at *; assumption⟩
end
section -- H1
open PySem PySem.W PyProof.Rows PySem.Calls
noncomputable def lawB : List Stmt := bodyOf (topAt 18)
set_option maxRecDepth 100000 in
noncomputable abbrev ls : { b : Scope // scopeOf (topAt 18) = b } := by
  refine ⟨?b, ?h⟩
  case h =>
    conv =>
      lhs
      whnf
      dsimp only
set_option maxRecDepth 100000 in
noncomputable abbrev lb0 : { b : Stmt // stmtAt (bodyOf (topAt 18)) 0 = b } := by
  refine ⟨?b, ?h⟩
  case h => conv => lhs; whnf
set_option maxRecDepth 100000 in
noncomputable abbrev lb1 : { b : Stmt // stmtAt (bodyOf (topAt 18)) 1 = b } := by
  refine ⟨?b, ?h⟩
  case h => conv => lhs; whnf
set_option maxRecDepth 100000 in
noncomputable abbrev lb2 : { b : Stmt // stmtAt (bodyOf (topAt 18)) 2 = b } := by
  refine ⟨?b, ?h⟩
  case h => conv => lhs; whnf
set_option maxRecDepth 100000 in
noncomputable abbrev lb3 : { b : Stmt // stmtAt (bodyOf (topAt 18)) 3 = b } := by
  refine ⟨?b, ?h⟩
  case h => conv => lhs; whnf
set_option maxRecDepth 100000 in
noncomputable abbrev lb4 : { b : Stmt // stmtAt (bodyOf (topAt 18)) 4 = b } := by
  refine ⟨?b, ?h⟩
  case h => conv => lhs; whnf
set_option maxRecDepth 100000 in
noncomputable abbrev lb5 : { b : Stmt // stmtAt (bodyOf (topAt 18)) 5 = b } := by
  refine ⟨?b, ?h⟩
  case h => conv => lhs; whnf
set_option maxRecDepth 100000 in
noncomputable abbrev lb6 : { b : Stmt // stmtAt (bodyOf (topAt 18)) 6 = b } := by
  refine ⟨?b, ?h⟩
  case h => conv => lhs; whnf
set_option maxRecDepth 100000 in
noncomputable abbrev lb7 : { b : Stmt // stmtAt (bodyOf (topAt 18)) 7 = b } := by
  refine ⟨?b, ?h⟩
  case h => conv => lhs; whnf
set_option maxRecDepth 100000 in
noncomputable abbrev lb8 : { b : Stmt // stmtAt (bodyOf (topAt 18)) 8 = b } := by
  refine ⟨?b, ?h⟩
  case h => conv => lhs; whnf
set_option maxRecDepth 100000 in
noncomputable abbrev lb9 : { b : Stmt // stmtAt (bodyOf (topAt 18)) 9 = b } := by
  refine ⟨?b, ?h⟩
  case h => conv => lhs; whnf
set_option maxRecDepth 100000 in
noncomputable abbrev lb10 : { b : Stmt // stmtAt (bodyOf (topAt 18)) 10 = b } := by
  refine ⟨?b, ?h⟩
  case h => conv => lhs; whnf
set_option maxRecDepth 100000 in
noncomputable abbrev lb11 : { b : Stmt // stmtAt (bodyOf (topAt 18)) 11 = b } := by
  refine ⟨?b, ?h⟩
  case h => conv => lhs; whnf
set_option maxRecDepth 100000 in
noncomputable abbrev lb12 : { b : Stmt // stmtAt (bodyOf (topAt 18)) 12 = b } := by
  refine ⟨?b, ?h⟩
  case h => conv => lhs; whnf
set_option maxRecDepth 100000 in
noncomputable abbrev lb13 : { b : Stmt // stmtAt (bodyOf (topAt 18)) 13 = b } := by
  refine ⟨?b, ?h⟩
  case h => conv => lhs; whnf

/-- what a piece of law's body does, from a frame that Pre holds of and a ledger led -/
noncomputable def Runs (w : World) (room units : Nat) (cl : List (Str × Addr)) (body : List Stmt) (Pre : Heap → (Str → Option Value) → Prop) (led : List (Addr × Obj)) (Post : Flow → (Str → Option Value) → List (Addr × Obj) → Prop) : Prop :=
  ∀ (p : Program) (loose : List Str) (mean : ExcName → Option Value) (mg mb : Str → Option Value)
   (dp un : Nat) (gd : Option (List Code)) (cn : Str) (a : Addr) (ccd : Value) (outer : List Env) (A₀ : Around) (base h₀ : Heap) (L : Addr) (m : Str → Option Value) (s : Shared) (Q : Flow → Shared → Prop),
   Below A₀ base outer h₀ → Fr h₀ L s.heap m → (hd.heap_39 w.params).In h₀ → News h₀ L s.heap led → Top p loose mean mg mb h₀ → CodeHd base 34 30 → CodeHd base 41 37 →
   dp + room < recursionLimit → un + units < cLine → Pre h₀ m →
   (∀ (f : Flow) (m' : Str → Option Value) (led' : List (Addr × Obj)) (h' : Heap) (tk' : Nat), Fr h₀ L h' m' → News h₀ L h' led' → Post f m' led' → Q f { s with heap := h', toks := tk' }) →
   wpAny (model PySem.Challenge.rw_pe0224_01.row.prog w) (ktrTop dp un gd cn ls.1 L a ccd cl outer) (execs body (envX cn ls.1 L a ccd cl)) Q (fun _ _ => False) s
theorem fr_pin {h₀ h : Heap} {L : Addr} {m : Str → Option Value} {y : Str} {u : Value} (hy : m y = some u) (F : Fr h₀ L h m) : Fr h₀ L h (fun t => if t = y then some u else m t) :=
  fr_congr F fun t => by
    by_cases e : t = y
    · simp only [if_pos e]; rw [e]; exact hy
    · simp only [if_neg e]
theorem fr_put {h₀ h : Heap} {L : Addr} {m : Str → Option Value} (F : Fr h₀ L h m) (y : Str) {u : Value} (hy : m y = some u) : Fr h₀ L h (fun t => if t = y then some u else m t) := fr_pin hy F
end
section -- H2
open PySem PySem.W PyProof.Rows PySem.Calls
theorem idle_H2 : True := by
  w_top off
  trivial
structure Par (W st fi sh le ma : Int) : Prop where
  w : W = 16 ∨ W = 32 ∨ W = 64
  s0 : 0 < st
  s1 : st < W
  odd : st % 2 = 1
  f0 : 0 ≤ fi
  f1 : fi < 2 * W
  h0 : 1 ≤ sh
  h1 : sh ≤ 8
  l0 : 1 ≤ le
  l1 : le ≤ 8
  m0 : 6 ≤ ma
  m1 : ma ≤ 12
/-- the frame holds the six numbers -/
noncomputable def FrP (m : Str → Option Value) (W st fi sh le ma : Int) : Prop :=
  (∃ t, m (Str.ofString "wheel") = some (.int W t)) ∧ (∃ t, m (Str.ofString "step") = some (.int st t)) ∧ (∃ t, m (Str.ofString "first") = some (.int fi t)) ∧
  (∃ t, m (Str.ofString "share") = some (.int sh t)) ∧ (∃ t, m (Str.ofString "level") = some (.int le t)) ∧ ∃ t, m (Str.ofString "many") = some (.int ma t)

theorem frP {m : Str → Option Value} {W st fi sh le ma : Int} {t1 t2 t3 t4 t5 t6 : Tok} (h1 : m (Str.ofString "wheel") = some (.int W t1)) (h2 : m (Str.ofString "step") = some (.int st t2)) (h3 : m (Str.ofString "first") = some (.int fi t3))
    (h4 : m (Str.ofString "share") = some (.int sh t4)) (h5 : m (Str.ofString "level") = some (.int le t5)) (h6 : m (Str.ofString "many") = some (.int ma t6)) : FrP m W st fi sh le ma := ⟨⟨_, h1⟩, ⟨_, h2⟩, ⟨_, h3⟩, ⟨_, h4⟩, ⟨_, h5⟩, ⟨_, h6⟩⟩
theorem seg1_post {f : Flow} {m' : Str → Option Value} {led' news : List (Addr × Obj)} {W st fi sh le ma : Int} {tA : Addr} (e : f = .next) (P : Par W st fi sh le ma) (h : FrP m' W st fi sh le ma) (ht : m' (Str.ofString "told") = some (.ref tA))
    (hl : led' = (tA, listOf #[] 0) :: news) (ha : AllLt tA news) : f = .next ∧ ∃ W st fi sh le ma tA, Par W st fi sh le ma ∧ FrP m' W st fi sh le ma ∧ m' (Str.ofString "told") = some (.ref tA) ∧ led' = (tA, listOf #[] 0) :: news ∧ AllLt tA news :=
  ⟨e, W, st, fi, sh, le, ma, tA, P, h, ht, hl, ha⟩
theorem wheel_of (x : Int) : (2 : Int) ^ (4 + x.fmod 3).toNat = 16 ∨ (2 : Int) ^ (4 + x.fmod 3).toNat = 32 ∨ (2 : Int) ^ (4 + x.fmod 3).toNat = 64 := by
  have h0 := Int.fmod_nonneg_of_pos x (show (0 : Int) < 3 by decide)
  have h1 := Int.fmod_lt_of_pos x (show (0 : Int) < 3 by decide)
  rcases (by lia : x.fmod 3 = 0 ∨ x.fmod 3 = 1 ∨ x.fmod 3 = 2) with h | h | h <;> rw [h] <;> decide
theorem par_of (a b c d e : Int) : Par (2 ^ (4 + a.fmod 3).toNat) (2 * b.fmod ((2 ^ (4 + a.fmod 3).toNat : Int).fdiv 2) + 1) (c.fmod (2 * 2 ^ (4 + a.fmod 3).toNat)) (d.fmod 8 + 1) ((d.fmod 64).fdiv 8 + 1) (6 + e.fmod 7) := by
  have hw := wheel_of a
  generalize (2 : Int) ^ (4 + a.fmod 3).toNat = W at *
  have hW : 0 < W.fdiv 2 ∧ 2 * W.fdiv 2 = W := by rw [Int.fdiv_eq_ediv_of_nonneg _ (by decide)]; lia
  have b0 := Int.fmod_nonneg_of_pos b hW.1
  have b1 := Int.fmod_lt_of_pos b hW.1
  have c0 := Int.fmod_nonneg_of_pos c (show 0 < 2 * W by lia)
  have c1 := Int.fmod_lt_of_pos c (show 0 < 2 * W by lia)
  have d0 := Int.fmod_nonneg_of_pos d (show (0 : Int) < 8 by decide)
  have d1 := Int.fmod_lt_of_pos d (show (0 : Int) < 8 by decide)
  have e0 := Int.fmod_nonneg_of_pos d (show (0 : Int) < 64 by decide)
  have e1 := Int.fmod_lt_of_pos d (show (0 : Int) < 64 by decide)
  have g0 := Int.fmod_nonneg_of_pos e (show (0 : Int) < 7 by decide)
  have g1 := Int.fmod_lt_of_pos e (show (0 : Int) < 7 by decide)
  have hk : (d.fmod 64).fdiv 8 = (d.fmod 64) / 8 := Int.fdiv_eq_ediv_of_nonneg _ (by decide)
  rw [hk]
  exact ⟨hw, by omega, by omega, by lia, c0, c1, by lia, by lia, by omega, by lia, by lia, by lia⟩
theorem half_no {x : Int} (h : ((2 : Int) ^ (4 + x.fmod 3).toNat).fdiv 2 = 0) : False := by
  rcases wheel_of x with e | e | e <;> rw [e] at h <;> exact absurd h (by decide)
theorem twice_no {x : Int} (h : 2 * (2 : Int) ^ (4 + x.fmod 3).toNat = 0) : False := by
  rcases wheel_of x with e | e | e <;> rw [e] at h <;> exact absurd h (by decide)

local macro_rules | `(tactic| walk_at "subscriptTail Name Slice ref ref") => `(tactic| (k_here; (with_reducible show wpAny _ _ (subscriptTail _ (PySem.Expr.Slice (some _) none none _) (Value.ref _) (Value.ref _)) _ _ _); refine Halt.out ?_))
local macro_rules | `(tactic| walk_at "execs nil") => `(tactic| (refine Halt.out ?_))
set_option maxRecDepth 100000 in
set_option maxHeartbeats 8000000 in
theorem seg1 {w : World} {news : List (Addr × Obj)} {cl : List (Str × Addr)} (l : Addr) (vs : List Value) (ns : List Int) (hI : IntsAre vs ns) (hlen : ns.length ≤ 63) :
   Runs w 10 10 cl [lb0.1, lb1.1, lb2.1, lb3.1, lb4.1, lb5.1, lb6.1, lb7.1] (fun h₀ m => m (Str.ofString "script") = some (.ref l) ∧ h₀.IsList l vs.toArray) news
    fun f m' led' => f = .next ∧ ∃ W st fi sh le ma tA, Par W st fi sh le ma ∧ FrP m' W st fi sh le ma ∧ m' (Str.ofString "told") = some (.ref tA) ∧ led' = (tA, listOf #[] 0) :: news ∧ AllLt tA news := by
  unfold Runs
  k_fill
  rintro p loose mean mg mb dp un gd cn a ccd outer A₀ base h₀ L m s Q B F X N T C1 C2 hd hu ⟨hm, hL⟩ hret
  replace F := fr_pin hm F
  dsimp only [lb0, lb1, lb2, lb3, lb4, lb5, lb6, lb7]
  k_steps
  all_goals repeat' (unfold Halt; ((k_here; (with_reducible show wpAny _ _ (subscriptTail _ (PySem.Expr.Slice (some _) none none _) (Value.ref _) (Value.ref _)) _ _ _); k_dflt (refine' kmk_slice_ints ?zzF ?zzN ?zzl ?zzp ?zzq ?zzi ?zzm ?zzc ?_ ?zzs ?zzt ?zzz; (case zzF => k_asm); (case zzN => k_asm); (case zzl => exact News.isList (by k_asm) (by k_mem)); (case zzp => kmk_part); (case zzq => kmk_part); (case zzi => exact .cons 1 _ (.cons 5 _ (.cons 3 _ (.cons 20 _ (.cons 2 _ .nil))))); (case zzm => exact kmk_from (.cons 1 _ (.cons 5 _ (.cons 3 _ (.cons 20 _ (.cons 2 _ .nil))))) (Int.natCast_nonneg _)); (case zzc => kmk_len); (case zzs => with_unfolding_all rfl); (case zzt => kmk_pure); (case zzz => kmk_size)); intro D' ws' h' F' N' l1 hI' hC' hL'; (try simp only [Int.reduceNeg, Int.neg_neg, Int.reduceToNat] at hI' hC' hL'); (try k_lt l1); (try k_sweep))); k_steps)
  all_goals (first
    | (rename (Int.fdiv _ _ = 0) => hx; exact (half_no hx).elim)
    | (rename (2 * _ = (0 : Int)) => hx; exact (twice_no hx).elim)
    | skip)
  unfold Halt
  rename (_ ∧ _ ∧ _ ∧ _ ∧ _ ∧ AllLt _ news) => hl
  refine wpAny_execs_nil (hret .next _ ((_, listOf #[] 0) :: news) _ _ (by assumption) (cb_drop (by assumption) (by walk_at "my sub")) (seg1_post rfl (par_of _ _ _ _ _) (frP rfl rfl rfl rfl rfl rfl) rfl rfl hl.2.2.2.2.2))
end
section -- F5
open PySem PySem.W PyProof.Rows PySem.Calls PySem.Flt
structure DivOk (a b c : Int) : Prop where
  a0 : 0 ≤ a
  a1 : a < 2 ^ 53
  b0 : 0 < b
  c0 : 0 ≤ c
  c1 : c < 2 ^ 53
  e : a * 4096 = c * b
structure MulOk (a b c : Int) : Prop where
  a0 : 0 ≤ a
  a1 : a < 2 ^ 53
  b0 : 0 ≤ b
  b1 : b < 2 ^ 40
  c1 : c < 2 ^ 53
  e : a * b = c
section
variable {prog : Program} {w : World} {A : Around} {E : Value → Shared → Prop} {s : Shared} {Q : Value → Shared → Prop} {t u : Tok} {a b c : Int}
theorem div_D (hA : A.handled = none) (ok : DivOk a b c) (h : Q (.float (D c) s.toks) { s with toks := s.toks + 1 }) : wpAny (model prog w) A (binaryOp .Div (.int a t) (.int b u)) Q E s := by
  obtain ⟨a0, a1, b0, c0, c1, e⟩ := ok
  have hs : (decide (a < 0) != decide (b < 0)) = false := by rw [decide_eq_false (by lia), decide_eq_false (by lia)]; rfl
  have hD : Float64.ofFrac (decide (a < 0) != decide (b < 0)) a.natAbs b.natAbs = D c := by
    rw [hs]
    refine D_frac (by omega) c0 c1 ?_
    rw [show ((a.natAbs : Nat) : Int) = a by lia, show ((b.natAbs : Nat) : Int) = b by lia]
    exact e
  refine Flt.div_ii_fits hA ?_ (fun hb => absurd hb (by lia)) (fun _ _ => by rw [hD]; exact h)
  have : a.natAbs < 2 ^ 53 := by lia
  exact Nat.lt_of_lt_of_le this (Nat.pow_le_pow_right (by decide) (by decide))
theorem mulfi_D (hA : A.handled = none) (ok : MulOk a b c) (h : Q (.float (D c) s.toks) { s with toks := s.toks + 1 }) : wpAny (model prog w) A (binaryOp .Mult (.float (D a) t) (.int b u)) Q E s := by
  obtain ⟨a0, a1, b0, b1, c1, e⟩ := ok
  have hm : Float64.mul (D a) (Float64.ofInt b) = D c := by
    rw [D_int b0 b1]
    refine D_mul a0 (by lia) a1 (by lia) c1 ?_
    rw [← e]; grind
  refine mul_fi_sharp hA (fun hb => ?_) (fun _ => by rw [hm]; exact h)
  have h2 : (2 : Nat) ^ 40 ≤ 2 ^ 1024 - 2 ^ 970 := by decide +kernel
  have h3 : b.natAbs < 2 ^ 40 := by lia
  exact absurd (Nat.lt_of_lt_of_le h3 (Nat.le_trans h2 hb)) (Nat.lt_irrefl _)
end

/-- what a turn of the painting loop reckons -/
structure TurnOk (W st fi sh le k : Int) : Prop where
  sv : Sv le sh
  w0 : W ≠ 0
  mul : IntMulOk st k
  d1 : DivOk (fi + st * k) W (64 * (64 / W * (fi + st * k)))
  u0 : 0 ≤ 64 / W * (fi + st * k)
  u1 : 64 / W * (fi + st * k) < 1024
  d2 : DivOk sh 8 (512 * sh)
  d3 : DivOk le 8 (512 * le)
  m1 : MulOk (64 * (64 / W * (fi + st * k) % 64)) W (4096 * (fi + st * k).fmod W)
  hue : 64 * (64 / W * (fi + st * k) % 64) = 4096 / W * ((fi + st * k) % W)
  mul2 : IntMulOk le (16 - sh)
  d4 : DivOk (le * (16 - sh)) 128 (32 * (le * (16 - sh)))
theorem turn_ok {W st fi sh le ma k : Int} (P : Par W st fi sh le ma) (k0 : 0 ≤ k) (k1 : k < ma) : TurnOk W st fi sh le k := by
  have sv : Sv le sh := ⟨P.h0, P.h1, P.l0, P.l1⟩
  obtain ⟨w, s0, s1, odd, f0, f1, h0, h1, l0, l1, m0, m1⟩ := P
  have p0 : 0 ≤ st * k := Int.mul_nonneg (by lia) k0
  have p1 : st * k ≤ W * 11 := Int.mul_le_mul (by lia) (by lia) k0 (by lia)
  have q := sv.prod
  have hq : le * (16 - sh) = 16 * le - le * sh := by grind
  have small : ∀ {x : Int}, x.natAbs < 2 ^ 20 → Builtin.Int.intBits x ≤ 2 ^ 20 := fun {x} hx => Nat.le_trans (intBits_le_iff.mpr hx) (by decide)
  have ok1 : IntMulOk st k := IntMulOk.of_bits (small (by lia)) (small (by lia))
  have ok2 : IntMulOk le (16 - sh) := IntMulOk.of_bits (small (by omega)) (small (by omega))
  have hx0 : 0 ≤ fi + st * k := by lia
  have hx1 : fi + st * k < 14 * W := by omega
  rcases w with rfl | rfl | rfl
  · refine ⟨sv, by decide, ok1, ⟨hx0, by lia, by decide, by lia, by lia, by lia⟩, by lia, by lia, ⟨by lia, by lia, by decide, by lia, by lia, by lia⟩, ⟨by lia, by lia, by decide, by lia, by lia, by lia⟩, ?_, by lia, ok2, ?_⟩
    · rw [Int.fmod_eq_emod_of_nonneg _ (by decide)]
      exact ⟨by lia, by lia, by decide, by decide, by lia, by lia⟩
    · rw [hq]; exact ⟨by lia, by lia, by decide, by lia, by lia, by lia⟩
  · refine ⟨sv, by decide, ok1, ⟨hx0, by lia, by decide, by lia, by lia, by lia⟩, by lia, by lia, ⟨by lia, by lia, by decide, by lia, by lia, by lia⟩, ⟨by lia, by lia, by decide, by lia, by lia, by lia⟩, ?_, by lia, ok2, ?_⟩
    · rw [Int.fmod_eq_emod_of_nonneg _ (by decide)]
      exact ⟨by lia, by lia, by decide, by decide, by lia, by lia⟩
    · rw [hq]; exact ⟨by lia, by lia, by decide, by lia, by lia, by lia⟩
  · refine ⟨sv, by decide, ok1, ⟨hx0, by lia, by decide, by lia, by lia, by lia⟩, by lia, by lia, ⟨by lia, by lia, by decide, by lia, by lia, by lia⟩, ⟨by lia, by lia, by decide, by lia, by lia, by lia⟩, ?_, by lia, ok2, ?_⟩
    · rw [Int.fmod_eq_emod_of_nonneg _ (by decide)]
      exact ⟨by lia, by lia, by decide, by decide, by lia, by lia⟩
    · rw [hq]; exact ⟨by lia, by lia, by decide, by lia, by lia, by lia⟩
end
section -- F7
open PySem PySem.W PyProof.Rows PySem.Calls
section
variable {prog : Program} {w : World} {A : Around} {E : Value → Shared → Prop} {s : Shared} {h₀ : Heap} {L : Addr} {m : Str → Option Value} {news : List (Addr × Obj)}
theorem applied_two {sl : Addr} {u : Tok} {Q : Int × Int × Nat → Shared → Prop} (hs : s.heap.IsSliceOf sl .none (.int 2 u) .none) (h : Q (0, 1, 2) s) :
    wpAny (model prog w) A (Builtin.Slice.sliceApplied (.ref sl) (pure (3 : Int))) Q E s := by
  obtain ⟨os, hos, hcs, hds⟩ := id hs
  unfold Builtin.Slice.sliceApplied Builtin.Slice.sliceFields
  refine wpAny_bind (wpAny_bind (wpAny_field hos hds (x := .none) rfl (wpAny_bind (wpAny_field hos hds (x := .int 2 u) rfl (wpAny_bind (wpAny_field hos hds (x := .none) rfl (wpAny_pure ?_)))))))
  refine wpAny_bind (slicePart_none ?_)
  show wpAny _ _ (if ((1 : Int) == 0) = true then _ else _) _ _ s
  rw [if_neg (by decide)]
  refine wpAny_bind (slicePart_none (wpAny_bind (slicePart_int (wpAny_bind (wpAny_pure ?_)))))
  exact wpAny_pure h
theorem getItem_two {t sl : Addr} {v1 v2 v3 : Value} {u : Tok} {Q : Value → Shared → Prop} (ht : IsTup s.heap t #[v1, v2, v3]) (hs : s.heap.IsSliceOf sl .none (.int 2 u) .none)
    (h : Q (.ref s.heap.objs.size) { s with heap := s.heap.push { cls := .type "tuple", data := .seq #[v1, v2] } }) : wpAny (model prog w) A (getItem (.ref t) (.ref sl)) Q E s := by
  have hdrop : sizeOk (.seq (#[v1, v2] : Array Value)) := by
    show (2 : Nat) ≤ sizeLine
    rw [sizeLine_eq]; lia
  obtain ⟨os, hos, hcs, hds⟩ := id hs
  have hTs : s.TypeIs (.ref sl) "slice" := ⟨os, hos, hcs⟩
  unfold getItem
  try with_reducible refine wpAny_holding ?_
  first | refine wpAny_bind (wpAny_pure ?_) | skip
  refine wpAny_bind (wpAny_sequenceKey ht.typeIs (by decide) ?_)
  refine wpAny_bind (wpAny_callSpecial?_slot (name := Str.ofString "__getitem__") ht.typeIs slot_tuple_getitem
    (wpAny_call_entry slot_tuple_getitem ht.typeIs entry_tuple_getitem ?_ (args_tuple_getitem _ _)))
  show wpAny _ _ (Builtin.Tuple.tupleItemsOf (.ref t) >>= _) _ _ s
  refine wpAny_bind (tupleItemsOf_ ht ?_)
  refine wpAny_bind (wpAny_typeOf hTs ?_)
  rw [if_pos (by decide)]
  refine wpAny_bind (applied_two hs ?_)
  show wpAny _ _ (if ((0 : Int) == 0 && (1 : Int) == 1 && (2 : Nat) == 3) = true then _ else _) _ _ s
  rw [if_neg (by decide)]
  first
    | exact wpAny_bind (m := Builtin.Tuple.tupleExact _) (wpAny_newObj_type (wpAny_pure ⟨_, rfl, wpAny_pure h⟩) hdrop)
    | exact wpAny_bind (m := Builtin.Tuple.tupleExact _) (wpAny_newObj_type (wpAny_bind (wpAny_pure (wpAny_pure ⟨_, rfl, wpAny_pure h⟩))) hdrop)
    | exact wpAny_bind (wpAny_bind (m := Builtin.Tuple.tupleExact _) (wpAny_newObj_type (wpAny_pure (wpAny_pure ⟨_, rfl, wpAny_pure h⟩)) hdrop))
    | exact wpAny_bind (wpAny_bind (m := Builtin.Tuple.tupleExact _) (wpAny_newObj_type (wpAny_pure ⟨_, rfl, wpAny_pure h⟩) hdrop))
theorem slice_two {value slice : Expr} {t : Addr} {v1 v2 v3 : Value} {u : Tok} {Q : Value → Shared → Prop}
    (F : Fr h₀ L s.heap m) (N : News h₀ L s.heap news) (ht : (t, tup [v1, v2, v3]) ∈ news)
    (h : ∀ d h', Fr h₀ L h' m → News h₀ L h' ((d, tup [v1, v2]) :: news) → (∀ p ∈ news, p.1 < d) → Q (.ref d) { s with heap := h' })
    (hs : subscripted slice false (.ref t) (.ref s.heap.objs.size) = operate [.ref s.heap.objs.size, .ref t] (getItem (.ref t) (.ref s.heap.objs.size)) := by with_unfolding_all rfl) :
    wpAny (model prog w) A (subscriptTail value slice (.ref t) (.ref s.heap.objs.size)) Q E { s with heap := s.heap.push { cls := .type "slice", data := .fields #[.none, .int 2 u, .none] } } := by
  have ht0 : IsTup s.heap t #[v1, v2, v3] := ⟨_, (N _ ht).1, rfl, _, rfl⟩
  have ht' : IsTup (s.heap.push { cls := .type "slice", data := .fields #[.none, .int 2 u, .none] }) t #[v1, v2, v3] := ht0.keeps fun _ _ e => Heap.get?_push_of_some _ e
  refine tail_any (s := { s with heap := s.heap.push { cls := .type "slice", data := .fields #[.none, .int 2 u, .none] } }) ht'.typeIs slot_tuple_getitem.lookup
    (getItem_two ht' (Heap.IsSliceOf.new ..) ?_) hs
  have N1 := News.push (F.push { cls := .type "slice", data := .fields #[.none, .int 2 u, .none] }) (N.grown fun _ _ e => Heap.get?_push_of_some _ e) { cls := .type "tuple", data := .seq #[v1, v2] }
  rw [Heap.size_push] at N1
  show Q (.ref (s.heap.push _).objs.size) _
  rw [Heap.size_push]
  exact h _ _ ((F.push _).push _) N1 fun p hp => Nat.lt_succ_of_lt (Heap.lt_size (N p hp).1)
end
end
section -- T1
open PySem PySem.W PyProof.Rows PySem.Calls
/-- a for over a name's items, its loop still to come -/
noncomputable def LoopAtT (prog : Program) (w : World) (A : Around) (env : Env) (x : Str) (px : Pos) (body : List Stmt) (Q : Flow → Shared → Prop) (E : Value → Shared → Prop) (it : Value) (s₂ : Shared) : Prop :=
  codeAny (model prog w) A (.forLoop (.Name x px) it body [] env) (fun r s' => match r with | .ok f => Q f s' | .error e => cameBackBy (model prog w) A env E e s') s₂
noncomputable def LpT {σ : Type} (h₀ : Heap) (L : Addr) (s : Shared) (Led : σ → List (Addr × Obj)) (rest : List (Addr × Obj)) (J : σ → (Str → Option Value) → Nat → Prop) (Q : Flow → Shared → Prop) (f : Flow) (s₂ : Shared) : Prop :=
  match f with
  | .ret v => Q (.ret v) s₂
  | .brk => Q .next s₂
  | _ => ∃ (st : σ) (h' : Heap) (tk' : Nat) (m' : Str → Option Value), s₂ = { s with heap := h', toks := tk' } ∧ Fr h₀ L h' m' ∧ News h₀ L h' (Led st ++ rest) ∧ J st m' tk'
theorem LpT.next {σ : Type} {h₀ : Heap} {L : Addr} {s : Shared} {Led : σ → List (Addr × Obj)} {rest : List (Addr × Obj)} {J : σ → (Str → Option Value) → Nat → Prop} {Q : Flow → Shared → Prop} (st : σ) {h' : Heap} {tk' : Nat} {m' : Str → Option Value}
    (F : Fr h₀ L h' m') (N : News h₀ L h' (Led st ++ rest)) (hJ : J st m' tk') : LpT h₀ L s Led rest J Q .next { s with heap := h', toks := tk' } := ⟨st, h', tk', m', rfl, F, N, hJ⟩
section
variable {prog : Program} {w : World} {A : Around} {E : Value → Shared → Prop} {s : Shared} {env : Env} {h₀ : Heap} {x : Str} {px : Pos} {body : List Stmt} {Q : Flow → Shared → Prop}
theorem For_T {pos : Pos} {iter : Expr}
    (h : wpAny (model prog w) A (eval iter env) (fun xv s₁ => wpAny (model prog w) A (pyIter xv) (fun it s₂ => LoopAtT prog w A env x px body Q E it s₂) E s₁) E s)
    (hs : ∀ x, foldedSetIterable iter env x = pure x := by intro _; rfl) :
    wpAny (model prog w) A (exec (.For (.Name x px) iter body [] pos) env) Q E s :=
  wpAny_For (wpAny_mono h (fun _ _ h₁ => wpAny_mono h₁ (fun _ _ h₂ => h₂) fun _ _ e => e) fun _ _ e => e) hs

/-- over range(0, n), the tokens' count known at every turn -/
theorem rangeT {σ : Type} {r : Addr} {b₀ : Int} {t₀ u₀ v₀ : Tok} {n : Nat} {m₀ : Str → Option Value} (adr : List Addr) (Led : σ → List (Addr × Obj)) (fixed : List (Addr × Obj)) (J : Nat → σ → (Str → Option Value) → Nat → Prop) (st₀ : σ)
    (hx : env.kindOf x = some .local) (hp : (env.scope.kind == .class || (env.scope.kind == .module && env.locals != env.globals)) = false) (hE : PassesOwn (model prog w) A env E)
    (hh : A.handled = none) (hr : IsRange s.heap r 0 b₀ 1 t₀ u₀ v₀) (hsmall : Builtin.Range.small 0 b₀ 1 = true) (hn : Builtin.Range.rangeSize 0 b₀ 1 = (n : Int))
    (hadr : ∀ st, (Led st).map (·.1) = adr) (hsep : ∀ p ∈ fixed, p.1 ∉ adr)
    (F : Fr h₀ env.locals s.heap m₀) (N : News h₀ env.locals s.heap (Led st₀ ++ fixed)) (hj : ∀ tk, J 0 st₀ m₀ tk)
    (turn : ∀ i st m₁ h tk rest, i < n → J i st m₁ tk → Fr h₀ env.locals h (fun y => if y = x then some (.int (0 + (i : Int)) tk) else m₁ y) → News h₀ env.locals h (Led st ++ rest) → (∀ p ∈ rest, p.1 ∉ adr) → (∀ p ∈ fixed, p ∈ rest) →
      wpAny (model prog w) A (execs body env) (LpT h₀ env.locals { s with heap := h, toks := tk + 1 + 1 } Led rest (J (i + 1)) Q) E { s with heap := h, toks := tk + 1 + 1 })
    (done : ∀ st m' h' tk, J n st m' tk → Fr h₀ env.locals h' m' → News h₀ env.locals h' (Led st ++ fixed) → Q .next { s with heap := h', toks := tk }) :
    wpAny (model prog w) A (pyIter (.ref r)) (fun it s₂ => LoopAtT prog w A env x px body Q E it s₂) E s := by
  refine wpAny_pyIter_range hr hsmall ?_
  have hI₀ : IsRangeIter (s.heap.push { cls := .type "range_iterator", data := .fields #[rawInt 0, rawInt (Builtin.Range.rangeSize 0 b₀ 1), rawInt 1] }) s.heap.objs.size 0 (n : Int) 1 := by
    rw [hn]; exact Heap.get?_push_size _ rfl
  generalize hI : s.heap.objs.size = I at *
  have hIL : I ≠ env.locals := fun e => absurd F.ns.lt (by rw [hI, e]; exact Nat.lt_irrefl _)
  have hI0 : h₀.get? I = none := by rw [← hI]; exact next_is_new F
  have hIa : I ∉ adr := fun hm => by
    rw [← hadr st₀] at hm
    obtain ⟨p, hp', e⟩ := List.mem_map.mp hm
    have := Heap.lt_size (N p (List.mem_append_left _ hp')).1
    rw [e, hI] at this
    exact Nat.lt_irrefl _ this
  have hIf : ∀ p ∈ fixed, p.1 ≠ I := fun p hp' e => by
    have := Heap.lt_size (N p (List.mem_append_right _ hp')).1
    rw [e, hI] at this
    exact Nat.lt_irrefl _ this
  unfold LoopAtT
  refine codeAny_forLoop (fun k s' => ∃ (h' : Heap) (tk : Nat) (m' : Str → Option Value) (st : σ) (i : Nat), s' = { s with heap := h', toks := tk } ∧ IsRangeIter h' I (0 + (i : Int)) ((n : Int) - (i : Int)) 1 ∧ Fr h₀ env.locals h' m' ∧ News h₀ env.locals h' (Led st ++ fixed) ∧ J i st m' tk ∧ i ≤ n ∧ k = n + 1 - i) ?_ (n + 1)
    ⟨_, s.toks, m₀, st₀, 0, rfl, ?_, F.push _, fun p hp => ⟨Heap.get?_push_of_some _ (N p hp).1, (N p hp).2⟩, hj _, Nat.zero_le _, rfl⟩
  · rintro k s' ⟨h', tk, m', st, i, rfl, hit, F', N', hJ, hi, rfl⟩
    have offI : ∀ p ∈ Led st ++ fixed, p.1 ≠ I := fun p hp' e => by
      rcases List.mem_append.mp hp' with q | q
      · exact hIa (by rw [← hadr st, ← e]; exact List.mem_map_of_mem q)
      · exact hIf p q e
    by_cases hlt : i < n
    · refine wpAny_pyNext_range_item hit (by lia) fun h₁ hit₁ hs₁ => ?_
      have F₁ : Fr h₀ env.locals h₁ m' := F'.change hs₁ hIL hI0
      have N₁ : News h₀ env.locals h₁ (Led st ++ fixed) := fun p hp' => ⟨(hs₁.2 _ (offI p hp')).trans (N' p hp').1, (N' p hp').2⟩
      refine wpAny_assign_Name (wpAny_storeName_local hx F₁.ns (fun h₂ hn₂ hs₂ => ?_) hp)
      have F₂ := F₁.set hn₂ hs₂
      have N₂ : News h₀ env.locals h₂ (Led st ++ fixed) := N₁.set hs₂
      have hit₂ : IsRangeIter h₂ I (0 + (i : Int) + 1) ((n : Int) - (i : Int) - 1) 1 := (hs₂.2 I hIL).trans hit₁
      have N₃ : News h₀ env.locals h₂ (Led st ++ ((I, { cls := .type "range_iterator", dict := none, data := .fields #[rawInt (0 + (i : Int) + 1), rawInt ((n : Int) - (i : Int) - 1), rawInt 1], slots := #[] }) :: fixed)) := fun p hp' => by
        rcases List.mem_append.mp hp' with q | q
        · exact N₂ p (List.mem_append_left _ q)
        · rcases List.mem_cons.mp q with rfl | q
          · exact ⟨hit₂, hIL, hI0⟩
          · exact N₂ p (List.mem_append_right _ q)
      refine wpAny_mono (wpAny_passesOwn hE (turn i st m' h₂ tk _ hlt hJ F₂ N₃ (fun p hp' => ?_) fun p hp' => List.mem_cons_of_mem _ hp')) (fun f s₃ h₃ => ?_) fun _ _ e => e
      · rcases List.mem_cons.mp hp' with rfl | q
        · exact hIa
        · exact hsep p q
      · have fin : (∃ (st : σ) (h' : Heap) (tk' : Nat) (m' : Str → Option Value), s₃ = { s with heap := h', toks := tk' } ∧ Fr h₀ env.locals h' m' ∧ News h₀ env.locals h' (Led st ++ ((I, { cls := .type "range_iterator", dict := none, data := .fields #[rawInt (0 + (i : Int) + 1), rawInt ((n : Int) - (i : Int) - 1), rawInt 1], slots := #[] }) :: fixed)) ∧ J (i + 1) st m' tk') →
            ∃ mm, mm < n + 1 - i ∧ ∃ (h' : Heap) (tk : Nat) (m' : Str → Option Value) (st : σ) (i : Nat), s₃ = { s with heap := h', toks := tk } ∧ IsRangeIter h' I (0 + (i : Int)) ((n : Int) - (i : Int)) 1 ∧ Fr h₀ env.locals h' m' ∧ News h₀ env.locals h' (Led st ++ fixed) ∧ J i st m' tk ∧ i ≤ n ∧ mm = n + 1 - i := by
          rintro ⟨st', hz₃, tk₃, m₃, rfl, F₃, N₄, hJ₃⟩
          have hitz := (N₄ _ (List.mem_append_right _ (List.mem_cons_self ..))).1
          have c1 : (0 : Int) + (i : Int) + 1 = 0 + ((i + 1 : Nat) : Int) := by lia
          have c2 : (n : Int) - (i : Int) - 1 = (n : Int) - ((i + 1 : Nat) : Int) := by lia
          refine ⟨n + 1 - (i + 1), by lia, hz₃, tk₃, m₃, st', i + 1, rfl, ?_, F₃, fun p hp' => N₄ p ?_, hJ₃, hlt, rfl⟩
          · rw [← c1, ← c2]; exact hitz
          · rcases List.mem_append.mp hp' with q | q
            · exact List.mem_append_left _ q
            · exact List.mem_append_right _ (List.mem_cons_of_mem _ q)
        cases f with
        | ret v => exact h₃
        | brk => exact h₃
        | cont => exact fin h₃
        | next => exact fin h₃
    · have hin : i = n := by lia
      subst hin
      refine wpAny_pyNext_range_end hh hit (by lia) fun h₁ he => wpAny_execs_nil ?_
      have F₁ : Fr h₀ env.locals h₁ m' := ⟨F'.ns.at' fun o e => he _ o (Ne.symm hIL) e, fun b o e => he b o (fun q => by rw [q, hI0] at e; cases e) (F'.keep b o e), F'.above⟩
      exact done st m' h₁ tk hJ F₁ fun p hp' => ⟨he _ _ (offI p hp') (N' p hp').1, (N' p hp').2⟩
  · have c1 : (0 : Int) + ((0 : Nat) : Int) = 0 := rfl
    have c2 : (n : Int) - ((0 : Nat) : Int) = (n : Int) := Int.sub_zero _
    rw [c1, c2]; exact hI₀
end
end
section -- H3
open PySem PySem.W PyProof.Rows PySem.Calls PySem.SeqAt
theorem idle_H3 : True := by
  w_top off
  trivial
end
local macro_rules | `(tactic| walk_at "s 10") => `(tactic| (k_here; (with_unfolding_all refine' For_T ?_); k_whole))
section
open PySem PySem.W PyProof.Rows PySem.Calls PySem.SeqAt
local macro_rules | `(tactic| k_all) => `(tactic| walk_at "s 1")
local macro_rules | `(tactic| k_all) => `(tactic| walk_at "s 2")
local macro_rules | `(tactic| walk_at "execs cons") => `(tactic| (k_here; (with_reducible show wpAny _ _ _ _ _ (Shared.mk _ _ _ (Shared.toks _) _)); refine wp_gentoks0 (Nat.le_refl _) ?_; intro tk htk; (try dsimp only at htk)))
local macro_rules | `(tactic| walk_at "execs nil") => `(tactic| (k_here; (with_reducible show wpAny _ _ _ _ _ (Shared.mk _ _ _ (Shared.toks _) _)); refine wp_gentoks0 (Nat.le_refl _) ?_; intro tk htk; (try dsimp only at htk)))
local macro_rules | `(tactic| walk_at "execs nil") => `(tactic| walk_at "s 0")
local macro_rules | `(tactic| walk_at "subscriptTail Name Slice ref ref") => `(tactic| walk_at "s 3")
local macro_rules | `(tactic| walk_at "compareOp NotEq ref ref") => `(tactic| walk_at "s 3")
local macro_rules | `(tactic| walk_at "execs cons") => `(tactic| walk_at "s 0")
local macro_rules | `(tactic| walk_at "call ref") => `(tactic| walk_at "s 3")
local macro_rules | `(tactic| walk_at "pyIter ref") => `(tactic| walk_at "s 3")
local macro_rules | `(tactic| walk_at "exec For Name Call cons nil") => `(tactic| walk_at "s 10")
local macro_rules | `(tactic| walk_at "call builtin:list.append") => `(tactic| walk_at "s 3")
local macro_rules | `(tactic| walk_at "binaryOp Mult int int") => `(tactic| (with_reducible refine mul_int ?_ ?hm; (case hm => with_reducible assumption)))
local macro_rules | `(tactic| walk_at "binaryOp Div int int") => `(tactic| (refine' div_D rfl ?ok ?_; (case ok => with_reducible assumption)))
local macro_rules | `(tactic| walk_at "binaryOp Mult float int") => `(tactic| (refine' mulfi_D rfl ?ok ?_; (case ok => with_reducible assumption)))
local macro_rules | `(tactic| walk_at "binaryOp Mod int int") => `(tactic| (with_reducible refine mod_int' ?hm ?_; (case hm => with_reducible assumption)))
theorem par_fmod {W st fi sh le ma : Int} (P : Par W st fi sh le ma) (x : Int) : 0 ≤ x.fmod W ∧ x.fmod W < 64 := by
  have hW : 0 < W := by have := P.w; lia
  have := Int.fmod_nonneg_of_pos x hW
  have := Int.fmod_lt_of_pos x hW
  have := P.w
  omega
noncomputable def hueI (W st fi k : Int) : Int := 4096 / W * ((fi + st * k) % W)
/-- the first n colours' hues, their tokens one behind the other and below tk -/
noncomputable def ToldIs (W st fi : Int) (n : Nat) (vs : List Value) (tk : Nat) : Prop :=
  vs.length = n ∧ ∃ tok : Nat → Nat, (∀ k, k < n → 0 < tok k ∧ tok k < tk ∧ vs[k]? = some (.float (D (hueI W st fi (k : Nat))) (tok k))) ∧ ∀ i j, i < j → j < n → tok i < tok j
theorem told_snoc {W st fi x : Int} {n : Nat} {vs : List Value} {t tk tk' : Nat} (h : ToldIs W st fi n vs tk) (ht : 0 < t) (h1 : tk ≤ t) (h2 : t < tk') (e : x = hueI W st fi n) : ToldIs W st fi (n + 1) (vs ++ [.float (D x) t]) tk' := by
  subst e
  obtain ⟨hl, tok, hv, ho⟩ := h
  refine ⟨by rw [List.length_append, hl]; rfl, fun k => if k < n then tok k else t, fun k hk => ?_, fun i j hij hj => ?_⟩
  · by_cases q : k < n
    · have := hv k q
      simp only [if_pos q]
      rw [List.getElem?_append_left (by rw [hl]; exact q)]
      exact ⟨this.1, by lia, this.2.2⟩
    · have : k = n := by lia
      subst this
      simp only [if_neg q]
      exact ⟨ht, h2, by rw [List.getElem?_append_right (by rw [hl]; exact Nat.le_refl _), hl, Nat.sub_self]; rfl⟩
  · by_cases q : j < n
    · simp only [if_pos q, if_pos (show i < n by lia)]
      exact ho i j hij q
    · simp only [if_neg q, if_pos (show i < n by lia)]
      have := (hv i (by lia)).2.1
      lia

set_option maxRecDepth 100000 in
set_option maxHeartbeats 8000000 in
theorem seg2 {w : World} {news : List (Addr × Obj)} {cl : List (Str × Addr)} {W st fi sh le ma : Int} (P : Par W st fi sh le ma) (tA : Addr) (hlt : AllLt tA news) :
   Runs w 80 20 cl [lb8.1] (fun h₀ m => FrP m W st fi sh le ma ∧ m (Str.ofString "told") = some (.ref tA)) ((tA, listOf #[] 0) :: news)
    fun f m' led' => f = .next ∧ FrP m' W st fi sh le ma ∧ m' (Str.ofString "told") = some (.ref tA) ∧ ∃ vs ep tk, led' = (tA, listOf (List.toArray vs) ep) :: news ∧ ToldIs W st fi ma.toNat vs tk := by
  unfold Runs
  k_fill
  rintro p loose mean mg mb dp un gd cn a ccd outer A₀ base h₀ L m s Q B F X N T C1 C2 hd hu ⟨⟨⟨t1, m1⟩, ⟨t2, m2⟩, ⟨t3, m3⟩, ⟨t4, m4⟩, ⟨t5, m5⟩, ⟨t6, m6⟩⟩, m7⟩ hret
  replace F := fr_put (fr_put (fr_put (fr_put (fr_put (fr_put (fr_put F (Str.ofString "many") m6) (Str.ofString "level") m5) (Str.ofString "share") m4) (Str.ofString "first") m3) (Str.ofString "step") m2) (Str.ofString "wheel") m1) (Str.ofString "told") m7
  dsimp only [lb8]
  k_steps
  all_goals repeat' (unfold Halt; ((k_here; (with_reducible show wpAny _ _ (call (Value.builtin _) [Value.ref _, _]) _ _ _); k_dflt (refine' append_K ?k1 ?k2 ?k3 ?_ ?z; (case k1 => k_asm); (case k2 => k_asm); (case k3 => k_upd); (case z => assumption); k_whole); intro h' F' N'; (try k_sweep))); k_steps)
  all_goals repeat' (unfold Halt; ((k_here; (with_reducible show wpAny _ _ (subscriptTail _ (PySem.Expr.Slice none (some _) none _) (Value.ref _) (Value.ref _)) _ _ _); k_dflt (refine' slice_two ?F ?N ?l ?_ ?s; (case F => k_asm); (case N => k_asm); (case l => k_mem); (case s => with_unfolding_all rfl)); intro D' h' F' N' l1; (try k_lt l1); (try k_sweep))); k_steps)
  unfold Halt
  refine rangeT (σ := List Value × Nat) (n := ma.toNat) [tA] (fun st => [(tA, listOf st.1.toArray st.2)]) news (fun i s m₁ tk => ToldIs W st fi i s.1 tk ∧ FrP m₁ W st fi sh le ma ∧ m₁ (Str.ofString "told") = some (.ref tA)) ([], 0) rfl rfl PassesOwn.never rfl (by assumption) (small_one (by lia) (by lia) (by have := P.m0; lia) (by have := P.m1; lia)) (by rw [rangeSize_nat]; simp) (fun _ => rfl) ?_ (by k_asm) (by k_asm) ?_ ?_ ?_
  · intro p hp hpt
    exact Nat.ne_of_lt (kst_ltOf hlt p hp) (List.mem_singleton.mp hpt)
  · intro tk
    refine ⟨⟨rfl, fun _ => 0, fun k hk => absurd hk (Nat.not_lt_zero _), fun i j _ hj => absurd hj (Nat.not_lt_zero _)⟩, ⟨⟨_, rfl⟩, ⟨_, rfl⟩, ⟨_, rfl⟩, ⟨_, rfl⟩, ⟨_, rfl⟩, ⟨_, rfl⟩⟩, rfl⟩
  · rintro i ⟨vs, ep⟩ m₂ h tkz rest hi ⟨hT, ⟨⟨u1, e1⟩, ⟨u2, e2⟩, ⟨u3, e3⟩, ⟨u4, e4⟩, ⟨u5, e5⟩, ⟨u6, e6⟩⟩, e7⟩ FF NN hap hfx
    have F3 := fr_put (fr_put (fr_put (fr_put (fr_put (fr_put FF (Str.ofString "level") e5) (Str.ofString "share") e4) (Str.ofString "first") e3) (Str.ofString "step") e2) (Str.ofString "wheel") e1) (Str.ofString "told") e7
    clear FF
    simp only [List.cons_append, List.nil_append] at NN
    have TO := turn_ok (k := 0 + (i : Int)) P (by lia) (by lia)
    have o1 := TO.w0
    have o2 := TO.mul
    have o3 := TO.d1
    have o4 := TO.d2
    have o5 := TO.d3
    have o6 := TO.m1
    have o7 := TO.mul2
    have o8 := TO.d4
    have hne : ∀ p ∈ rest, p.1 ≠ tA := fun p hp e => hap p hp (List.mem_singleton.mpr e)
    have hsz : vs.toArray.size ≤ sizeLine := by rw [List.size_toArray, hT.1, sizeLine_eq]; have := P.m1; lia
    have hfm := par_fmod P (fi + st * (0 + (i : Int)))
    show PySem.wpAny _ _ _ _ _ _
    k_fold
    k_steps
    all_goals repeat' (unfold Halt; ((k_here; (with_reducible show wpAny _ _ (call (Value.builtin _) [Value.ref _, _]) _ _ _); k_dflt (refine' append_K ?k1 ?k2 ?k3 ?_ ?z; (case k1 => k_asm); (case k2 => k_asm); (case k3 => k_upd); (case z => assumption); k_whole); intro h' F' N'; (try k_sweep))); k_steps)
    all_goals repeat' (unfold Halt; ((k_here; (with_reducible show wpAny _ _ (subscriptTail _ (PySem.Expr.Slice none (some _) none _) (Value.ref _) (Value.ref _)) _ _ _); k_dflt (refine' slice_two ?F ?N ?l ?_ ?s; (case F => k_asm); (case N => k_asm); (case l => k_mem); (case s => with_unfolding_all rfl)); intro D' h' F' N' l1; (try k_lt l1); (try k_sweep))); k_steps)
    unfold Halt
    obtain ⟨q1, q2, q3, q4⟩ := hsv_pre TO.u0 TO.u1 P.h0 P.h1
    refine DoesT.use (hsv_callT _ _ _ _ _ _ ?p1 ?p2 ?p3 q1 q2 q3 q4) (by k_asm) (by k_asm) (by k_asm) (by k_asm) (by k_asm) rfl ?_ ?_ ?_ ?_
    case p1 => exact Nat.succ_pos _
    case p2 => exact Nat.succ_pos _
    case p3 => exact Nat.succ_pos _
    · show dp + 1 < recursionLimit; exact lt_room (k := 1) hd (by decide)
    · show un + 8 < cLine; exact lt_room (k := 8) hu (by decide)
    · exact Nat.succ_pos _
    rintro v3 news3 hh3 tkk3 FF3 NN3 ht3 ⟨r, g, b, ⟨d3, v1, v2, v3, rfl, rfl, hl3, x1, x2, x3, -⟩, hrgb⟩
    dsimp only at ht3
    have PT := painted TO.sv TO.u0 TO.u1 hrgb
    clear NN q1 q2 q3 q4 hrgb
    k_lt hl3
    k_steps
    all_goals repeat' (unfold Halt; ((k_here; (with_reducible show wpAny _ _ (call (Value.builtin _) [Value.ref _, _]) _ _ _); k_dflt (refine' append_K ?k1 ?k2 ?k3 ?_ ?z; (case k1 => k_asm); (case k2 => k_asm); (case k3 => k_upd); (case z => assumption); k_whole); intro h' F' N'; (try k_sweep))); k_steps)
    all_goals repeat' (unfold Halt; ((k_here; (with_reducible show wpAny _ _ (subscriptTail _ (PySem.Expr.Slice none (some _) none _) (Value.ref _) (Value.ref _)) _ _ _); k_dflt (refine' slice_two ?F ?N ?l ?_ ?s; (case F => k_asm); (case N => k_asm); (case l => k_mem); (case s => with_unfolding_all rfl)); intro D' h' F' N' l1; (try k_lt l1); (try k_sweep))); k_steps)
    unfold Halt
    refine DoesT.use (rgbhsv_callT _ _ _ _ _ _ x1 x2 x3 PT.ne PT.mx PT.range) (by k_asm) (by k_asm) (by k_asm) (by k_asm) (by k_asm) rfl ?_ ?_ ?_ ?_
    · show dp + 1 < recursionLimit; exact lt_room (k := 1) hd (by decide)
    · show un + 8 < cLine; exact lt_room (k := 8) hu (by decide)
    · first | assumption | exact Nat.succ_pos _ | (dsimp only; lia)
    rintro v4 news4 hh4 tkk4 FF4 NN4 ht4 ⟨hue, ⟨d4, w1, w2, w3, rfl, rfl, hl4, y1, y2, y3, hw1, hw2⟩, hhue⟩
    dsimp only at ht4 hw1
    have hhue := PT.hue _ hhue
    k_lt hl4
    subst hhue
    rw [PT.sat, PT.val] at NN4
    k_steps
    all_goals repeat' (unfold Halt; ((k_here; (with_reducible show wpAny _ _ (call (Value.builtin _) [Value.ref _, _]) _ _ _); k_dflt (refine' append_K ?k1 ?k2 ?k3 ?_ ?z; (case k1 => k_asm); (case k2 => k_asm); (case k3 => k_upd); (case z => assumption); k_whole); intro h' F' N'; (try k_sweep))); k_steps)
    all_goals repeat' (unfold Halt; ((k_here; (with_reducible show wpAny _ _ (subscriptTail _ (PySem.Expr.Slice none (some _) none _) (Value.ref _) (Value.ref _)) _ _ _); k_dflt (refine' slice_two ?F ?N ?l ?_ ?s; (case F => k_asm); (case N => k_asm); (case l => k_mem); (case s => with_unfolding_all rfl)); intro D' h' F' N' l1; (try k_lt l1); (try k_sweep))); k_steps)
    unfold Halt
    have hNB : NoneBooked _ := none_booked X T (by assumption)
    refine ne_tup3 (by assumption) (.tail _ (.head _)) (.head _) ?_ (eqDI_yes (by omega) rfl) (eqD_yes (by have := P.h0; have := P.h1; lia) y2 (Nat.succ_pos _) hNB rfl) (eqD_yes (by have := P.l0; have := P.l1; lia) y3 (Nat.succ_pos _) hNB rfl) ?_
    · show un < cLine; exact lt_none hu
    k_steps
    all_goals repeat' (unfold Halt; ((k_here; (with_reducible show wpAny _ _ (call (Value.builtin _) [Value.ref _, _]) _ _ _); k_dflt (refine' append_K ?k1 ?k2 ?k3 ?_ ?z; (case k1 => k_asm); (case k2 => k_asm); (case k3 => k_upd); (case z => assumption); k_whole); intro h' F' N'; (try k_sweep))); k_steps)
    all_goals repeat' (unfold Halt; ((k_here; (with_reducible show wpAny _ _ (subscriptTail _ (PySem.Expr.Slice none (some _) none _) (Value.ref _) (Value.ref _)) _ _ _); k_dflt (refine' slice_two ?F ?N ?l ?_ ?s; (case F => k_asm); (case N => k_asm); (case l => k_mem); (case s => with_unfolding_all rfl)); intro D' h' F' N' l1; (try k_lt l1); (try k_sweep))); k_steps)
    unfold Halt
    refine DoesT.use (rgbhls_callT _ _ _ _ _ _ x1 x2 x3 PT.ne PT.sum PT.range PT.rest) (by k_asm) (by k_asm) (by k_asm) (by k_asm) (by k_asm) rfl ?_ ?_ ?_ ?_
    · show dp + 1 < recursionLimit; exact lt_room (k := 1) hd (by decide)
    · show un + 8 < cLine; exact lt_room (k := 8) hu (by decide)
    · first | assumption | exact Nat.succ_pos _ | (dsimp only; lia)
    rintro v5 news5 hh5 tkk5 FF5 NN5 ht5 ⟨hue2, sat2, ⟨d5, z1, z2, z3, rfl, rfl, hl5, g1, g2, g3, -⟩, hhue2⟩
    dsimp only at ht5
    have hhue2 := PT.hue _ hhue2
    k_lt hl5
    subst hhue2
    rw [PT.light] at NN5
    k_steps
    all_goals repeat' (unfold Halt; ((k_here; (with_reducible show wpAny _ _ (call (Value.builtin _) [Value.ref _, _]) _ _ _); k_dflt (refine' append_K ?k1 ?k2 ?k3 ?_ ?z; (case k1 => k_asm); (case k2 => k_asm); (case k3 => k_upd); (case z => assumption); k_whole); intro h' F' N'; (try k_sweep))); k_steps)
    all_goals repeat' (unfold Halt; ((k_here; (with_reducible show wpAny _ _ (subscriptTail _ (PySem.Expr.Slice none (some _) none _) (Value.ref _) (Value.ref _)) _ _ _); k_dflt (refine' slice_two ?F ?N ?l ?_ ?s; (case F => k_asm); (case N => k_asm); (case l => k_mem); (case s => with_unfolding_all rfl)); intro D' h' F' N' l1; (try k_lt l1); (try k_sweep))); k_steps)
    unfold Halt
    have hNB2 : NoneBooked _ := none_booked X T (by assumption)
    refine ne_tup2 (by assumption) (.tail _ (.head _)) (.head _) ?_ (eqD_yes (by lia) g1 y1 hNB2 rfl) (eqD_yes (by have := TO.d4.c0; have := TO.d4.c1; lia) g2 (Nat.succ_pos _) hNB2 rfl) ?_
    · show un < cLine; exact lt_none hu
    k_steps
    all_goals repeat' (unfold Halt; ((k_here; (with_reducible show wpAny _ _ (call (Value.builtin _) [Value.ref _, _]) _ _ _); k_dflt (refine' append_K ?k1 ?k2 ?k3 ?_ ?z; (case k1 => k_asm); (case k2 => k_asm); (case k3 => k_upd); (case z => assumption); k_whole); intro h' F' N'; (try k_sweep))); k_steps)
    all_goals repeat' (unfold Halt; ((k_here; (with_reducible show wpAny _ _ (subscriptTail _ (PySem.Expr.Slice none (some _) none _) (Value.ref _) (Value.ref _)) _ _ _); k_dflt (refine' slice_two ?F ?N ?l ?_ ?s; (case F => k_asm); (case N => k_asm); (case l => k_mem); (case s => with_unfolding_all rfl)); intro D' h' F' N' l1; (try k_lt l1); (try k_sweep))); k_steps)
    rename News _ _ _ _ => NZ
    have hN := cb_drop NZ (List.forall_mem_cons.mpr ⟨.tail _ (.tail _ (.tail _ (.tail _ (.tail _ (.tail _ (.tail _ (.head _))))))), fun _ h => .tail _ (.tail _ (.tail _ (.tail _ (.tail _ (.tail _ (.tail _ (.tail _ h)))))))⟩)
    rename Fr _ _ _ _ => FZ
    refine LpT.next (vs ++ [.float (D (64 * (64 / W * (fi + st * (0 + (i : Int))) % 64))) w1], ep + 1) FZ (by simpa using hN) ⟨told_snoc hT y1 (by lia) (by lia) (by rw [TO.hue, Int.zero_add]; rfl), ⟨⟨_, rfl⟩, ⟨_, rfl⟩, ⟨_, rfl⟩, ⟨_, rfl⟩, ⟨_, rfl⟩, ⟨_, e6⟩⟩, rfl⟩
  · rintro ⟨vs, ep⟩ m' h' tk ⟨hT, hF, hm⟩ FF NN
    simp only [List.cons_append, List.nil_append] at NN
    k_steps
    all_goals repeat' (unfold Halt; ((k_here; (with_reducible show wpAny _ _ (call (Value.builtin _) [Value.ref _, _]) _ _ _); k_dflt (refine' append_K ?k1 ?k2 ?k3 ?_ ?z; (case k1 => k_asm); (case k2 => k_asm); (case k3 => k_upd); (case z => assumption); k_whole); intro h' F' N'; (try k_sweep))); k_steps)
    all_goals repeat' (unfold Halt; ((k_here; (with_reducible show wpAny _ _ (subscriptTail _ (PySem.Expr.Slice none (some _) none _) (Value.ref _) (Value.ref _)) _ _ _); k_dflt (refine' slice_two ?F ?N ?l ?_ ?s; (case F => k_asm); (case N => k_asm); (case l => k_mem); (case s => with_unfolding_all rfl)); intro D' h' F' N' l1; (try k_lt l1); (try k_sweep))); k_steps)
    exact hret _ _ _ _ _ FF NN ⟨rfl, hF, hm, vs, ep, _, rfl, hT⟩
end
section -- Z1
open PySem PySem.W PyProof.Rows PySem.Calls
set_option maxRecDepth 100000

noncomputable abbrev ZipF (h : Heap) (z TI TO : Addr) (f0 : Value) (f : Bool) : Prop :=
  h.get? z = some { cls := .type "zip", dict := none, data := .fields #[f0, .bool f, .bool false, .ref TI, .ref TO], slots := #[] }

section
variable {prog : Program} {w : World} {A : Around} {E : Value → Shared → Prop} {s : Shared}

theorem nextOf_range {it : Addr} {x left step : Int} {Q : Value → Shared → Prop} (hit : IsRangeIter s.heap it x left step) (hleft : 0 < left)
    (hQ : ∀ h', IsRangeIter h' it (x + step) (left - 1) step → Heap.SameBut it s.heap h' → Q (.int x s.toks) { s with heap := h', toks := s.toks + 1 }) :
    wpAny (model prog w) A (Builtin.SmallTypes.nextOf (.ref it)) Q E s := by
  have hT : s.TypeIs (.ref it) "range_iterator" := ⟨_, hit, rfl⟩
  unfold Builtin.SmallTypes.nextOf
  refine wpAny_bind (wpAny_callSpecial?_slot (name := Str.ofString "__next__") hT F.slot_range_iterator_next
    (call_meets F.slot_range_iterator_next hT F.entry_range_iterator_next (F.args_range_iterator_next_1 _) (AutoRange.range_iterator___next___range_iterator_1 it x left step (by lia)) ⟨hit, ?_⟩))
  exact wpAny_pure (hQ _ (Heap.get?_update_self _ (Heap.get?_update_self _ hit rfl) rfl) ((Heap.SameBut.update ..).trans (Heap.SameBut.update ..)))

/-- the parts of a zip of a list and a range lie apart -/
structure ZApart (z TI TO i1 i2 l : Addr) : Prop where
  TIz : TI ≠ z
  TOz : TO ≠ z
  i1z : i1 ≠ z
  i2z : i2 ≠ z
  TITO : TI ≠ TO
  TIi1 : TI ≠ i1
  TIi2 : TI ≠ i2
  TOi1 : TO ≠ i1
  TOi2 : TO ≠ i2
  i12 : i1 ≠ i2
  lz : l ≠ z
  lTO : l ≠ TO
  li1 : l ≠ i1
  li2 : l ≠ i2

theorem zr_first {z TI TO i1 i2 l : Addr} {k1 : Nat} {xs : Array Value} {x a b : Value} {k left : Int} {Q : Value → Shared → Prop} (D : ZApart z TI TO i1 i2 l)
    (hz : ZipF s.heap z TI TO .none false) (hTI : IsPair s.heap TI (.ref i1) (.ref i2)) (hTO : IsPair s.heap TO a b)
    (h1 : s.heap.IsListIter i1 l k1) (h2 : IsRangeIter s.heap i2 k left 1) (hl1 : s.heap.IsList l xs) (hx : xs[k1]? = some x) (hleft : 0 < left)
    (hQ : ∀ h', ZipF h' z TI TO (rawInt s.heap.objs.size) false → h'.IsListIter i1 l (k1 + 1) → IsRangeIter h' i2 (k + 1) (left - 1) 1 → IsPair h' s.heap.objs.size x (.int k s.toks) → h'.objs.size = s.heap.objs.size + 1 →
      (∀ c o, c ≠ z → c ≠ TO → c ≠ i1 → c ≠ i2 → s.heap.get? c = some o → h'.get? c = some o) → Q (.ref s.heap.objs.size) { s with heap := h', toks := s.toks + 1 }) :
    wpAny (model prog w) A (Builtin.«zip.__next__» ⟨[.ref z], []⟩) (fun fin s' => ∃ v, fin = .done (.ret v) ∧ Q v s') E s := by
  show wpAny _ _ (field (.ref z) 2 >>= _) _ _ _
  refine wpAny_bind (wpAny_field hz rfl (x := .bool false) rfl ?_)
  show wpAny _ _ (field (.ref z) 3 >>= _) _ _ _
  refine wpAny_bind (wpAny_field hz rfl (x := .ref TI) rfl ?_)
  refine wpAny_bind (wpAny_seqItems hTI rfl ?_)
  show wpAny _ _ (Builtin.SmallTypes.ownedTupleIsFree (.ref z) >>= _) _ _ _
  refine wpAny_bind ?_
  unfold Builtin.SmallTypes.ownedTupleIsFree
  refine wpAny_bind (wpAny_field hz rfl (x := .none) rfl (wpAny_pure ?_))
  simp only [if_true]
  refine wpAny_bind (wpAny_rule ?_)
  refine wpAny_bind (wpAny_field hz rfl (x := .ref TO) rfl ?_)
  refine wpAny_bind (wpAny_setField_rec hz (by simp) fun h₁ hz₁ hs₁ => ?_)
  replace hz₁ : ZipF h₁ z TI TO .ellipsis false := hz₁
  refine wpAny_bind ?_
  simp only [List.zipIdx_cons, List.zipIdx_nil, List.forIn_cons, List.forIn_nil]
  refine wpAny_bind (wpAny_bind (wpAny_onRaise ?_))
  show wpAny _ _ (Builtin.SmallTypes.nextOf (.ref i1) >>= _) _ _ _
  refine wpAny_bind (wpAny_nextOf_list_item (h1.extBut hs₁.extBut D.i1z) (hl1.extBut hs₁.extBut D.lz) hx fun h₂ h1₂ hs₂ => wpAny_pure ?_)
  have hTO₂ : IsPair h₂ TO a b := hs₂.extBut _ _ D.TOi1 (hs₁.extBut _ _ D.TOz hTO)
  refine wpAny_bind (wpAny_seqItems hTO₂ rfl ?_)
  refine wpAny_bind (wpAny_updateSeq_pair hTO₂ fun h₃ hTO₃ hs₃ => ?_)
  replace hTO₃ : IsPair h₃ TO x b := hTO₃
  refine wpAny_bind (wpAny_letGo (wpAny_pure ?_))
  refine wpAny_bind (wpAny_bind (wpAny_onRaise ?_))
  show wpAny _ _ (Builtin.SmallTypes.nextOf (.ref i2) >>= _) _ _ _
  have h2₃ : IsRangeIter h₃ i2 k left 1 := hs₃.extBut _ _ D.TOi2.symm (hs₂.extBut _ _ D.i12.symm (hs₁.extBut _ _ D.i2z h2))
  refine wpAny_bind (nextOf_range (s := { s with heap := h₃ }) h2₃ hleft fun h₄ h2₄ hs₄ => wpAny_pure ?_)
  have hTO₄ : IsPair h₄ TO x b := hs₄.extBut _ _ D.TOi2 hTO₃
  refine wpAny_bind (wpAny_seqItems hTO₄ rfl ?_)
  refine wpAny_bind (wpAny_updateSeq_pair hTO₄ fun h₅ hTO₅ hs₅ => ?_)
  replace hTO₅ : IsPair h₅ TO x (.int k s.toks) := hTO₅
  refine wpAny_bind (wpAny_letGo (wpAny_pure (wpAny_pure ?_)))
  refine wpAny_bind (wpAny_seqItems hTO₅ rfl ?_)
  refine wpAny_bind (wpAny_newTuple ?_)
  have hsz : h₅.objs.size = s.heap.objs.size := by rw [hs₅.1]; show h₄.objs.size = _; rw [hs₄.1]; show h₃.objs.size = _; rw [hs₃.1, hs₂.1, hs₁.1]
  have hz₅ : ZipF h₅ z TI TO .ellipsis false := hs₅.extBut _ _ D.TOz.symm (hs₄.extBut _ _ D.i2z.symm (hs₃.extBut _ _ D.TOz.symm (hs₂.extBut _ _ D.i1z.symm hz₁)))
  have hk₅ : ∀ c o, c ≠ z → c ≠ TO → c ≠ i1 → c ≠ i2 → s.heap.get? c = some o → h₅.get? c = some o := fun c o c1 c2 c3 c4 e =>
    hs₅.extBut _ _ c2 (hs₄.extBut _ _ c4 (hs₃.extBut _ _ c2 (hs₂.extBut _ _ c3 (hs₁.extBut _ _ c1 e))))
  have h1₅ : h₅.IsListIter i1 l (k1 + 1) := ((h1₂.extBut hs₃.extBut D.TOi1.symm).extBut hs₄.extBut D.i12).extBut hs₅.extBut D.TOi1.symm
  have h2₅ : IsRangeIter h₅ i2 (k + 1) (left - 1) 1 := hs₅.extBut _ _ D.TOi2.symm h2₄
  have hzlt : z < h₅.objs.size := Heap.lt_size hz₅
  show wpAny _ _ (Builtin.SmallTypes.ownedTupleHandOut (.ref z) (.ref h₅.objs.size) >>= _) _ _ _
  refine wpAny_bind ?_
  unfold Builtin.SmallTypes.ownedTupleHandOut
  have hz₆ : ZipF (h₅.push { cls := .type "tuple", data := .seq #[x, .int k s.toks] }) z TI TO .ellipsis false := Heap.get?_push_of_some _ hz₅
  refine wpAny_bind (wpAny_setField_rec hz₆ (by simp) fun h₇ hz₇ hs₇ => ?_)
  replace hz₇ : ZipF h₇ z TI TO (rawInt h₅.objs.size) false := hz₇
  refine wpAny_setField_rec hz₇ (by simp) fun h₈ hz₈ hs₈ => ?_
  replace hz₈ : ZipF h₈ z TI TO (rawInt h₅.objs.size) false := hz₈
  have up : ∀ c o, c ≠ z → h₅.get? c = some o → h₈.get? c = some o := fun c o c1 e => hs₈.extBut _ _ c1 (hs₇.extBut _ _ c1 (Heap.get?_push_of_some _ e))
  have hT₈ : IsPair h₈ h₅.objs.size x (.int k s.toks) := hs₈.extBut _ _ (Nat.ne_of_gt hzlt) (hs₇.extBut _ _ (Nat.ne_of_gt hzlt) (Heap.get?_push_size _ rfl))
  have hz8 : h₈.objs.size = h₅.objs.size + 1 := by rw [hs₈.1, hs₇.1, Heap.size_push]
  rw [hsz] at hz₈ hT₈ hz8
  refine wpAny_pure ⟨_, rfl, ?_⟩
  show Q (.ref h₅.objs.size) _
  rw [hsz]
  exact hQ h₈ hz₈ (h1₅.at fun o e => up _ o D.i1z e) (up _ _ D.i2z h2₅) hT₈ hz8 fun c o c1 c2 c3 c4 e => up c o c1 (hk₅ c o c1 c2 c3 c4 e)

/-- a next with the tuple handed out still alive: what goes ahead of the draws -/
theorem zr_held {z TI TO a : Addr} {f : Bool} {oa : Obj} {Q : Bool → Shared → Prop}
    (hz : ZipF s.heap z TI TO (rawInt a) f) (ha : s.heap.get? a = some oa)
    (hQ : ∀ h', ZipF h' z TI TO (rawInt a) true → Heap.SameBut z s.heap h' → Q false { s with heap := h' }) :
    wpAny (model prog w) A (Builtin.SmallTypes.ownedTupleIsFree (.ref z)) Q E s := by
  unfold Builtin.SmallTypes.ownedTupleIsFree
  refine wpAny_bind (wpAny_field hz rfl (x := rawInt a) rfl ?_)
  show wpAny _ _ (loadIfAlive ((a : Int).toNat) >>= _) _ _ _
  rw [Int.toNat_natCast]
  refine wpAny_bind (kdx_alive ha ?_)
  simp only [Option.isNone_some, Bool.false_eq_true, if_false]
  refine wpAny_bind (wpAny_field hz rfl (x := .bool f) rfl ?_)
  cases f with
  | true =>
    rw [if_neg (show ¬ ((Value.bool true != Value.bool true) = true) from Bool.false_ne_true)]
    exact wpAny_pure (hQ _ hz (Heap.SameBut.refl _ _))
  | false =>
    rw [if_pos (show (Value.bool false != Value.bool true) = true from rfl)]
    exact wpAny_bind (wpAny_setField_rec hz (by simp) fun h₃ he₃ hs₃ => wpAny_pure (hQ h₃ he₃ hs₃))
end
end
section -- Z2
open PySem PySem.W PyProof.Rows PySem.Calls
set_option maxRecDepth 100000
section
variable {prog : Program} {w : World} {A : Around} {E : Value → Shared → Prop} {s : Shared}

theorem zr_next {z TI TO i1 i2 l a : Addr} {f : Bool} {oa : Obj} {k1 : Nat} {xs : Array Value} {x : Value} {k left : Int} {Q : Value → Shared → Prop} (D : ZApart z TI TO i1 i2 l)
    (hz : ZipF s.heap z TI TO (rawInt a) f) (ha : s.heap.get? a = some oa) (hTI : IsPair s.heap TI (.ref i1) (.ref i2))
    (h1 : s.heap.IsListIter i1 l k1) (h2 : IsRangeIter s.heap i2 k left 1) (hl1 : s.heap.IsList l xs) (hx : xs[k1]? = some x) (hleft : 0 < left)
    (hQ : ∀ h', ZipF h' z TI TO (rawInt a) true → h'.IsListIter i1 l (k1 + 1) → IsRangeIter h' i2 (k + 1) (left - 1) 1 → IsPair h' s.heap.objs.size x (.int k s.toks) → h'.objs.size = s.heap.objs.size + 1 →
      (∀ c o, c ≠ z → c ≠ i1 → c ≠ i2 → s.heap.get? c = some o → h'.get? c = some o) → Q (.ref s.heap.objs.size) { s with heap := h', toks := s.toks + 1 }) :
    wpAny (model prog w) A (Builtin.«zip.__next__» ⟨[.ref z], []⟩) (fun fin s' => ∃ v, fin = .done (.ret v) ∧ Q v s') E s := by
  show wpAny _ _ (field (.ref z) 2 >>= _) _ _ _
  refine wpAny_bind (wpAny_field hz rfl (x := .bool false) rfl ?_)
  show wpAny _ _ (field (.ref z) 3 >>= _) _ _ _
  refine wpAny_bind (wpAny_field hz rfl (x := .ref TI) rfl ?_)
  refine wpAny_bind (wpAny_seqItems hTI rfl ?_)
  show wpAny _ _ (Builtin.SmallTypes.ownedTupleIsFree (.ref z) >>= _) _ _ _
  refine wpAny_bind (zr_held hz ha fun h₁ hz₁ hs₁ => ?_)
  simp only [Bool.false_eq_true, if_false]
  rw [← Array.forIn_toList]
  simp only [List.forIn_cons, List.forIn_nil]
  refine wpAny_bind (wpAny_bind (wpAny_bind (wpAny_holding ?_)))
  show wpAny _ _ (Builtin.SmallTypes.nextOf (.ref i1) >>= _) _ _ _
  refine wpAny_bind (wpAny_nextOf_list_item (h1.extBut hs₁.extBut D.i1z) (hl1.extBut hs₁.extBut D.lz) hx fun h₂ h1₂ hs₂ => wpAny_pure ?_)
  have h2₂ : IsRangeIter h₂ i2 k left 1 := hs₂.extBut _ _ D.i12.symm (hs₁.extBut _ _ D.i2z h2)
  refine wpAny_pure ?_
  refine wpAny_bind (wpAny_bind (wpAny_holding ?_))
  show wpAny _ _ (Builtin.SmallTypes.nextOf (.ref i2) >>= _) _ _ _
  refine wpAny_bind (nextOf_range (s := { s with heap := h₂ }) h2₂ hleft fun h₄ h2₄ hs₄ => wpAny_pure ?_)
  refine wpAny_pure (wpAny_pure ?_)
  dsimp only
  refine wpAny_bind (wpAny_newTuple (hsz := by show 2 ≤ sizeLine; rw [sizeLine_eq]; lia) ?_)
  have hsz : h₄.objs.size = s.heap.objs.size := by rw [hs₄.1]; show h₂.objs.size = _; rw [hs₂.1, hs₁.1]
  have hz₄ : ZipF h₄ z TI TO (rawInt a) true := hs₄.extBut _ _ D.i2z.symm (hs₂.extBut _ _ D.i1z.symm hz₁)
  refine wpAny_pure ⟨_, rfl, ?_⟩
  show Q (.ref h₄.objs.size) _
  rw [hsz]
  refine hQ _ (Heap.get?_push_of_some _ hz₄) ((h1₂.extBut hs₄.extBut D.i12).at fun o e => Heap.get?_push_of_some _ e) (Heap.get?_push_of_some _ h2₄) ?_ (by rw [Heap.size_push, hsz]) fun c o c1 c2 c3 e => Heap.get?_push_of_some _ (hs₄.extBut _ _ c3 (hs₂.extBut _ _ c2 (hs₁.extBut _ _ c1 e)))
  have := Heap.get?_push_size h₄ (o := { cls := .type "tuple", data := .seq #[x, .int k s.toks] }) rfl
  rw [hsz] at this
  exact this

theorem zr_end {z TI TO i1 i2 l a : Addr} {f : Bool} {oa : Obj} {k1 : Nat} {xs : Array Value} {Q : PySem.Fin → Shared → Prop} (hh : A.handled = none) (D : ZApart z TI TO i1 i2 l)
    (hz : ZipF s.heap z TI TO (rawInt a) f) (ha : s.heap.get? a = some oa) (hTI : IsPair s.heap TI (.ref i1) (.ref i2))
    (h1 : s.heap.IsListIter i1 l k1) (hl1 : s.heap.IsList l xs) (hx : xs[k1]? = none)
    (hE : ∀ h' e, (∀ c o, c ≠ z → c ≠ i1 → s.heap.get? c = some o → h'.get? c = some o) → (∃ o, h'.get? e = some o ∧ o.cls = .type "StopIteration") → E (.ref e) { s with heap := h' }) :
    wpAny (model prog w) A (Builtin.«zip.__next__» ⟨[.ref z], []⟩) Q E s := by
  show wpAny _ _ (field (.ref z) 2 >>= _) _ _ _
  refine wpAny_bind (wpAny_field hz rfl (x := .bool false) rfl ?_)
  show wpAny _ _ (field (.ref z) 3 >>= _) _ _ _
  refine wpAny_bind (wpAny_field hz rfl (x := .ref TI) rfl ?_)
  refine wpAny_bind (wpAny_seqItems hTI rfl ?_)
  show wpAny _ _ (Builtin.SmallTypes.ownedTupleIsFree (.ref z) >>= _) _ _ _
  refine wpAny_bind (zr_held hz ha fun h₁ hz₁ hs₁ => ?_)
  simp only [Bool.false_eq_true, if_false]
  rw [← Array.forIn_toList]
  simp only [List.forIn_cons, List.forIn_nil]
  refine wpAny_bind (wpAny_bind (wpAny_bind (wpAny_holding ?_)))
  show wpAny _ _ (Builtin.SmallTypes.nextOf (.ref i1) >>= _) _ _ _
  exact wpAny_bind (wpAny_nextOf_list_end hh (h1.extBut hs₁.extBut D.i1z) (hl1.extBut hs₁.extBut D.lz) hx fun h₂ e hs₂ he => hE h₂ e (fun c o c1 c2 x => hs₂ _ _ c2 (hs₁.extBut _ _ c1 x)) he)

/-- the zip ahead of its i-th draw -/
noncomputable def ZSt (h : Heap) (z TI TO i1 i2 l S : Addr) (xs : Array Value) (n i : Nat) : Prop :=
  IsPair h TI (.ref i1) (.ref i2) ∧ h.IsListIter i1 l i ∧ IsRangeIter h i2 (0 + (i : Int)) ((n : Int) - (i : Int)) 1 ∧ h.IsList l xs ∧
  ((i = 0 ∧ ZipF h z TI TO .none false ∧ ∃ a b, IsPair h TO a b) ∨ ∃ (a : Addr) (f : Bool) (oa : Obj), ZipF h z TI TO (rawInt a) f ∧ h.get? a = some oa ∧ a ≠ z ∧ a ≠ i1 ∧ a ≠ i2 ∧ a ≠ S)
theorem ZSt.keep {h h' : Heap} {z TI TO i1 i2 l S : Addr} {xs : Array Value} {n i : Nat} (x : ZSt h z TI TO i1 i2 l S xs n i) (hk : ∀ b o, b ≠ S → h.get? b = some o → h'.get? b = some o) (h1 : z ≠ S) (h2 : TI ≠ S) (h3 : TO ≠ S) (h4 : i1 ≠ S) (h5 : i2 ≠ S) (h6 : l ≠ S) : ZSt h' z TI TO i1 i2 l S xs n i := by
  obtain ⟨a1, a2, a3, a4, a5⟩ := x
  refine ⟨hk _ _ h2 a1, a2.at fun o e => hk _ o h4 e, hk _ _ h5 a3, a4.at fun o e => hk _ o h6 e, ?_⟩
  rcases a5 with ⟨e, b1, a, b, b2⟩ | ⟨a, f, oa, b1, b2, b3, b4, b5, b6⟩
  · exact .inl ⟨e, hk _ _ h1 b1, a, b, hk _ _ h3 b2⟩
  · exact .inr ⟨a, f, oa, hk _ _ h1 b1, hk _ _ b6 b2, b3, b4, b5, b6⟩
theorem zst_item {z TI TO i1 i2 l S : Addr} {xs : Array Value} {n i : Nat} {x : Value} {Q : Option Value → Shared → Prop} (D : ZApart z TI TO i1 i2 l) (hst : ZSt s.heap z TI TO i1 i2 l S xs n i) (hS : S < s.heap.objs.size) (hx : xs[i]? = some x) (hi : i < n)
    (hQ : ∀ h' t, ZSt h' z TI TO i1 i2 l S xs n (i + 1) → IsPair h' s.heap.objs.size x (.int (i : Int) t) → h'.objs.size = s.heap.objs.size + 1 →
      (∀ c o, c ≠ z → c ≠ TO → c ≠ i1 → c ≠ i2 → s.heap.get? c = some o → h'.get? c = some o) → Q (some (.ref s.heap.objs.size)) { s with heap := h', toks := s.toks + 1 }) :
    wpAny (model prog w) A (pyNext (.ref z)) Q E s := by
  obtain ⟨a1, a2, a3, a4, a5⟩ := hst
  have hT : s.TypeIs (.ref z) "zip" := by
    rcases a5 with ⟨_, b1, _⟩ | ⟨_, _, _, b1, _⟩ <;> exact ⟨_, b1, rfl⟩
  have i1lt : i1 < s.heap.objs.size := by obtain ⟨_, e, _⟩ := a2; exact Heap.lt_size e
  have i2lt : i2 < s.heap.objs.size := Heap.lt_size a3
  have c1 : (0 : Int) + (i : Int) + 1 = 0 + ((i + 1 : Nat) : Int) := by lia
  have c2 : (n : Int) - (i : Int) - 1 = (n : Int) - ((i + 1 : Nat) : Int) := by lia
  unfold pyNext
  refine wpAny_bind (wpAny_attempt (wpAny_callSpecial?_slot (name := Str.ofString "__next__") hT F.slot_zip_next
    (wpAny_call_entry F.slot_zip_next hT F.entry_zip_next ?_ (F.args_zip_next_1 _))))
  rcases a5 with ⟨e, b1, a, b, b2⟩ | ⟨a, f, oa, b1, b2, b3, b4, b5, b6⟩
  · have zlt : z < s.heap.objs.size := Heap.lt_size b1
    refine zr_first D b1 a1 b2 a2 a3 a4 hx (by lia) fun h' d1 d2 d3 d4 d5 d6 => wpAny_pure (hQ h' s.toks ⟨d6 _ _ D.TIz D.TITO D.TIi1 D.TIi2 a1, d2, ?_, a4.at fun o e => d6 _ o D.lz D.lTO D.li1 D.li2 e, ?_⟩ ?_ d5 d6)
    · rw [c1, c2] at d3; exact d3
    · exact .inr ⟨_, _, _, d1, d4, Nat.ne_of_gt zlt, Nat.ne_of_gt i1lt, Nat.ne_of_gt i2lt, Nat.ne_of_gt hS⟩
    · rw [Int.zero_add] at d4; exact d4
  · refine zr_next D b1 b2 a1 a2 a3 a4 hx (by lia) fun h' d1 d2 d3 d4 d5 d6 => wpAny_pure (hQ h' s.toks ⟨d6 _ _ D.TIz D.TIi1 D.TIi2 a1, d2, ?_, a4.at fun o e => d6 _ o D.lz D.li1 D.li2 e, ?_⟩ ?_ d5 fun c o e1 _ e3 e4 e => d6 c o e1 e3 e4 e)
    · rw [c1, c2] at d3; exact d3
    · exact .inr ⟨a, _, _, d1, d6 _ _ b3 b4 b5 b2, b3, b4, b5, b6⟩
    · rw [Int.zero_add] at d4; exact d4
theorem zst_done {z TI TO i1 i2 l S : Addr} {xs : Array Value} {n i : Nat} {Q : Option Value → Shared → Prop} (hh : A.handled = none) (D : ZApart z TI TO i1 i2 l) (hst : ZSt s.heap z TI TO i1 i2 l S xs n i) (hx : xs[i]? = none) (hi : 0 < i)
    (hQ : ∀ h', (∀ c o, c ≠ z → c ≠ i1 → s.heap.get? c = some o → h'.get? c = some o) → Q none { s with heap := h' }) :
    wpAny (model prog w) A (pyNext (.ref z)) Q E s := by
  obtain ⟨a1, a2, a3, a4, a5⟩ := hst
  rcases a5 with ⟨e, _⟩ | ⟨a, f, oa, b1, b2, b3, b4, b5, b6⟩
  · lia
  have hT : s.TypeIs (.ref z) "zip" := ⟨_, b1, rfl⟩
  unfold pyNext
  refine wpAny_bind (wpAny_attempt (wpAny_callSpecial?_slot (name := Str.ofString "__next__") hT F.slot_zip_next
    (wpAny_call_entry F.slot_zip_next hT F.entry_zip_next (zr_end hh D b1 b2 a1 a2 a4 hx fun h' e hk he => ?_) (F.args_zip_next_1 _))))
  obtain ⟨o, ho, hc⟩ := he
  refine wpAny_bind (wpAny_isInstance (T := "StopIteration") (b := true) ⟨o, ho, hc⟩ isSubtype_stop ?_)
  exact wpAny_pure (hQ _ hk)
end
end
section -- Z3
open PySem PySem.W PyProof.Rows PySem.Calls
set_option maxRecDepth 100000

/-- the pairs that the zip has handed out -/
structure ZG (xs : Array Value) (S : Addr) (h : Heap) (D : List (Addr × Obj)) : Prop where
  rise : D.Pairwise (fun p q => p.1 < q.1)
  above : ∀ p ∈ D, S < p.1
  there : ∀ p ∈ D, h.get? p.1 = some p.2
  are : ∀ (j : Nat) (p : Addr × Obj), D[j]? = some p → ∃ x t, xs[j]? = some x ∧ p.2 = tup [x, .int (j : Int) t]

section
variable {prog : Program} {w : World} {A : Around} {E : Value → Shared → Prop} {s : Shared} {R : Result → Shared → Prop} {z TI TO i1 i2 l S : Addr} {xs : Array Value} {n : Nat}

theorem zr_loop (hh : A.handled = none) (Dz : ZApart z TI TO i1 i2 l) (hn : n ≤ sizeLine) (hn0 : 0 < n) (hxs : xs.size = n) (hSa : ∀ b ∈ [z, TI, TO, i1, i2, l], b < S) (res : Value) {h₁ : Heap}
    (hR : ∀ h' tk acc c D, (∀ b o, b ≠ S → b ∉ [z, TO, i1, i2] → h₁.get? b = some o → h'.get? b = some o) → h'.get? S = some { cls := .type "list", dict := none, data := .seq acc c, slots := #[] } → D.length = n → ZG xs S h' D →
      acc.toList = D.map (fun p => Value.ref p.1) → R (.ok (.ret res)) { s with heap := h', toks := tk }) :
    ∀ (k i : Nat) (h : Heap) (tk c : Nat) (acc : Array Value) (D : List (Addr × Obj)), n - i = k → i ≤ n → ZSt h z TI TO i1 i2 l S xs n i → (∀ b o, b ≠ S → b ∉ [z, TO, i1, i2] → h₁.get? b = some o → h.get? b = some o) →
      h.get? S = some { cls := .type "list", dict := none, data := .seq acc c, slots := #[] } → acc.toList = D.map (fun p => Value.ref p.1) → D.length = i → ZG xs S h D →
      codeAny (model prog w) A (.builtin "list.extend.loop" ⟨[.ref S, .ref z, res], []⟩) R { s with heap := h, toks := tk } := by
  have ne : ∀ b ∈ [z, TI, TO, i1, i2, l], b ≠ S := fun b hb => Nat.ne_of_lt (hSa b hb)
  have hzS := ne z (by simp)
  have hTIS := ne TI (by simp)
  have hTOS := ne TO (by simp)
  have hi1S := ne i1 (by simp)
  have hi2S := ne i2 (by simp)
  have hlS := ne l (by simp)
  have offD : ∀ {b : Addr}, S < b → b ≠ z ∧ b ≠ TO ∧ b ≠ i1 ∧ b ≠ i2 := fun hb => ⟨Nat.ne_of_gt (Nat.lt_trans (hSa z (by simp)) hb), Nat.ne_of_gt (Nat.lt_trans (hSa TO (by simp)) hb), Nat.ne_of_gt (Nat.lt_trans (hSa i1 (by simp)) hb), Nat.ne_of_gt (Nat.lt_trans (hSa i2 (by simp)) hb)⟩
  intro k
  induction k with
  | zero =>
    intro i h tk c acc D hk hi hst hkeep hS hacc hal hG
    have hin : i = n := by lia
    refine codeAny_builtin PySem.F.entry_extend_loop ?_
    rw [Around.under_plainId PySem.F.plain_extend_loop _]
    show wpAny _ A.in1 (pyNext (.ref z) >>= _) _ _ _
    refine wpAny_bind (zst_done (s := { s with heap := h, toks := tk }) (A := A.in1) hh Dz hst (Array.getElem?_eq_none (by lia)) (by lia) fun h' he => ?_)
    refine wpAny_pure (hR h' tk acc c D (fun b o h1 h2 e => he b o (fun q => h2 (by simp [q])) (fun q => h2 (by simp [q])) (hkeep b o h1 h2 e)) (he S _ (Ne.symm hzS) (Ne.symm hi1S) hS) (by lia) ⟨hG.rise, hG.above, fun p hp => ?_, hG.are⟩ hacc)
    have q := offD (hG.above p hp)
    exact he p.1 _ q.1 q.2.2.1 (hG.there p hp)
  | succ k ih =>
    intro i h tk c acc D hk hi hst hkeep hS hacc hal hG
    have hlt : i < n := by lia
    have hx : xs[i]? = some xs[i] := Array.getElem?_eq_getElem (by omega)
    have hsz : acc.size = i := by rw [← Array.length_toList, hacc, List.length_map, hal]
    have hSl : S < h.objs.size := Heap.lt_size hS
    refine codeAny_builtin PySem.F.entry_extend_loop ?_
    rw [Around.under_plainId PySem.F.plain_extend_loop _]
    show wpAny _ A.in1 (pyNext (.ref z) >>= _) _ _ _
    refine wpAny_bind (zst_item (s := { s with heap := h, toks := tk }) Dz hst hSl hx hlt fun h' t hst' ht hz hkp => ?_)
    dsimp only at ht hz hkp ⊢
    have hS' := hkp S _ (Ne.symm hzS) (Ne.symm hTOS) (Ne.symm hi1S) (Ne.symm hi2S) hS
    have up : ∀ b o, b ≠ S → h'.get? b = some o → (h'.update S (Obj.mapSeq (·.push (Value.ref h.objs.size)))).get? b = some o := fun b o hb e => (Heap.get?_update_other _ _ (Ne.symm hb)).trans e
    show wpAny _ A.in1 (updateSeq S (·.push (Value.ref h.objs.size)) >>= _) _ _ _
    refine wpAny_bind ?_
    refine wpAny_updateSeq hS' rfl (wpAny_pure ⟨plainId_quiet PySem.F.plain_extend_loop _, ih (i + 1) _ _ _ (acc.push (Value.ref h.objs.size)) (D ++ [(h.objs.size, tup [xs[i], .int (i : Int) t])]) (by lia) hlt (hst'.keep up hzS hTIS hTOS hi1S hi2S hlS)
      (fun b o h1 h2 e => up b o h1 (hkp b o (fun q => h2 (by simp [q])) (fun q => h2 (by simp [q])) (fun q => h2 (by simp [q])) (fun q => h2 (by simp [q])) (hkeep b o h1 h2 e))) (Heap.get?_update_self _ hS' rfl) (by rw [Array.toList_push, hacc, List.map_append]; rfl) (by rw [List.length_append, hal]; rfl) ⟨?_, ?_, ?_, ?_⟩⟩) (by rw [hsz]; lia) (by show (acc.push (Value.ref h.objs.size)).size ≤ sizeLine + 1; rw [Array.size_push, hsz]; lia)
    · refine List.pairwise_append.mpr ⟨hG.rise, List.pairwise_singleton _ _, fun p hp q hq => ?_⟩
      rw [List.mem_singleton.mp hq]
      exact Heap.lt_size (hG.there p hp)
    · intro p hp
      rcases List.mem_append.mp hp with hp | hp
      · exact hG.above p hp
      · rw [List.mem_singleton.mp hp]; exact hSl
    · intro p hp
      rcases List.mem_append.mp hp with hp | hp
      · have q := offD (hG.above p hp)
        exact up _ _ (Nat.ne_of_gt (hG.above p hp)) (hkp _ _ q.1 q.2.1 q.2.2.1 q.2.2.2 (hG.there p hp))
      · rw [List.mem_singleton.mp hp]
        exact up _ _ (Nat.ne_of_gt hSl) ht
    · intro j p hj
      rcases Nat.lt_trichotomy j D.length with h1 | h1 | h1
      · rw [List.getElem?_append_left h1] at hj
        exact hG.are j p hj
      · subst h1
        have hb : (h.objs.size, tup [xs[i], .int (i : Int) t]) = p := by simpa using hj
        subst hb
        exact ⟨xs[i], t, by rw [hal]; exact hx, by rw [hal]⟩
      · have hnone : (D ++ [(h.objs.size, tup [xs[i], .int (i : Int) t])])[j]? = none := List.getElem?_eq_none (by rw [List.length_append, List.length_singleton]; lia)
        rw [hnone] at hj; cases hj
end
theorem zip_no_len : typeLookup (.type "zip") "__len__" = pure none := by rw [typeLookup_type, builtinLookup_eq_fast]; kernel_rfl
theorem zip_no_hint : typeLookup (.type "zip") "__length_hint__" = pure none := by rw [typeLookup_type, builtinLookup_eq_fast]; kernel_rfl
end
section -- Z4
open PySem PySem.W PyProof.Rows PySem.Calls
set_option maxRecDepth 100000
section
variable {prog : Program} {w : World} {A : Around} {E : Value → Shared → Prop} {s : Shared} {z TI TO i1 i2 l S : Addr} {xs : Array Value} {n : Nat}

theorem zr_collect {R : List Value → Shared → Prop} (hh : A.handled = none) (Dz : ZApart z TI TO i1 i2 l) (hn : n ≤ sizeLine) (hn0 : 0 < n) (hxs : xs.size = n) (hst : ∀ S, ZSt s.heap z TI TO i1 i2 l S xs n 0)
    (h : ∀ (h' : Heap) (tk : Nat) (D : List (Addr × Obj)), (∀ b o, b ∉ [z, TO, i1, i2] → s.heap.get? b = some o → h'.get? b = some o) → D.length = n → ZG xs s.heap.objs.size h' D → R (D.map fun p => Value.ref p.1) { s with heap := h', toks := tk }) :
    wpAny (model prog w) A (collect (.ref z)) R E s := by
  have hst0 := hst s.heap.objs.size
  have lt : ∀ b ∈ [z, TI, TO, i1, i2, l], b < s.heap.objs.size := by
    obtain ⟨a1, a2, a3, a4, a5⟩ := hst0
    rcases a5 with ⟨_, b1, a, b, b2⟩ | ⟨a, f, oa, b1, b2, b3, b4, b5, b6⟩
    · intro c hc
      simp only [List.mem_cons, List.not_mem_nil, or_false] at hc
      rcases hc with rfl | rfl | rfl | rfl | rfl | rfl
      · exact Heap.lt_size b1
      · exact Heap.lt_size a1
      · exact Heap.lt_size b2
      · obtain ⟨_, e, _⟩ := a2; exact Heap.lt_size e
      · exact Heap.lt_size a3
      · obtain ⟨_, e, _⟩ := a4; exact Heap.lt_size e
    · exfalso
      obtain ⟨_, _, _, _, c5⟩ := hst a
      rcases c5 with ⟨_, c1, _⟩ | ⟨a', f', oa', c1, c2, c3, c4, c5, c6⟩
      · have : (some _ : Option Obj) = some _ := b1.symm.trans c1
        simp [rawInt] at this
      · have : (some _ : Option Obj) = some _ := b1.symm.trans c1
        simp [rawInt] at this
        exact c6 (Int.ofNat.inj this.1.symm)
  have hT : s.TypeIs (.ref z) "zip" := by
    obtain ⟨_, _, _, _, a5⟩ := hst0
    rcases a5 with ⟨_, b1, _⟩ | ⟨_, _, _, b1, _⟩ <;> exact ⟨_, b1, rfl⟩
  have hzS : s.heap.objs.size ≠ z := Nat.ne_of_gt (lt z (by simp))
  have old : ∀ {b : Addr} {o : Obj}, s.heap.get? b = some o → b ≠ s.heap.objs.size := fun e => Nat.ne_of_lt (Heap.lt_size e)
  unfold collect
  refine wpAny_bind (wpAny_runValue (codeAny_builtin entry_proto_collect' ?_))
  rw [Around.under_plainId PySem.F.plain_proto_collect _]
  show wpAny _ A.in1 (newList [] >>= fun l => again (.builtin "list.__iadd__" ⟨[l, .ref z], []⟩)) _ _ s
  refine wpAny_bind (wpAny_newObj_type ?_)
  refine wpAny_pure ⟨plainId_quiet PySem.F.plain_list_iadd _, codeAny_builtin entry_list_iadd' ?_⟩
  rw [Around.under_plainId PySem.F.plain_list_iadd _]
  have hS₁ : (s.heap.push { cls := .type "list", data := .seq ([] : List Value).toArray }).get? s.heap.objs.size = some { cls := .type "list", data := .seq #[] } := Heap.get?_push_size _ rfl
  show wpAny _ A.in1 (Builtin.List.listExtendWith (.ref s.heap.objs.size) (.ref z) (.ref s.heap.objs.size)) _ _ _
  have hT₁ : Shared.TypeIs { s with heap := s.heap.push { cls := .type "list", data := .seq ([] : List Value).toArray } } (.ref z) "zip" := by
    obtain ⟨o, ho, hc⟩ := hT
    exact ⟨o, Heap.get?_push_of_some _ ho, hc⟩
  unfold Builtin.List.listExtendWith
  refine wpAny_bind (wpAny_typeOf hT₁ ?_)
  have h1 : Builtin.List.listSameRef (.ref s.heap.objs.size) (.ref z) = false := by simp [Builtin.List.listSameRef, hzS]
  have h2 : (Value.type "zip" == Value.type "list") = false := by decide
  have h3 : (Value.type "zip" == Value.type "tuple") = false := by decide
  simp only [h1, h2, h3, Bool.or_false, Bool.false_eq_true, if_false]
  have hst₁ : ZSt (s.heap.push { cls := .type "list", data := .seq ([] : List Value).toArray }) z TI TO i1 i2 l s.heap.objs.size xs n 0 :=
    hst0.keep (fun b o _ e => Heap.get?_push_of_some _ e) (Nat.ne_of_lt (lt _ (by simp))) (Nat.ne_of_lt (lt _ (by simp))) (Nat.ne_of_lt (lt _ (by simp))) (Nat.ne_of_lt (lt _ (by simp))) (Nat.ne_of_lt (lt _ (by simp))) (Nat.ne_of_lt (lt _ (by simp)))
  have hIter : ∀ {Q : Value → Shared → Prop}, Q (.ref z) { s with heap := s.heap.push { cls := .type "list", data := .seq ([] : List Value).toArray } } →
      wpAny (model prog w) A.in1 (pyIter (.ref z)) Q (fun e s' => False) { s with heap := s.heap.push { cls := .type "list", data := .seq ([] : List Value).toArray } } := fun hq => by
    refine wpAny_pyIter_slot hT₁ F.slot_zip_iter (wpAny_call_entry F.slot_zip_iter hT₁ F.entry_zip_iter ?_ (F.args_zip_iter_1 _))
    show wpAny _ _ (ret (.ref z)) _ _ _
    exact wpAny_pure ⟨_, rfl, "zip", _, hT₁, F.slot_zip_next.lookup, hq⟩
  refine wpAny_bind (wpAny_mono (hIter ?_) (fun _ _ q => q) fun _ _ q => q.elim)
  refine wpAny_bind (wpAny_holding ?_)
  unfold Builtin.List.listLengthHint
  refine wpAny_bind (wpAny_specialOf hT₁ zip_no_len ?_)
  show wpAny _ A.in1 (specialOf (Value.ref z) (Str.ofString "__length_hint__") >>= _) _ _ _
  refine wpAny_bind (wpAny_specialOf hT₁ zip_no_hint ?_)
  refine wpAny_pure ?_
  show wpAny _ A.in1 (rule "list.extend.makes-room" >>= fun _ => Builtin.List.listTouch (.ref s.heap.objs.size) >>= fun _ =>
    again (.builtin "list.extend.loop" ⟨[.ref s.heap.objs.size, .ref z, .ref s.heap.objs.size], []⟩)) _ _ _
  refine wpAny_bind (wpAny_rule ?_)
  refine wpAny_bind ?_
  show wpAny _ A.in1 (updateSeq s.heap.objs.size (·.push .none) >>= fun _ => updateSeq s.heap.objs.size (·.pop)) _ _ _
  refine wpAny_bind (wpAny_updateSeq hS₁ rfl ?_)
  have hS₂ := Heap.get?_update_self (Obj.mapSeq (·.push Value.none)) hS₁ rfl
  refine wpAny_updateSeq hS₂ rfl ?_
  have hS₃ := Heap.get?_update_self (Obj.mapSeq (·.pop)) hS₂ rfl
  have oth : ∀ b o, b ≠ s.heap.objs.size → (s.heap.push { cls := .type "list", data := .seq ([] : List Value).toArray }).get? b = some o →
      (((s.heap.push { cls := .type "list", data := .seq ([] : List Value).toArray }).update s.heap.objs.size (Obj.mapSeq (·.push Value.none))).update s.heap.objs.size (Obj.mapSeq (·.pop))).get? b = some o :=
    fun b o hb e => (Heap.get?_update_other _ _ (Ne.symm hb)).trans ((Heap.get?_update_other _ _ (Ne.symm hb)).trans e)
  refine wpAny_pure ⟨plainId_quiet PySem.F.plain_extend_loop _, zr_loop (S := s.heap.objs.size) (s := s) hh Dz hn hn0 hxs lt _ (h₁ := s.heap.push { cls := .type "list", data := .seq ([] : List Value).toArray }) ?_ n 0 _ _ _ _ [] (by lia) (Nat.zero_le _)
    (hst₁.keep oth (Nat.ne_of_lt (lt _ (by simp))) (Nat.ne_of_lt (lt _ (by simp))) (Nat.ne_of_lt (lt _ (by simp))) (Nat.ne_of_lt (lt _ (by simp))) (Nat.ne_of_lt (lt _ (by simp))) (Nat.ne_of_lt (lt _ (by simp))))
    (fun b o hb _ e => oth b o hb e) hS₃ rfl rfl ⟨List.Pairwise.nil, (fun _ hp => nomatch hp), (fun _ hp => nomatch hp), (fun j p hj => by simp at hj)⟩⟩
  intro h' tk acc c D hk hS' hD hG hacc
  show wpAny _ A (load s.heap.objs.size >>= _) _ _ _
  refine wpAny_bind (wpAny_load hS' ?_)
  refine wpAny_pure ?_
  show R acc.toList _
  rw [hacc]
  exact h h' tk D (fun b o hb e => hk b o (old e) hb (Heap.get?_push_of_some _ e)) hD hG
end
end
section -- S1
open PySem PySem.W PyProof.Rows
/-- the tree of questions asks of numbers below n alone, and with f's answers ends in Q -/
noncomputable def endsIn {α : Type} (n : Nat) (f : Nat → Nat → Bool) : KasT α → (α → Prop) → Prop
  | .ret a, Q => Q a
  | .ask i j k, Q => i < n ∧ j < n ∧ endsIn n f (k (f i j)) Q
theorem endsIn_bind {α β : Type} {n : Nat} {f : Nat → Nat → Bool} {g : α → KasT β} {Q : β → Prop} : ∀ (t : KasT α), endsIn n f (t.bind g) Q ↔ endsIn n f t (fun a => endsIn n f (g a) Q)
  | .ret _ => Iff.rfl
  | .ask i j k => by
    show (i < n ∧ j < n ∧ endsIn n f ((k (f i j)).bind g) Q) ↔ (i < n ∧ j < n ∧ endsIn n f (k (f i j)) _)
    rw [endsIn_bind]
theorem endsIn_mono {α : Type} {n : Nat} {f : Nat → Nat → Bool} {Q Q' : α → Prop} (hq : ∀ a, Q a → Q' a) : ∀ (t : KasT α), endsIn n f t Q → endsIn n f t Q'
  | .ret a, h => hq a h
  | .ask i j k, h => ⟨h.1, h.2.1, endsIn_mono hq _ h.2.2⟩
theorem endsIn_wp {α : Type} {n : Nat} {f : Nat → Nat → Bool} {cmp : Nat → Nat → (Bool → Shared → Prop) → Shared → Prop} {G : α → Shared → Prop} {s : Shared}
    (ha : ∀ i j (C : Bool → Shared → Prop), i < n → j < n → C (f i j) s → cmp i j C s) : ∀ (t : KasT α), endsIn n f t (fun a => G a s) → t.kasWp cmp G s
  | .ret a, h => h
  | .ask i j k, h => ha i j _ h.1 h.2.1 (endsIn_wp ha _ h.2.2)

theorem ask_yes {α : Type} {n i j : Nat} {f : Nat → Nat → Bool} {T₁ T₂ : KasT α} {Q : α → Prop} (hi : i < n) (hj : j < n) (h : f i j = true) (H : endsIn n f T₁ Q) : endsIn n f (.ask i j fun c => if c = true then T₁ else T₂) Q :=
  ⟨hi, hj, by show endsIn n f (if f i j = true then T₁ else T₂) Q; rw [if_pos h]; exact H⟩
theorem ask_no {α : Type} {n i j : Nat} {f : Nat → Nat → Bool} {T₁ T₂ : KasT α} {Q : α → Prop} (hi : i < n) (hj : j < n) (h : f i j = false) (H : endsIn n f T₂ Q) : endsIn n f (.ask i j fun c => if c = true then T₁ else T₂) Q :=
  ⟨hi, hj, by show endsIn n f (if f i j = true then T₁ else T₂) Q; rw [if_neg (by rw [h]; simp)]; exact H⟩

section
variable {n : Nat} {key : Nat → Int}
noncomputable abbrev lessBy (key : Nat → Int) (i j : Nat) : Bool := decide (key i < key j)
/-- p is the numbers below n, in some order -/
structure Shuf (n : Nat) (p : Array Nat) : Prop where
  size : p.size = n
  lt : ∀ i, i < n → p.getD i 0 < n
  inj : ∀ i j, i < n → j < n → p.getD i 0 = p.getD j 0 → i = j
noncomputable abbrev kAt (key : Nat → Int) (p : Array Nat) (i : Nat) : Int := key (p.getD i 0)
noncomputable def Asc (key : Nat → Int) (p : Array Nat) (m : Nat) : Prop := ∀ i j, i < j → j < m → kAt key p i < kAt key p j
noncomputable def Desc (key : Nat → Int) (p : Array Nat) (m : Nat) : Prop := ∀ i j, i < j → j < m → kAt key p j < kAt key p i
theorem Shuf.ne {p : Array Nat} (S : Shuf n p) (hk : ∀ i j, i < n → j < n → key i = key j → i = j) {i j : Nat} (hi : i < n) (hj : j < n) (hij : i ≠ j) : kAt key p i ≠ kAt key p j :=
  fun e => hij (S.inj i j hi hj (hk _ _ (S.lt i hi) (S.lt j hj) e))

theorem asc_ends {p : Array Nat} (S : Shuf n p) (hk : ∀ i j, i < n → j < n → key i = key j → i = j) : ∀ (fuel m : Nat), 1 ≤ m → m + fuel ≤ n → Asc key p m →
    endsIn n (lessBy key) (kas_asc p fuel m) fun r => m ≤ r ∧ r ≤ m + fuel ∧ Asc key p r ∧ (r = m → fuel = 0 ∨ kAt key p m < kAt key p (m - 1))
  | 0, m, h1, hm, ha => ⟨Nat.le_refl _, Nat.le_refl _, ha, fun _ => .inl rfl⟩
  | fuel + 1, m, h1, hm, ha => by
    by_cases q : kAt key p m < kAt key p (m - 1)
    · refine ask_yes (S.lt m (by lia)) (S.lt (m - 1) (by omega)) (decide_eq_true q) ?_
      exact ⟨Nat.le_refl _, by lia, ha, fun _ => .inr q⟩
    · refine ask_no (S.lt m (by lia)) (S.lt (m - 1) (by lia)) (decide_eq_false q) ?_
      have hne := S.ne (key := key) hk (show m < n by lia) (show m - 1 < n by lia) (by omega)
      refine endsIn_mono (fun r hr => ⟨by omega, by omega, hr.2.2.1, fun e => by omega⟩) _ (asc_ends S hk fuel (m + 1) (by lia) (by lia) fun i j hij hj => ?_)
      by_cases hjm : j < m
      · exact ha i j hij hjm
      · have : j = m := by lia
        subst this
        by_cases hi : i = j - 1
        · subst hi; omega
        · have := ha i (j - 1) (by lia) (by omega)
          omega

theorem desc_ends {p : Array Nat} (S : Shuf n p) (hk : ∀ i j, i < n → j < n → key i = key j → i = j) : ∀ (fuel m : Nat), 1 ≤ m → m + fuel ≤ n → Desc key p m →
    endsIn n (lessBy key) (kas_desc fuel p m 0) fun r => r.1 = p ∧ r.2.2 = 0 ∧ m ≤ r.2.1 ∧ r.2.1 ≤ m + fuel ∧ Desc key p r.2.1
  | 0, m, h1, hm, ha => ⟨rfl, rfl, Nat.le_refl _, Nat.le_refl _, ha⟩
  | fuel + 1, m, h1, hm, ha => by
    by_cases q : kAt key p m < kAt key p (m - 1)
    · refine ask_yes (S.lt m (by lia)) (S.lt (m - 1) (by lia)) (decide_eq_true q) ?_
      rw [if_neg (by lia)]
      refine endsIn_mono (fun r hr => ⟨hr.1, hr.2.1, by lia, by lia, hr.2.2.2.2⟩) _ (desc_ends S hk fuel (m + 1) (by lia) (by lia) fun i j hij hj => ?_)
      by_cases hjm : j < m
      · exact ha i j hij hjm
      · have : j = m := by lia
        subst this
        by_cases hi : i = j - 1
        · subst hi; omega
        · have := ha i (j - 1) (by lia) (by omega)
          omega
    · refine ask_no (S.lt m (by lia)) (S.lt (m - 1) (by lia)) (decide_eq_false q) ?_
      have hne := S.ne (key := key) hk (show m < n by lia) (show m - 1 < n by lia) (by lia)
      refine ask_yes (S.lt (m - 1) (by lia)) (S.lt m (by lia)) (decide_eq_true (by show kAt key p (m - 1) < kAt key p m; omega)) ?_
      exact ⟨rfl, rfl, Nat.le_refl _, (show m ≤ m + (fuel + 1) by lia), ha⟩

theorem getD_of {p q : Array Nat} {i j : Nat} (h : p[i]? = q[j]?) : p.getD i 0 = q.getD j 0 := by
  rw [Array.getD_eq_getD_getElem?, Array.getD_eq_getD_getElem?, h]

/-- a shuffle of the places -/
theorem Shuf.move {p q : Array Nat} (S : Shuf n p) (hs : q.size = n) (g : Nat → Nat) (hg : ∀ i, i < n → g i < n) (hi : ∀ i j, i < n → j < n → g i = g j → i = j) (hq : ∀ i, i < n → q.getD i 0 = p.getD (g i) 0) : Shuf n q where
  size := hs
  lt := fun i h => by rw [hq i h]; exact S.lt _ (hg i h)
  inj := fun i j h h' e => by
    rw [hq i h, hq j h'] at e
    exact hi i j h h' (S.inj _ _ (hg i h) (hg j h') e)

theorem rev_at {p : Array Nat} {m : Nat} (hm : m ≤ p.size) (i : Nat) (hi : i < p.size) : (kas_rev p 0 m).getD i 0 = p.getD (if i < m then m - 1 - i else i) 0 := by
  unfold kas_rev
  refine getD_of ?_
  rw [getElem?_mirror hm _ (by lia)]
  by_cases h : i < m
  · rw [if_pos h]
    by_cases h2 : (0 ≤ i ∧ i < 0 + (m - 0) / 2) ∨ (m - (m - 0) / 2 ≤ i ∧ i < m)
    · rw [if_pos h2]; congr 1; lia
    · rw [if_neg h2]
      have : i = m - 1 - i := by lia
      rw [← this]
  · rw [if_neg h, if_neg (by lia)]
theorem rev_shuf {p : Array Nat} {m : Nat} (S : Shuf n p) (hm : m ≤ n) : Shuf n (kas_rev p 0 m) :=
  S.move ((kas_rev_size 0 m).trans S.size) (fun i => if i < m then m - 1 - i else i) (fun i h => by split <;> omega) (fun i j h h' e => by split at e <;> split at e <;> omega) fun i h => rev_at (by rw [S.size]; exact hm) i (by rw [S.size]; exact h)
theorem rev_asc {p : Array Nat} {m : Nat} (S : Shuf n p) (hm : m ≤ n) (hd : Desc key p m) : Asc key (kas_rev p 0 m) m := by
  intro i j hij hj
  show key _ < key _
  rw [rev_at (by rw [S.size]; exact hm) i (by rw [S.size]; lia), rev_at (by rw [S.size]; exact hm) j (by rw [S.size]; lia), if_pos (by lia), if_pos hj]
  exact hd (m - 1 - j) (m - 1 - i) (by omega) (by omega)

theorem bub_at {p : Array Nat} {k l : Nat} (hk : k < p.size) (hl : l ≤ k) (i : Nat) : (bubble p k (k - l)).getD i 0 = p.getD (if i = l then k else if l < i ∧ i ≤ k then i - 1 else i) 0 := by
  refine getD_of ?_
  rw [getElem?_bubble hk _ (by omega), show k - (k - l) = l by lia]
  by_cases h : i = l
  · rw [if_pos h, if_pos h]
  · rw [if_neg h, if_neg h]
    by_cases h2 : l < i ∧ i ≤ k
    · rw [if_pos h2, if_pos h2]
    · rw [if_neg h2, if_neg h2]
theorem bub_shuf {p : Array Nat} {k l : Nat} (S : Shuf n p) (hk : k < n) (hl : l ≤ k) : Shuf n (bubble p k (k - l)) :=
  S.move ((bubble_size _ _ _).trans S.size) (fun i => if i = l then k else if l < i ∧ i ≤ k then i - 1 else i) (fun i h => by (repeat' split) <;> omega) (fun i j h h' e => by (repeat' split at e) <;> lia) fun i _ => bub_at (by rw [S.size]; exact hk) hl i

theorem place_ends {p : Array Nat} (S : Shuf n p) (hk : ∀ i j, i < n → j < n → key i = key j → i = j) {k : Nat} (hkn : k < n) (ha : Asc key p k) : ∀ (f l r : Nat), r ≤ k → l ≤ r → r - l ≤ f → (∀ i, i < l → kAt key p i < kAt key p k) → (∀ i, r ≤ i → i < k → kAt key p k < kAt key p i) →
    endsIn n (lessBy key) (kas_place p k f l r) fun x => x ≤ k ∧ (∀ i, i < x → kAt key p i < kAt key p k) ∧ ∀ i, x ≤ i → i < k → kAt key p k < kAt key p i
  | 0, l, r, hr, hlr, hf, h1, h2 => ⟨by lia, h1, fun i hi => h2 i (by lia)⟩
  | f + 1, l, r, hr, hlr, hf, h1, h2 => by
    unfold kas_place
    by_cases q : l ≥ r
    · rw [if_pos q]
      exact ⟨by lia, h1, fun i hi => h2 i (by lia)⟩
    · rw [if_neg q]
      have hm : (l + r) / 2 < k := by lia
      by_cases c : kAt key p k < kAt key p ((l + r) / 2)
      · refine ask_yes (S.lt k hkn) (S.lt _ (by lia)) (decide_eq_true c) ?_
        refine place_ends S hk hkn ha f l ((l + r) / 2) (by lia) (by lia) (by omega) h1 fun i hi hik => ?_
        by_cases e : i = (l + r) / 2
        · rw [e]; exact c
        · have := ha ((l + r) / 2) i (by lia) hik
          omega
      · refine ask_no (S.lt k hkn) (S.lt _ (by lia)) (decide_eq_false c) ?_
        have hne := S.ne (key := key) hk hkn (show (l + r) / 2 < n by lia) (by lia)
        refine place_ends S hk hkn ha f ((l + r) / 2 + 1) r hr (by lia) (by omega) (fun i hi => ?_) h2
        by_cases e : i = (l + r) / 2
        · rw [e]; omega
        · have := ha i ((l + r) / 2) (by lia) hm
          omega

theorem bin_ends (hk : ∀ i j, i < n → j < n → key i = key j → i = j) : ∀ (f : Nat) (p : Array Nat) (k : Nat), Shuf n p → k + f = n → Asc key p k → endsIn n (lessBy key) (kas_bin f p k) fun q => Shuf n q ∧ Asc key q n
  | 0, p, k, S, hf, ha => ⟨S, (show k = n by omega) ▸ ha⟩
  | f + 1, p, k, S, hf, ha => by
    unfold kas_bin
    rw [endsIn_bind]
    have hkn : k < n := by lia
    refine endsIn_mono (fun l hl => ?_) _ (place_ends S hk hkn ha k 0 k (Nat.le_refl _) (Nat.zero_le _) (by lia) (fun i hi => absurd hi (Nat.not_lt_zero _)) (fun i h1 h2 => by lia))
    obtain ⟨hl, h1, h2⟩ := hl
    refine bin_ends hk f _ (k + 1) (bub_shuf S hkn hl) (by lia) fun i j hij hj => ?_
    show key _ < key _
    rw [bub_at (by rw [S.size]; exact hkn) hl i, bub_at (by rw [S.size]; exact hkn) hl j]
    have A := ha
    by_cases e1 : i = l
    · subst e1
      rw [if_pos rfl, if_neg (by lia), if_pos (by lia)]
      exact h2 (j - 1) (by omega) (by omega)
    · by_cases e2 : j = l
      · subst e2
        rw [if_neg e1, if_neg (by lia), if_pos rfl]
        exact h1 i hij
      · rw [if_neg e1, if_neg e2]
        by_cases e3 : l < i ∧ i ≤ k
        · rw [if_pos e3, if_pos (by lia)]
          exact ha (i - 1) (j - 1) (by omega) (by omega)
        · rw [if_neg e3]
          by_cases e4 : l < j ∧ j ≤ k
          · rw [if_pos e4]
            by_cases e5 : i < j - 1
            · exact ha i (j - 1) e5 (by lia)
            · lia
          · rw [if_neg e4]
            exact ha i j hij (by lia)

theorem sort_ends (hn : 2 ≤ n) (hk : ∀ i j, i < n → j < n → key i = key j → i = j) : endsIn n (lessBy key) (kas_sort n) fun q => Shuf n q ∧ Asc key q n := by
  have S : Shuf n (List.toArray (List.range n)) := by
    have e : ∀ i, i < n → (List.toArray (List.range n)).getD i 0 = i := fun i hi => by simp [Array.getD, hi]
    exact ⟨by simp, fun i hi => by rw [e i hi]; exact hi, fun i j hi hj h => by rwa [e i hi, e j hj] at h⟩
  have fin : ∀ (r : Nat × Array Nat), 1 ≤ r.1 → r.1 ≤ n → Shuf n r.2 → Asc key r.2 r.1 → endsIn n (lessBy key) (if r.1 < n then kas_bin (n - max r.1 1) r.2 (max r.1 1) else .ret r.2) fun q => Shuf n q ∧ Asc key q n := by
    intro r h1 h2 hS hA
    by_cases q : r.1 < n
    · rw [if_pos q, Nat.max_eq_left h1]
      exact bin_ends hk _ _ _ hS (by lia) hA
    · rw [if_neg q]
      exact ⟨hS, (show r.1 = n by lia) ▸ hA⟩
  unfold kas_sort
  generalize List.toArray (List.range n) = p at S ⊢
  rw [endsIn_bind]
  refine endsIn_mono (Q := fun r => 1 ≤ r.1 ∧ r.1 ≤ n ∧ Shuf n r.2 ∧ Asc key r.2 r.1) (fun r h => fin r h.1 h.2.1 h.2.2.1 h.2.2.2) _ ?_
  unfold kas_count
  rw [endsIn_bind]
  refine endsIn_mono (fun m hm => ?_) _ (asc_ends S hk (n - 1) 1 (Nat.le_refl _) (by omega) fun i j hij hj => by omega)
  obtain ⟨m1, m2, mA, mE⟩ := hm
  by_cases q : m = n
  · rw [if_pos (beq_iff_eq.mpr q)]
    exact ⟨m1, by lia, S, mA⟩
  rw [if_neg (fun e => q (beq_iff_eq.mp e))]
  by_cases q2 : m > 1
  · rw [if_pos q2]
    refine ask_yes (S.lt 0 (by lia)) (S.lt (m - 1) (by lia)) (decide_eq_true (mA 0 (m - 1) (by omega) (by omega))) ?_
    exact ⟨m1, by lia, S, mA⟩
  rw [if_neg q2]
  have hm : m = 1 := by lia
  subst hm
  unfold kas_descPart
  rw [endsIn_bind]
  have h10 : kAt key p 1 < kAt key p 0 := by
    rcases mE rfl with e | e
    · lia
    · exact e
  refine endsIn_mono (fun r hr => ?_) _ (desc_ends S hk (n - 2) 2 (by lia) (by omega) fun i j hij hj => by
    have e1 : i = 0 := by lia
    have e2 : j = 1 := by lia
    rw [e1, e2]; exact h10)
  obtain ⟨r1, r2, r3, r4, r5⟩ := hr
  rw [if_neg (by lia), r1]
  unfold kas_tail3
  rw [endsIn_bind]
  have hrn : r.2.1 ≤ n := by omega
  exact endsIn_mono (fun x hx => ⟨by omega, by omega, rev_shuf S hrn, hx.2.2.1⟩) _ (asc_ends (rev_shuf S hrn) hk (n - r.2.1) r.2.1 (by lia) (by lia) (rev_asc S hrn r5))
end
end
section -- Z5
open PySem PySem.W PyProof.Rows PySem.Calls
set_option maxRecDepth 100000
noncomputable abbrev zr1 (h : Heap) (l : Addr) : Heap := h.push { cls := .type "list_iterator", data := .fields #[.ref l, .int 0 0] }
noncomputable abbrev zr2 (h : Heap) (l : Addr) (b : Int) : Heap := (zr1 h l).push { cls := .type "range_iterator", data := .fields #[rawInt 0, rawInt (Builtin.Range.rangeSize 0 b 1), rawInt 1] }
noncomputable abbrev zr3 (h : Heap) (l : Addr) (b : Int) : Heap := (zr2 h l b).push { cls := .type "tuple", data := .seq #[.ref h.objs.size, .ref (zr1 h l).objs.size] }
noncomputable abbrev zr4 (h : Heap) (l : Addr) (b : Int) : Heap := (zr3 h l b).push { cls := .type "tuple", data := .seq #[.none, .none] }
noncomputable abbrev zr5 (h : Heap) (l : Addr) (b : Int) : Heap := (zr4 h l b).push { cls := .type "zip", data := .fields #[.none, .bool false, .bool false, .ref (zr2 h l b).objs.size, .ref (zr3 h l b).objs.size] }

set_option maxHeartbeats 1000000 in
theorem meets_zr_new (l r : Addr) (xs : Array Value) (b : Int) (t u v : Tok) (hs : Builtin.Range.small 0 b 1 = true) :
    Meets (Builtin.«zip.__new__» ⟨[.type "zip", .ref l, .ref r], []⟩) (fun _ R s => s.heap.IsList l xs ∧ IsRange s.heap r 0 b 1 t u v ∧
      R (.ok (.ret (.ref (zr4 s.heap l b).objs.size))) { s with heap := zr5 s.heap l b }) :=
  .of_wp fun prog w A R s h => by
    obtain ⟨hp, g, d, tk, os⟩ := s; obtain ⟨hl1, hl2, h⟩ := h
    have hsub := sub_zip
    have hL1 : Heap.IsList (Shared.heap ⟨hp, g, d, tk, os⟩) l xs := hl1
    have hL2 : IsRange (Shared.heap ⟨hp.push { cls := .type "list_iterator", data := .fields #[.ref l, .int 0 0] }, g, d, tk, os⟩) r 0 b 1 t u v := Heap.get?_push_of_some _ hl2
    wp_walk using wpAny_pyIter_list hL1, wpAny_pyIter_range hL2 hs
    exact ⟨_, rfl, h⟩

/-- a zip made of a ledger's list and a range, none drawn -/
noncomputable def ZipAt (h₀ : Heap) (L : Addr) (h : Heap) (news : List (Addr × Obj)) (z : Addr) (xs : Array Value) (n : Nat) : Prop :=
  ∃ TI TO i1 i2 l, ZApart z TI TO i1 i2 l ∧ (∀ S, ZSt h z TI TO i1 i2 l S xs n 0) ∧ ∀ b ∈ [z, TO, i1, i2], b ≠ L ∧ h₀.get? b = none ∧ ∀ p ∈ news, p.1 ≠ b

section
variable {prog : Program} {w : World} {A : Around} {E : Value → Shared → Prop} {s : Shared} {h₀ : Heap} {L l r : Addr} {m : Str → Option Value} {news : List (Addr × Obj)} {vs : List Value} {ep n : Nat}

theorem zr_call {b : Int} {t u v : Tok} {Q : Value → Shared → Prop} (F : Fr h₀ L s.heap m) (N : News h₀ L s.heap news) (hl : (l, listOf vs.toArray ep) ∈ news) (hr : IsRange s.heap r 0 b 1 t u v) (hs : Builtin.Range.small 0 b 1 = true)
    (hn : Builtin.Range.rangeSize 0 b 1 = ((n : Nat) : Int))
    (h : ∀ z h', Fr h₀ L h' m → News h₀ L h' news → ZipAt h₀ L h' news z vs.toArray n → Q (.ref z) { s with heap := h' }) :
    wpAny (model prog w) A (call (.type "zip") [.ref l, .ref r]) Q E s := by
  have hl1 : s.heap.IsList l vs.toArray := ⟨_, (N _ hl).1, rfl, _, rfl⟩
  refine callType_new PySem.F.called_zip (by decide) (PySem.F.typeCall_zip_2 _ _) (PySem.F.newCall_zip_2 _ _) (fun obj => PySem.F.args_object_init_3 obj _ _) PySem.F.entry_zip_new
    (meets_zr_new l r vs.toArray b t u v hs) ⟨hl1, hr, ?_⟩
  have z1 : (zr1 s.heap l).objs.size = s.heap.objs.size + 1 := Heap.size_push ..
  have z2 : (zr2 s.heap l b).objs.size = s.heap.objs.size + 2 := by rw [Heap.size_push, z1]
  have z3 : (zr3 s.heap l b).objs.size = s.heap.objs.size + 3 := by rw [Heap.size_push, z2]
  have z4 : (zr4 s.heap l b).objs.size = s.heap.objs.size + 4 := by rw [Heap.size_push, z3]
  have z5 : (zr5 s.heap l b).objs.size = s.heap.objs.size + 5 := by rw [Heap.size_push, z4]
  have g5 : (zr5 s.heap l b).get? (zr4 s.heap l b).objs.size = some _ := Heap.get?_push_size _ rfl
  have g4 : (zr5 s.heap l b).get? (zr3 s.heap l b).objs.size = some _ := Heap.get?_push_of_some _ (Heap.get?_push_size _ rfl)
  have g3 : (zr5 s.heap l b).get? (zr2 s.heap l b).objs.size = some _ := Heap.get?_push_of_some _ (Heap.get?_push_of_some _ (Heap.get?_push_size _ rfl))
  have g2 : (zr5 s.heap l b).get? (zr1 s.heap l).objs.size = some _ := Heap.get?_push_of_some _ (Heap.get?_push_of_some _ (Heap.get?_push_of_some _ (Heap.get?_push_size _ rfl)))
  have g1 : (zr5 s.heap l b).get? s.heap.objs.size = some _ := Heap.get?_push_of_some _ (Heap.get?_push_of_some _ (Heap.get?_push_of_some _ (Heap.get?_push_of_some _ (Heap.get?_push_size _ rfl))))
  have up : ∀ c o, s.heap.get? c = some o → (zr5 s.heap l b).get? c = some o := fun c o x => Heap.get?_push_of_some _ (Heap.get?_push_of_some _ (Heap.get?_push_of_some _ (Heap.get?_push_of_some _ (Heap.get?_push_of_some _ x))))
  show _ ∧ _
  rw [z2, z3, z4] at g5
  rw [z1, z2] at g3
  rw [z3] at g4
  rw [z1, hn] at g2
  rw [z4]
  have ll : l < s.heap.objs.size := by obtain ⟨_, e, _⟩ := hl1; exact Heap.lt_size e
  have D : ZApart (s.heap.objs.size + 4) (s.heap.objs.size + 2) (s.heap.objs.size + 3) s.heap.objs.size (s.heap.objs.size + 1) l := by
    have := zipApart_new (n := s.heap.objs.size) ll ll
    exact ⟨this.TIz, this.TOz, this.i1z, this.i2z, this.TITO, this.TIi1, this.TIi2, this.TOi1, this.TOi2, this.i12, this.l1z, this.l1TO, this.l1i1, this.l1i2⟩
  have new : ∀ b, s.heap.objs.size ≤ b → b ≠ L ∧ h₀.get? b = none ∧ ∀ p ∈ news, p.1 ≠ b := fun b hb => by
    refine ⟨Nat.ne_of_gt (Nat.lt_of_lt_of_le F.ns.lt hb), ?_, fun p hp => Nat.ne_of_lt (Nat.lt_of_lt_of_le (Heap.lt_size (N p hp).1) hb)⟩
    cases e : h₀.get? b with
    | none => rfl
    | some o => exact absurd (Heap.lt_size (F.keep _ _ e)) (Nat.not_lt.mpr hb)
  refine ⟨⟨_, g5, rfl⟩, h _ _ (F.keeps up) (N.grown up) ⟨_, _, _, _, _, D, fun S => ⟨g3, ⟨_, g1, rfl, rfl⟩, ?_, hl1.at fun o e => up _ o e, .inl ⟨rfl, g5, _, _, g4⟩⟩, ?_⟩⟩
  · have e1 : (0 : Int) + ((0 : Nat) : Int) = 0 := rfl
    have e2 : (n : Int) - ((0 : Nat) : Int) = (n : Int) := Int.sub_zero _
    rw [e1, e2]; exact g2
  · intro b hb
    simp only [List.mem_cons, List.not_mem_nil, or_false] at hb
    rcases hb with rfl | rfl | rfl | rfl
    · exact new _ (Nat.le_add_right _ _)
    · exact new _ (Nat.le_add_right _ _)
    · exact new _ (Nat.le_refl _)
    · exact new _ (Nat.le_add_right _ _)
end
end
section -- Z6
open PySem PySem.W PyProof.Rows PySem.Calls PySem.SeqAt
set_option maxRecDepth 100000
section
variable {prog : Program} {w : World} {A : Around} {E : Value → Shared → Prop} {s : Shared}
theorem oneLt_float {a b : UInt64} {t u : Tok} {Q : Bool → Shared → Prop} (h : Q (Float64.cmp a b == some Ordering.lt) s) : wpAny (model prog w) A (oneLt' true (.float a t) (.float b u)) Q E s := by
  rw [oneLt'_eq]
  simp only [if_true]
  refine wpAny_bind (wpAny_cRoomFor_byValue rfl ?_)
  refine wpAny_bind (wpAny_callSpecialIfBound?_slot (AutoFloatOps.typeIs_float s a t) PySem.F.slot_float_lt (call_gives PySem.F.slot_float_lt (AutoFloatOps.typeIs_float s a t) PySem.F.entry_float_lt (PySem.F.args_float_lt_2 _ _) (AutoFloatG5.float___lt___float_float_0 a t b u) ?_))
  exact wpAny_truthy_bool h
theorem lt_dec {a b : Int} : ((some (compare a b) : Option Ordering) == some .lt) = decide (a < b) := by
  by_cases q : a < b
  · rw [beq_lt_true.mpr q, decide_eq_true q]
  · rw [decide_eq_false q, ← Bool.not_eq_true]
    exact fun h => q (beq_lt_true.mp h)

/-- two of the zip's pairs compared -/
theorem pair_lt {x y : Addr} {ka kb : Int} {i j : Nat} {ta tb ti tj : Tok} {Q : Bool → Shared → Prop} (hx : s.heap.get? x = some (tup [.float (D ka) ta, .int (i : Int) ti])) (hy : s.heap.get? y = some (tup [.float (D kb) tb, .int (j : Int) tj]))
    (ba : ka.natAbs < 2 ^ 53) (bb : kb.natAbs < 2 ^ 53) (pa : 0 < ta) (pb : 0 < tb) (hn : NoneBooked s.heap) (hk : ka = kb → i = j) (htk : ta = tb → ka = kb) (h : Q (decide (ka < kb)) s) :
    wpAny (model prog w) A (keyLt' (tuples' true) (.ref x) (.ref y)) Q E s := by
  refine kat_lt hx rfl hy rfl ?_
  refine kat_cons (eqD ba bb pa pb hn htk prog w _ _ ?_)
  by_cases e : ka = kb
  · rw [decide_eq_true e]
    refine kat_yes (kat_cons (EqAt.int_int (i : Int) ti (j : Int) tj prog w _ _ ?_))
    rw [show ((i : Int) == (j : Int)) = true from beq_iff_eq.mpr (by rw [hk e])]
    refine kat_yes (kat_nil ?_)
    rw [decide_eq_false (show ¬ ka < kb by lia)] at h
    exact h
  · rw [decide_eq_false e]
    refine kat_no ?_
    show wpAny _ _ (oneLt' true _ _) _ _ _
    refine oneLt_float ?_
    rw [D_cmp ba bb, lt_dec]
    exact h
end
section
variable {prog : Program} {w : World} {A : Around} {E : Value → Shared → Prop} {s : Shared} {h₀ : Heap} {L z : Addr} {m : Str → Option Value} {news : List (Addr × Obj)} {xs : Array Value} {n : Nat} {key : Nat → Int} {tok : Nat → Tok}

theorem zip_sorted {Q : Value → Shared → Prop} (F : Fr h₀ L s.heap m) (N : News h₀ L s.heap news) (Z : ZipAt h₀ L s.heap news z xs n) (hh : A.handled = none) (h2 : 2 ≤ n) (h64 : n < 64) (hxs : xs.size = n)
    (hf : ∀ j, j < n → 0 < tok j ∧ xs[j]? = some (.float (D (key j)) (tok j))) (hb : ∀ j, j < n → (key j).natAbs < 2 ^ 53) (hk : ∀ i j, i < n → j < n → key i = key j → i = j)
    (htok : ∀ i j, i < n → j < n → tok i = tok j → key i = key j) (hNB : ∀ h', Fr h₀ L h' m → NoneBooked h')
    (h : ∀ (R : Addr) (Dt : List (Addr × Obj)) (p : Array Nat) (c : Nat) (h' : Heap) (tk : Nat), Fr h₀ L h' m → News h₀ L h' ((R, listOf (List.toArray (p.toList.map fun i => (Dt.map fun q => Value.ref q.1).getD i Value.none)) c) :: (Dt ++ news)) → Shuf n p → Asc key p n →
      Dt.length = n → (∀ (j : Nat) (q : Addr × Obj), Dt[j]? = some q → ∃ x t, q.2 = tup [x, .int (j : Int) t]) → (∀ q ∈ Dt ++ news, q.1 < R) → (∀ q ∈ Dt, ∀ r ∈ news, r.1 < q.1) → Q (.ref R) { s with heap := h', toks := tk }) :
    wpAny (model prog w) A (call (.builtin "sorted") [.ref z]) Q E s := by
  obtain ⟨TI, TO, i1, i2, l, Dz, hst, hz⟩ := Z
  refine Calls.call_function_entry kind_sorted plain_sorted entry_sorted (args_sorted1 _) ?_
  unfold Builtin.«sorted»
  refine wpAny_bind (m := checkCount "sorted" 1 1 _) (wpAny_pure ?_)
  refine wpAny_bind (zr_collect hh Dz (by rw [sizeLine_eq]; lia) (by lia) hxs hst fun h₁ tk Dt hk₁ hD hG => ?_)
  have hlen : (Dt.map fun p => Value.ref p.1).length = n := by rw [List.length_map, hD]
  have F1 : Fr h₀ L h₁ m := ⟨F.ns.at' fun o e => hk₁ L o (fun q => (hz L q).1 rfl) e, fun b o e => hk₁ b o (fun q => by have := (hz b q).2.1; rw [e] at this; cases this) (F.keep b o e), F.above⟩
  have hSb : ∀ q ∈ Dt, ∀ r ∈ news, r.1 < q.1 := fun q hq r hr => Nat.lt_trans (Heap.lt_size (N r hr).1) (hG.above q hq)
  have new : ∀ b, s.heap.objs.size ≤ b → b ≠ L ∧ h₀.get? b = none := fun b hb => by
    refine ⟨Nat.ne_of_gt (Nat.lt_of_lt_of_le F.ns.lt hb), ?_⟩
    cases e : h₀.get? b with
    | none => rfl
    | some o => exact absurd (Heap.lt_size (F.keep _ _ e)) (Nat.not_lt.mpr hb)
  have N1 : News h₀ L h₁ (Dt ++ news) := fun p hp => by
    rcases List.mem_append.mp hp with hp | hp
    · exact ⟨hG.there p hp, new _ (Nat.le_of_lt (hG.above p hp))⟩
    · exact ⟨hk₁ _ _ (fun q => (hz _ q).2.2 p hp rfl) (N p hp).1, (N p hp).2⟩
  refine wpAny_bind (wpAny_newList ?_ (by rw [hlen, sizeLine_eq]; lia))
  have hoL : (h₁.push (seqObj "list" (Dt.map fun p => Value.ref p.1).toArray 0)).get? h₁.objs.size = some (seqObj "list" (Dt.map fun p => Value.ref p.1).toArray 0) := Heap.get?_push_size _ rfl
  have hL : L < h₁.objs.size := F1.ns.lt
  show wpAny _ _ _ _ _ { s with heap := h₁.push (seqObj "list" (Dt.map fun p => Value.ref p.1).toArray 0), toks := tk }
  refine wpAny_bind (wpAny_holding (wpAny_call_entry slot_list_sort ⟨_, hoL, rfl⟩ entry_list_sort ?body (args_list_sort _)))
  case body =>
    refine kat_list_sort (s := { s with heap := h₁.push (seqObj "list" (Dt.map fun p => Value.ref p.1).toArray 0), toks := tk }) (F1.push _) (fun p hp => ⟨Heap.get?_push_of_some _ (N1 p hp).1, (N1 p hp).2⟩) hoL (Nat.ne_of_gt hL)
      (Heap.get?_none_of_le (Nat.le_trans F1.above (Nat.le_of_lt hL))) (fun p hp => Nat.ne_of_lt (Heap.lt_size (N1 p hp).1)) (by rw [hlen]; exact h2) (by rw [hlen]; exact h64) fun e1 h' F' N' => ?_
    have pairs : ∀ j, j < n → ∃ a t, (Dt.map fun p => Value.ref p.1)[j]? = some (.ref a) ∧ h'.get? a = some (tup [.float (D (key j)) (tok j), .int (j : Int) t]) := fun j hj => by
      have hq : Dt[j]? = some Dt[j] := List.getElem?_eq_getElem (by omega)
      obtain ⟨x, t, hx, ho⟩ := hG.are j _ hq
      rw [(hf j hj).2] at hx
      cases hx
      refine ⟨Dt[j].1, t, by rw [List.getElem?_map, hq]; rfl, ?_⟩
      rw [← ho]
      exact (N' _ (.tail _ (List.mem_append_left _ (List.mem_of_getElem? hq)))).1
    have tups : ∀ (k i : Nat) (us : List (Addr × Obj)), us = Dt.drop i → i + k = n → KatTups h' (us.map fun p => Value.ref p.1) ((List.range' i k).map fun j => Value.float (D (key j)) (tok j)) := by
      intro k
      induction k with
      | zero =>
        intro i us hu hi
        have : us = [] := by rw [hu]; exact List.drop_eq_nil_of_le (by lia)
        subst this
        exact trivial
      | succ k ih =>
        intro i us hu hi
        have hlt : i < Dt.length := by lia
        rw [List.drop_eq_getElem_cons hlt] at hu
        subst hu
        obtain ⟨a, t, ha, ho⟩ := pairs i (by lia)
        have hq : Dt[i]? = some Dt[i] := List.getElem?_eq_getElem hlt
        rw [List.getElem?_map, hq] at ha
        have ha' : Dt[i].1 = a := by simpa using ha
        rw [← ha'] at ho
        exact ⟨⟨_, _, _, _, rfl, ho, rfl, rfl, rfl⟩, ih (i + 1) _ rfl (by lia)⟩
    have T := tups n 0 Dt (by rw [List.drop_zero]) (by lia)
    refine kat_kind (s := { s with heap := h', toks := tk }) (T := .type "float") T (by rw [List.length_map, List.length_range']; lia) (fun v hv => ?_) (by decide) ?_
    · obtain ⟨j, _, rfl⟩ := List.mem_map.mp hv
      exact Looks.now
    rw [show (Value.type "float" != Value.type "tuple") = true from by decide, hlen]
    refine endsIn_wp (n := n) (f := lessBy key) (fun i j C hi hj hC => ?_) _ (endsIn_mono (fun p hp => ?_) _ (sort_ends h2 hk))
    · obtain ⟨a, t, ha, ho⟩ := pairs i hi
      obtain ⟨b, u, hb', ho'⟩ := pairs j hj
      unfold kas_ask
      rw [List.getD_eq_getElem?_getD, ha, List.getD_eq_getElem?_getD, hb']
      exact pair_lt ho ho' (hb i hi) (hb j hj) (hf i hi).1 (hf j hj).1 (hNB h' F') (fun e => hk i j hi hj e) (fun e => htok i j hi hj e) hC
    · refine KasFin.intro F' N' (.head fun q hq => Nat.ne_of_lt (Heap.lt_size (N1 q hq).1)) fun h'' c F'' N'' => ?_
      exact ⟨_, rfl, wpAny_pure ⟨_, rfl, h _ Dt p c h'' tk F'' N'' hp.1 hp.2 hD (fun j q hq => by obtain ⟨x, t, _, ho⟩ := hG.are j q hq; exact ⟨x, t, ho⟩) (fun q hq => Heap.lt_size (N1 q hq).1) hSb⟩⟩
end
end
section -- K1
open PySem PySem.W PyProof.Rows PySem.Calls
section
variable {prog : Program} {w : World} {A : Around} {s : Shared} {h₀ : Heap} {L : Addr} {m : Str → Option Value} {env : Env}
/-- [b for a, b in its], its a list of pairs of the ledger with an int behind -/
theorem comp_pairs {x x₂ : Str} {pos : Pos} {scope : Scope} {cl : List (Str × Addr)} {S : List (Addr × Obj) → Prop} {Fin : List Value → List (Addr × Obj) → Prop} {news : List (Addr × Obj)} {its : Array Value} {n : Nat} {q : Nat → Int}
    (hk : ∀ C, (compEnvC scope cl C env).scope.kind = .function) (hl : ∀ C, (compEnvC scope cl C env).kindOf x₂ = some .local) (hd : (x₂ == ("__debug__" : Str)) = false)
    (hall : ∀ j, j < n → ∃ (t : Addr) (v₁ : Value) (tk : Tok), its[j]? = some (.ref t) ∧ (t, tup [v₁, .int (q j) tk]) ∈ news) (hS : S news)
    (fin : ∀ ys, IntsAre ys ((List.range n).map q) → Fin ys news) : ∀ (k i : Nat) (ys : List Value), i + k = n → IntsAre ys ((List.range i).map q) →
      LCp.CompRestP prog w A h₀ L m env (.Name x₂ pos) x x₂ scope cl s S (fun i v => its[i]? = some v) Fin k i ys news
  | 0, i, ys, hi, hy => LCp.CompRestP.zero (fin ys (by rwa [show n = i by lia]))
  | k + 1, i, ys, hi, hy => by
    refine LCp.CompRestP.succ fun v hv => ?_
    obtain ⟨t, v₁, tk, ht, hm⟩ := hall i (by lia)
    have e : v = .ref t := by
      have h1 : its[i]? = some v := hv
      rw [ht] at h1
      exact (Option.some.inj h1).symm
    subst e
    refine ⟨t, _, v₁, .int (q i) tk, 0, rfl, hm, rfl, rfl, ?_⟩
    intro I oI C oC D m₂ h tk₂ E' hC ha hb F N off ne
    refine LCgL.ld_own N (.tail _ (.head _)) hC hb ?_ (hk C) (hl C) hd
    refine LCg.CompEnd.intro F N news (fun p hp => hp) off hS ?_
    refine comp_pairs hk hl hd hall hS fin k (i + 1) _ (by lia) ?_
    rw [List.range_succ, List.map_append]
    exact ints_snoc hy
end
end
section -- H4
open PySem PySem.W PyProof.Rows PySem.Calls PySem.SeqAt
theorem idle_H4 : True := by
  w_top off
  trivial
local macro_rules | `(tactic| k_all) => `(tactic| walk_at "s 1")
local macro_rules | `(tactic| k_all) => `(tactic| walk_at "s 2")
local macro_rules | `(tactic| walk_at "exec Assign cons ListComp") => `(tactic| walk_at "s 3")
local macro_rules | `(tactic| walk_at "SrcLP") => `(tactic| walk_at "s 3")
local macro_rules | `(tactic| walk_at "call builtin:sorted") => `(tactic| walk_at "s 3")
local macro_rules | `(tactic| walk_at "call type:zip") => `(tactic| walk_at "s 3")
theorem hue_range {W st fi sh le ma : Int} (P : Par W st fi sh le ma) (k : Int) : 0 ≤ hueI W st fi k ∧ hueI W st fi k < 4096 := by
  unfold hueI
  rcases P.w with rfl | rfl | rfl <;> lia
theorem hue_step {W st fi d x : Int} (hw : W = 16 ∨ W = 32 ∨ W = 64) (ho : st % 2 = 1) (h0 : 0 < d) (h1 : d < 12) (e : (fi + x) % W = (fi + (x + st * d)) % W) : False := by
  rcases (by lia : d = 1 ∨ d = 2 ∨ d = 3 ∨ d = 4 ∨ d = 5 ∨ d = 6 ∨ d = 7 ∨ d = 8 ∨ d = 9 ∨ d = 10 ∨ d = 11) with rfl | rfl | rfl | rfl | rfl | rfl | rfl | rfl | rfl | rfl | rfl <;> rcases hw with rfl | rfl | rfl <;> lia
theorem hue_inj {W st fi sh le ma : Int} (P : Par W st fi sh le ma) {i j : Nat} (hi : i < ma.toNat) (hj : j < ma.toNat) (e : hueI W st fi i = hueI W st fi j) : i = j := by
  have m1 := P.m1
  have key : ∀ i j : Nat, i < j → j < ma.toNat → hueI W st fi i = hueI W st fi j → False := by
    intro i j hij hj e
    have e2 : (fi + st * (i : Int)) % W = (fi + (st * (i : Int) + st * ((j : Int) - (i : Int)))) % W := by
      rw [show st * (i : Int) + st * ((j : Int) - (i : Int)) = st * (j : Int) by rw [← Int.mul_add]; congr 1; lia]
      unfold hueI at e
      rcases P.w with rfl | rfl | rfl <;> lia
    exact hue_step P.w P.odd (by lia) (by lia) e2
  rcases Nat.lt_trichotomy i j with h | h | h
  · exact (key i j h hj e).elim
  · exact h
  · exact (key j i h hi e.symm).elim

/-- the row: the numbers below n in the order of their hues -/
noncomputable def RowIs (W st fi : Int) (n : Nat) (p : List Nat) : Prop := p.length = n ∧ ∃ q : Array Nat, q.toList = p ∧ Shuf n q ∧ Asc (fun k => hueI W st fi (k : Nat)) q n

set_option maxRecDepth 100000 in
set_option maxHeartbeats 8000000 in
theorem seg3a {w : World} {news : List (Addr × Obj)} {cl : List (Str × Addr)} {W st fi sh le ma : Int} (P : Par W st fi sh le ma) (tA : Addr) (hlt : AllLt tA news) (vs : List Value) (ep tk₀ : Nat) (hT : ToldIs W st fi ma.toNat vs tk₀) :
   Runs w 80 20 cl [lb9.1] (fun h₀ m => FrP m W st fi sh le ma ∧ m (Str.ofString "told") = some (.ref tA)) ((tA, listOf (List.toArray vs) ep) :: news)
    fun f m' led' => f = .next ∧ FrP m' W st fi sh le ma ∧ m' (Str.ofString "told") = some (.ref tA) ∧ ∃ rA rs re p, m' (Str.ofString "row") = some (.ref rA) ∧ led' = (rA, listOf (List.toArray rs) re) :: (tA, listOf (List.toArray vs) ep) :: news ∧ RowIs W st fi ma.toNat p ∧ IntsAre rs (p.map fun k => ((k : Nat) : Int)) := by
  unfold Runs
  k_fill
  rintro p loose mean mg mb dp un gd cn a ccd outer A₀ base h₀ L m s Q B F X N T C1 C2 hd hu ⟨⟨⟨t1, m1⟩, ⟨t2, m2⟩, ⟨t3, m3⟩, ⟨t4, m4⟩, ⟨t5, m5⟩, ⟨t6, m6⟩⟩, m7⟩ hret
  replace F := fr_put (fr_put (fr_put (fr_put (fr_put (fr_put (fr_put F (Str.ofString "many") m6) (Str.ofString "level") m5) (Str.ofString "share") m4) (Str.ofString "first") m3) (Str.ofString "step") m2) (Str.ofString "wheel") m1) (Str.ofString "told") m7
  dsimp only [lb9]
  k_steps
  all_goals repeat' (unfold Halt; ((k_here; lcp_look; k_dflt (refine LCp.Assign_ListComp_P (F₀ := by k_asm) (by rfl) (by with_unfolding_all rfl) (by with_unfolding_all rfl) (by decide) (by rfl) (by decide) (by rfl) (by rfl) (by decide) (by rfl) (by rfl) ?_))); k_steps)
  unfold Halt
  have m0 := P.m0
  have m1' := P.m1
  obtain ⟨hvl, tok, hv, ho⟩ := hT
  refine zr_call (n := ma.toNat) (by k_asm) (by k_asm) (.head _) (by assumption) (small_one (by lia) (by lia) (by lia) (by lia)) (by rw [rangeSize_nat]; simp) ?_
  intro z h₁ F₁ N₁ Z
  k_steps
  all_goals repeat' (unfold Halt; ((k_here; lcp_look; k_dflt (refine LCp.Assign_ListComp_P (F₀ := by k_asm) (by rfl) (by with_unfolding_all rfl) (by with_unfolding_all rfl) (by decide) (by rfl) (by decide) (by rfl) (by rfl) (by decide) (by rfl) (by rfl) ?_))); k_steps)
  unfold Halt
  refine zip_sorted (key := fun k => hueI W st fi (k : Nat)) (tok := tok) F₁ N₁ Z rfl (by lia) (by lia) (by rw [List.size_toArray]; exact hvl) (fun j hj => ⟨(hv j hj).1, by rw [List.getElem?_toArray]; exact (hv j hj).2.2⟩) (fun j _ => by have := hue_range P (j : Nat); lia) (fun i j hi hj e => hue_inj P hi hj e) ?_ (fun h' F' => none_booked X T F') ?_
  · intro i j hi hj e
    rcases Nat.lt_trichotomy i j with h | h | h
    · exact absurd e (Nat.ne_of_lt (ho i j h hj))
    · rw [h]
    · exact absurd e (Nat.ne_of_gt (ho j i h hi))
  intro R Dt q c h₂ tk₂ F₂ N₂ hS hA hD hDt hlR hlD
  clear F₁ N₁ Z
  k_steps
  all_goals repeat' (unfold Halt; ((k_here; lcp_look; k_dflt (refine LCp.Assign_ListComp_P (F₀ := by k_asm) (by rfl) (by with_unfolding_all rfl) (by with_unfolding_all rfl) (by decide) (by rfl) (by decide) (by rfl) (by rfl) (by decide) (by rfl) (by rfl) ?_))); k_steps)
  unfold Halt
  have hqs : q.toList.length = ma.toNat := by rw [Array.length_toList]; exact hS.size
  have hat : ∀ j, j < ma.toNat → q.toList[j]? = some (q.getD j 0) := fun j hj => by
    have hj' : j < q.size := by rw [hS.size]; exact hj
    rw [Array.getElem?_toList, Array.getD_eq_getD_getElem?, Array.getElem?_eq_getElem hj']; rfl
  refine LCp.SrcLP.ledger rfl F₂ N₂ (.head _) (by rw [List.size_toArray, List.length_map, hqs, sizeLine_eq]; lia) ?_
  intro g
  have hsz : (List.toArray (q.toList.map fun i => (Dt.map fun q => Value.ref q.1).getD i Value.none)).size = ma.toNat := by rw [List.size_toArray, List.length_map, hqs]
  rw [hsz]
  refine comp_pairs (n := ma.toNat) (q := fun j => ((q.getD j 0 : Nat) : Int)) (fun _ => rfl) (fun _ => rfl) (by decide) (fun j hj => ?_) (.inr ⟨_, .head _, rfl, _, rfl⟩) (fun ys hy => ?_) _ 0 [] (Nat.zero_add _) .nil
  · have hlt' := hS.lt j hj
    have hq : Dt[q.getD j 0]? = some Dt[q.getD j 0] := List.getElem?_eq_getElem (by omega)
    obtain ⟨x, t, hx⟩ := hDt _ _ hq
    refine ⟨(Dt[q.getD j 0]).1, x, t, ?_, ?_⟩
    · rw [List.getElem?_toArray, List.getElem?_map, hat j hj]
      show some ((Dt.map fun q => Value.ref q.1).getD (q.getD j 0) Value.none) = _
      rw [List.getD_eq_getElem?_getD, List.getElem?_map, hq]; rfl
    · refine .tail _ (List.mem_append_left _ ?_)
      rw [← hx]
      exact List.mem_of_getElem? hq
  · intro D h₃ tk₃ F₃ N₃ o₃
    have e : (List.range ma.toNat).map (fun j => ((q.getD j 0 : Nat) : Int)) = q.toList.map fun k => ((k : Nat) : Int) := by
      refine List.ext_getElem? fun j => ?_
      rw [List.getElem?_map, List.getElem?_map]
      by_cases hj : j < ma.toNat
      · rw [hat j hj, List.getElem?_range hj]; rfl
      · have g1 : (List.range ma.toNat)[j]? = none := List.getElem?_eq_none (by rw [List.length_range]; lia)
        have g2 : q.toList[j]? = none := List.getElem?_eq_none (by lia)
        rw [g1, g2]; rfl
    rw [e] at hy
    k_steps
    all_goals repeat' (unfold Halt; ((k_here; lcp_look; k_dflt (refine LCp.Assign_ListComp_P (F₀ := by k_asm) (by rfl) (by with_unfolding_all rfl) (by with_unfolding_all rfl) (by decide) (by rfl) (by decide) (by rfl) (by rfl) (by decide) (by rfl) (by rfl) ?_))); k_steps)
    exact hret .next _ ((D, listOf ys.toArray ys.length) :: (tA, listOf (List.toArray vs) ep) :: news) _ _ F₃ (fun p hp => N₃ p (by
      rcases List.mem_cons.mp hp with h | h
      · rw [h]; exact .head _
      · exact .tail _ (.tail _ (List.mem_append_right _ h)))) ⟨rfl, ⟨⟨_, rfl⟩, ⟨_, rfl⟩, ⟨_, rfl⟩, ⟨_, rfl⟩, ⟨_, rfl⟩, ⟨_, rfl⟩⟩, rfl, D, ys, ys.length, q.toList, rfl, rfl, ⟨hqs, q, rfl, hS, hA⟩, hy⟩
end
section -- R1
open PySem PySem.W PyProof.Rows
theorem mem_all {l : List Nat} {n v : Nat} (hd : l.Nodup) (hl : l.length = n) (hlt : ∀ x ∈ l, x < n) (hv : v < n) : v ∈ l := by
  by_cases h : v ∈ l
  · exact h
  exfalso
  have h1 : (v :: l).Nodup := List.nodup_cons.mpr ⟨h, hd⟩
  have h2 := h1.length_le_of_subset (l₂ := List.range n) fun x hx => by
    rcases List.mem_cons.mp hx with rfl | hx
    · exact List.mem_range.mpr hv
    · exact List.mem_range.mpr (hlt x hx)
  rw [List.length_cons, List.length_range, hl] at h2
  lia
theorem row_at {n : Nat} {q : Array Nat} (S : Shuf n q) {j : Nat} (hj : j < n) : q.toList[j]? = some (q.getD j 0) := by
  have hj' : j < q.size := by rw [S.size]; exact hj
  rw [Array.getElem?_toList, Array.getD_eq_getD_getElem?, Array.getElem?_eq_getElem hj']; rfl
theorem row_get {n : Nat} {q : Array Nat} (S : Shuf n q) {j : Nat} (hj : j < q.toList.length) : q.toList[j] = q.getD j 0 := by
  have h := row_at S (j := j) (by rwa [Array.length_toList, S.size] at hj)
  rw [List.getElem?_eq_getElem hj] at h
  exact Option.some.inj h
theorem row_nodup {n : Nat} {q : Array Nat} (S : Shuf n q) : q.toList.Nodup := by
  refine List.pairwise_iff_getElem.mpr fun i j hi hj hij => ?_
  rw [row_get S hi, row_get S hj]
  rw [Array.length_toList, S.size] at hi hj
  intro e
  have := S.inj i j hi hj e
  lia
theorem row_lt {n : Nat} {q : Array Nat} (S : Shuf n q) : ∀ x ∈ q.toList, x < n := by
  intro x hx
  obtain ⟨j, hj, e⟩ := List.mem_iff_getElem.mp hx
  rw [row_get S hj] at e
  rw [← e]
  exact S.lt j (by rwa [Array.length_toList, S.size] at hj)

/-- how far colour k lies ahead of the first, on a wheel of W -/
noncomputable def aheadK (W st k : Nat) : Nat := (st * k) % W
noncomputable def OrdIs (W st n : Nat) (o : List Nat) : Prop := o.Perm (List.range n) ∧ o.Pairwise fun a b => aheadK W st a < aheadK W st b
theorem ord_unique {W st n : Nat} {o o' : List Nat} (h : OrdIs W st n o) (h' : OrdIs W st n o') : o = o' :=
  List.Perm.eq_of_pairwise (le := fun a b => aheadK W st a < aheadK W st b) (fun a b _ _ h1 h2 => by lia) h.2 h'.2 (h.1.trans h'.1.symm)

theorem ahead_of {W st fi : Nat} (hW : 0 < W) (k : Nat) : aheadK W st k = if fi % W ≤ (fi + st * k) % W then (fi + st * k) % W - fi % W else (fi + st * k) % W + W - fi % W := by
  unfold aheadK
  have h1 : (fi + st * k) % W = (fi % W + (st * k) % W) % W := Nat.add_mod ..
  have h2 := Nat.mod_lt fi hW
  have h3 := Nat.mod_lt (st * k) hW
  generalize (st * k) % W = y at *
  generalize fi % W = x at *
  rw [h1]
  by_cases q : x + y < W
  · rw [Nat.mod_eq_of_lt q, if_pos (by lia)]; lia
  · have e : (x + y) % W = x + y - W := by
      rw [Nat.mod_eq_sub_mod (by lia), Nat.mod_eq_of_lt (by omega)]
    rw [e, if_neg (by omega)]; omega

theorem order_is {W st fi : Nat} {n : Nat} {p : List Nat} (hW : 0 < W) (hd : p.Nodup) (hl : p.length = n) (hlt : ∀ x ∈ p, x < n) (ha : p.Pairwise fun a b => (fi + st * a) % W < (fi + st * b) % W) {i : Nat} (hi : p[i]? = some 0) :
    OrdIs W st n (p.drop i ++ p.take i) := by
  have hil : i < p.length := (List.getElem?_eq_some_iff.mp hi).1
  constructor
  · have h1 : (p.drop i ++ p.take i).Perm p := List.perm_append_comm.trans (by rw [List.take_append_drop])
    refine h1.trans ((List.perm_ext_iff_of_nodup hd List.nodup_range).mpr fun x => ?_)
    constructor
    · intro hx; exact List.mem_range.mpr (hlt x hx)
    · intro hx; exact mem_all hd hl hlt (List.mem_range.mp hx)
  · have hsplit : p = p.take i ++ p.drop i := (List.take_append_drop i p).symm
    have hdrop : p.drop i = 0 :: p.drop (i + 1) := by
      rw [List.drop_eq_getElem_cons hil]
      congr 1
      exact (List.getElem?_eq_some_iff.mp hi).2
    rw [hsplit] at ha
    obtain ⟨a1, a2, a3⟩ := List.pairwise_append.mp ha
    have up : ∀ x ∈ p.drop i, fi % W ≤ (fi + st * x) % W := fun x hx => by
      rw [hdrop] at hx a2
      rcases List.mem_cons.mp hx with rfl | hx
      · rw [Nat.mul_zero, Nat.add_zero]; exact Nat.le_refl _
      · have := (List.pairwise_cons.mp a2).1 x hx
        rw [Nat.mul_zero, Nat.add_zero] at this
        lia
    have dn : ∀ x ∈ p.take i, (fi + st * x) % W < fi % W := fun x hx => by
      have := a3 x hx 0 (by rw [hdrop]; exact List.mem_cons_self)
      rwa [Nat.mul_zero, Nat.add_zero] at this
    refine List.pairwise_append.mpr ⟨?_, ?_, ?_⟩
    · refine List.Pairwise.imp_of_mem (fun {a b} hxa hxb h => ?_) a2
      rw [ahead_of (fi := fi) hW a, ahead_of (fi := fi) hW b, if_pos (up a hxa), if_pos (up b hxb)]
      have := up a hxa
      omega
    · refine List.Pairwise.imp_of_mem (fun {a b} hxa hxb h => ?_) a1
      have h1 := dn a hxa
      have h2 := dn b hxb
      have h3 := Nat.mod_lt fi hW
      rw [ahead_of (fi := fi) hW a, ahead_of (fi := fi) hW b, if_neg (by lia), if_neg (by lia)]
      omega
    · intro a hxa b hxb
      have h1 := up a hxa
      have h2 := dn b hxb
      have h3 := Nat.mod_lt (fi + st * a) hW
      rw [ahead_of (fi := fi) hW a, ahead_of (fi := fi) hW b, if_pos h1, if_neg (by lia)]
      omega
end
section -- H5
open PySem PySem.W PyProof.Rows PySem.Calls PySem.SeqAt
theorem idle_H5 : True := by
  w_top off
  trivial
local macro_rules | `(tactic| walk_at "call builtin:list.index") => `(tactic| walk_at "s 3")
local macro_rules | `(tactic| walk_at "subscriptTail Name Slice ref ref") => `(tactic| walk_at "s 3")
theorem weight_small {x : Nat} (h : x < 12) : PyData.weight (.int (x : Int)) ≤ 4 := by
  unfold PyData.weight
  rcases (by lia : x = 0 ∨ x = 1 ∨ x = 2 ∨ x = 3 ∨ x = 4 ∨ x = 5 ∨ x = 6 ∨ x = 7 ∨ x = 8 ∨ x = 9 ∨ x = 10 ∨ x = 11) with rfl | rfl | rfl | rfl | rfl | rfl | rfl | rfl | rfl | rfl | rfl | rfl <;> decide
theorem weight_ints : ∀ (p : List Nat), (∀ x ∈ p, x < 12) → PyData.weightAll ((p.map fun k => ((k : Nat) : Int)).map PyData.int) ≤ 5 * p.length
  | [], _ => by simp [PyData.weightAll]
  | x :: r, h => by
    have h1 := weight_small (h x List.mem_cons_self)
    have h2 := weight_ints r fun y hy => h y (List.mem_cons_of_mem _ hy)
    rw [List.map_cons, List.map_cons, PyData.weightAll, List.length_cons]
    lia
theorem lay_ints (p : List Nat) (h : ∀ x ∈ p, x < 12) (hl : p.length ≤ 12) : PyData.layable0 (.list ((p.map fun k => ((k : Nat) : Int)).map .int)) = true := by
  have h1 := weight_ints p h
  unfold PyData.layable0
  rw [PyData.canLay0, ke_canLayAll0, PyData.depth, ke_depthAll, PyData.weight]
  simp only [Bool.true_and, Bool.and_eq_true, decide_eq_true_eq]
  lia

theorem idx_zero {p : List Nat} (h : (0 : Int) ∈ p.map fun k => ((k : Nat) : Int)) : p[List.idxOf (0 : Int) (p.map fun k => ((k : Nat) : Int))]? = some 0 := by
  have hl := List.idxOf_lt_length_of_mem h
  have e := List.getElem_idxOf hl
  rw [List.getElem_map] at e
  rw [List.getElem?_eq_getElem (by rwa [List.length_map] at hl)]
  congr 1
  lia
theorem order_of {W st fi sh le ma : Int} (P : Par W st fi sh le ma) {q : Array Nat} (hpl : q.toList.length = ma.toNat) (S : Shuf ma.toNat q) (A : Asc (fun k => hueI W st fi (k : Nat)) q ma.toNat) {i : Nat} (hi : q.toList[i]? = some 0) : OrdIs W.toNat st.toNat ma.toNat (q.toList.drop i ++ q.toList.take i) := by
  have hw := P.w
  have hs0 := P.s0
  have hf0 := P.f0
  refine order_is (fi := fi.toNat) (by lia) (row_nodup S) hpl (row_lt S) ?_ hi
  refine List.pairwise_iff_getElem.mpr fun x y hx hy hxy => ?_
  rw [row_get S hx, row_get S hy]
  have h : 4096 / W * ((fi + st * ((q.getD x 0 : Nat) : Int)) % W) < 4096 / W * ((fi + st * ((q.getD y 0 : Nat) : Int)) % W) := A x y hxy (by lia)
  have e : ∀ k : Nat, (((fi.toNat + st.toNat * k) % W.toNat : Nat) : Int) = (fi + st * (k : Int)) % W := fun k => by
    rw [Int.natCast_emod, Int.natCast_add, Int.natCast_mul, Int.toNat_of_nonneg (Int.le_of_lt hs0), Int.toNat_of_nonneg hf0, Int.toNat_of_nonneg (by lia)]
  rw [← e, ← e] at h
  exact Int.ofNat_lt.mp (Int.lt_of_mul_lt_mul_left h (by rcases hw with rfl | rfl | rfl <;> decide))

set_option maxRecDepth 100000 in
set_option maxHeartbeats 8000000 in
theorem seg3b {w : World} {news : List (Addr × Obj)} {cl : List (Str × Addr)} {W st fi sh le ma : Int} (P : Par W st fi sh le ma) (tA rA : Addr) (vs rs : List Value) (ep re : Nat) (p : List Nat) (hp : RowIs W st fi ma.toNat p) (hI : IntsAre rs (p.map fun k => ((k : Nat) : Int))) :
   Runs w 80 20 cl [lb10.1] (fun h₀ m => FrP m W st fi sh le ma ∧ m (Str.ofString "told") = some (.ref tA) ∧ m (Str.ofString "row") = some (.ref rA)) ((rA, listOf (List.toArray rs) re) :: (tA, listOf (List.toArray vs) ep) :: news)
    fun f m' led' => f = .next ∧ FrP m' W st fi sh le ma ∧ m' (Str.ofString "told") = some (.ref tA) ∧ ∃ oA os oe o, m' (Str.ofString "order") = some (.ref oA) ∧ led' = (oA, listOf (List.toArray os) oe) :: (tA, listOf (List.toArray vs) ep) :: news ∧ OrdIs W.toNat st.toNat ma.toNat o ∧ IntsAre os (o.map fun k => ((k : Nat) : Int)) := by
  unfold Runs
  k_fill
  rintro pr loose mean mg mb dp un gd cn a ccd outer A₀ base h₀ L m s Q B F X N T C1 C2 hd hu ⟨⟨⟨t1, m1⟩, ⟨t2, m2⟩, ⟨t3, m3⟩, ⟨t4, m4⟩, ⟨t5, m5⟩, ⟨t6, m6⟩⟩, m7, m8⟩ hret
  replace F := fr_put (fr_put (fr_put (fr_put (fr_put (fr_put (fr_put (fr_put F (Str.ofString "many") m6) (Str.ofString "level") m5) (Str.ofString "share") m4) (Str.ofString "first") m3) (Str.ofString "step") m2) (Str.ofString "wheel") m1) (Str.ofString "told") m7) (Str.ofString "row") m8
  have mm0 := P.m0
  have mm1 := P.m1
  obtain ⟨hpl, q, rfl, S, A⟩ := hp
  have hrl : rs.length = ma.toNat := by rw [IntsAre.length hI, List.length_map, hpl]
  have hplt : ∀ x ∈ q.toList, x < 12 := fun x hx => by have := row_lt S x hx; lia
  have hmem0 : 0 ∈ q.toList := mem_all (row_nodup S) hpl (row_lt S) (by lia)
  have hmem : (0 : Int) ∈ q.toList.map fun k => ((k : Nat) : Int) := List.mem_map.mpr ⟨0, hmem0, rfl⟩
  have hlay : PyData.layable0 (.list ((q.toList.map fun k => ((k : Nat) : Int)).map .int)) = true := lay_ints _ hplt (by lia)
  have hsz : (List.toArray rs).size ≤ sizeLine := by rw [List.size_toArray, hrl, sizeLine_eq]; lia
  dsimp only [lb10]
  k_steps
  all_goals repeat' (unfold Halt; (first | (k_here; (with_reducible show wpAny _ _ (call (Value.builtin _) [Value.ref _, Value.int _ _]) _ _ _); k_dflt (refine' index_list_ints ?l ?i ?y ?k ?_; (case l => exact News.isList (by k_asm) (by k_mem)); (case i => assumption); (case y => assumption); (case k => assumption))) | (k_here; (with_reducible show wpAny _ _ (subscriptTail _ (PySem.Expr.Slice _ _ none _) (Value.ref _) (Value.ref _)) _ _ _); k_dflt (refine' kmk_slice_ints ?F ?N ?l ?p ?q ?i ?m ?c ?_ ?s ?t ?z; (case F => k_asm); (case N => k_asm); (case l => exact News.isList (by k_asm) (by k_mem)); (case p => kmk_part); (case q => kmk_part); (case i => assumption); (case m => first | exact kmk_from (by assumption) (Int.natCast_nonneg _) | exact kmk_upto (by assumption) (Int.natCast_nonneg _)); (case c => kmk_len); (case s => with_unfolding_all rfl); (case t => kmk_pure); (case z => assumption)); intro D' ws' h' F' N' l1 hI' hC' hL'; (try k_lt l1); (try k_sweep))); k_steps)
  have hidx : List.idxOf (0 : Int) (q.toList.map fun k => ((k : Nat) : Int)) < (q.toList.map fun k => ((k : Nat) : Int)).length := List.idxOf_lt_length_of_mem hmem
  have hO := order_of P hpl S A (i := List.idxOf (0 : Int) (q.toList.map fun k => ((k : Nat) : Int))) (idx_zero hmem)
  rename IntsAre _ (List.drop _ _ ++ List.take _ _) => hIo
  rename Fr _ _ _ _ => FZ
  rename News _ _ _ _ => NZ
  exact hret .next _ ((_, listOf (List.toArray _) _) :: (tA, listOf (List.toArray vs) ep) :: news) _ _ FZ (cb_drop NZ (by walk_at "my sub")) ⟨rfl, ⟨⟨_, rfl⟩, ⟨_, rfl⟩, ⟨_, rfl⟩, ⟨_, rfl⟩, ⟨_, rfl⟩, ⟨_, rfl⟩⟩, rfl, _, _, _, _, rfl, rfl, hO, by rw [List.map_append, List.map_drop, List.map_take]; rw [Int.toNat_natCast] at hIo; exact hIo⟩
end
section -- H6
open PySem PySem.W PyProof.Rows PySem.Calls PySem.SeqAt
theorem idle_H6 : True := by
  w_top off
  trivial
local macro_rules | `(tactic| walk_at "call ref") => `(tactic| walk_at "s 3")
noncomputable def sg0 (W st : Int) : Sg × List Sg := (⟨1, 1, st, W - st⟩, [⟨1, 1, st, W - st⟩])
set_option maxRecDepth 100000 in
set_option maxHeartbeats 8000000 in
theorem seg3c {w : World} {news : List (Addr × Obj)} {cl : List (Str × Addr)} {W st fi sh le ma : Int} (tA oA : Addr) (tO oO : Obj) (hchk : checkS 14 ma (sg0 W st) = true) (h30 : ∀ q ∈ news, q.1 ≠ 30) (h37 : ∀ q ∈ news, q.1 ≠ 37) (t30 : tA ≠ 30) (t37 : tA ≠ 37) (o30 : oA ≠ 30) (o37 : oA ≠ 37) :
   Runs w 110 140 cl [lb11.1] (fun h₀ m => FrP m W st fi sh le ma ∧ m (Str.ofString "told") = some (.ref tA) ∧ m (Str.ofString "order") = some (.ref oA)) ((oA, oO) :: (tA, tO) :: (tabLed .fresh ++ news))
    fun f m' led' => f = .next ∧ FrP m' W st fi sh le ma ∧ m' (Str.ofString "told") = some (.ref tA) ∧ m' (Str.ofString "order") = some (.ref oA) ∧ ∃ sA Dg ep news', m' (Str.ofString "stages") = some (.ref sA) ∧ led' = (sA, listOf (List.toArray (refsOf Dg)) ep) :: (oA, oO) :: (tA, tO) :: (Dg ++ news') ∧ SgsAre Dg (runS 14 ma (sg0 W st)).2 ∧ (∀ q ∈ news, q ∈ news') ∧ (∃ ps, ((30 : Addr), tabObj ps) ∈ news') ∧ ∃ ps, ((37 : Addr), tabObj ps) ∈ news' := by
  unfold Runs
  k_fill
  rintro pr loose mean mg mb dp un gd cn a ccd outer A₀ base h₀ L m s Q B F X N T C1 C2 hd hu ⟨⟨⟨t1, m1⟩, ⟨t2, m2⟩, ⟨t3, m3⟩, ⟨t4, m4⟩, ⟨t5, m5⟩, ⟨t6, m6⟩⟩, m7, m8⟩ hret
  replace F := fr_put (fr_put (fr_put (fr_put (fr_put (fr_put (fr_put (fr_put F (Str.ofString "many") m6) (Str.ofString "level") m5) (Str.ofString "share") m4) (Str.ofString "first") m3) (Str.ofString "step") m2) (Str.ofString "wheel") m1) (Str.ofString "told") m7) (Str.ofString "order") m8
  dsimp only [lb11]
  k_steps
  unfold Halt
  have N2 : News h₀ L s.heap (tabLed .fresh ++ ((oA, oO) :: (tA, tO) :: news)) := fun p hp => N p (by
    rcases List.mem_append.mp hp with h | h
    · exact .tail _ (.tail _ (List.mem_append_left _ h))
    · rcases List.mem_cons.mp h with rfl | h
      · exact .head _
      · rcases List.mem_cons.mp h with rfl | h
        · exact .tail _ (.head _)
        · exact .tail _ (.tail _ (List.mem_append_right _ h)))
  refine DoesN.use (stages_call st W ma _ _ _ (sg0 W st) rfl hchk (ts := .fresh) (news := (oA, oO) :: (tA, tO) :: news) trivial (List.forall_mem_cons.mpr ⟨o30, List.forall_mem_cons.mpr ⟨t30, h30⟩⟩) (List.forall_mem_cons.mpr ⟨o37, List.forall_mem_cons.mpr ⟨t37, h37⟩⟩)) (by k_asm) (by k_asm) (by k_asm) N2 (by k_asm) (by k_asm) (by k_asm) rfl ?_ ?_ ?_
  · show dp + 12 < recursionLimit; exact lt_room (k := 12) hd (by decide)
  · show un + 120 < cLine; exact lt_room (k := 120) hu (by decide)
  rintro v news1 h1 tk1 F1 N1 ⟨sA, Dg, ep, ts', rfl, rfl, hS, -⟩
  clear N N2
  k_steps
  rename Fr _ _ _ _ => FZ
  rename News _ _ _ _ => NZ
  refine hret .next _ ((sA, listOf (List.toArray (refsOf Dg)) ep) :: (oA, oO) :: (tA, tO) :: (Dg ++ (tabLed ts' ++ news))) _ _ FZ (fun p hp => NZ p ?_) ⟨rfl, ⟨⟨_, rfl⟩, ⟨_, rfl⟩, ⟨_, rfl⟩, ⟨_, rfl⟩, ⟨_, rfl⟩, ⟨_, rfl⟩⟩, rfl, rfl, sA, Dg, ep, _, rfl, rfl, hS, fun q hq => List.mem_append_right _ hq, ?_, ?_⟩
  · simp only [List.mem_cons, List.mem_append] at hp ⊢
    grind
  · cases ts' with
    | fresh => exact ⟨_, .head _⟩
    | full c1 oc1 c2 oc2 => exact ⟨_, .head _⟩
  · cases ts' with
    | fresh => exact ⟨_, .tail _ (.head _)⟩
    | full c1 oc1 c2 oc2 => exact ⟨_, .tail _ (.tail _ (.head _))⟩
end
section -- H7
open PySem PySem.W PyProof.Rows PySem.Calls PySem.SeqAt
noncomputable def forB : Stmt → List Stmt
  | .For _ _ b _ _ => b
  | _ => []
noncomputable def iterOf : Stmt → Expr
  | .For _ e _ _ _ => e
  | _ => .Name "n" ⟨0, 0, 0, 0⟩
set_option maxRecDepth 100000 in
noncomputable abbrev lc0 : { b : Stmt // stmtAt (forB (stmtAt (bodyOf (topAt 18)) 12)) 0 = b } := by
  refine ⟨?b, ?h⟩
  case h => conv => lhs; whnf
set_option maxRecDepth 100000 in
noncomputable abbrev lc1 : { b : Stmt // stmtAt (forB (stmtAt (bodyOf (topAt 18)) 12)) 1 = b } := by
  refine ⟨?b, ?h⟩
  case h => conv => lhs; whnf
set_option maxRecDepth 100000 in
noncomputable abbrev lc2 : { b : Stmt // stmtAt (forB (stmtAt (bodyOf (topAt 18)) 12)) 2 = b } := by
  refine ⟨?b, ?h⟩
  case h => conv => lhs; whnf
set_option maxRecDepth 100000 in
noncomputable abbrev lc3 : { b : Stmt // stmtAt (forB (stmtAt (bodyOf (topAt 18)) 12)) 3 = b } := by
  refine ⟨?b, ?h⟩
  case h => conv => lhs; whnf
set_option maxRecDepth 100000 in
noncomputable abbrev lc4 : { b : Stmt // stmtAt (forB (stmtAt (bodyOf (topAt 18)) 12)) 4 = b } := by
  refine ⟨?b, ?h⟩
  case h => conv => lhs; whnf
set_option maxRecDepth 100000 in
noncomputable abbrev lc5 : { b : Stmt // stmtAt (forB (stmtAt (bodyOf (topAt 18)) 12)) 5 = b } := by
  refine ⟨?b, ?h⟩
  case h => conv => lhs; whnf
set_option maxRecDepth 100000 in
noncomputable abbrev lc6 : { b : Stmt // stmtAt (forB (stmtAt (bodyOf (topAt 18)) 12)) 6 = b } := by
  refine ⟨?b, ?h⟩
  case h => conv => lhs; whnf
set_option maxRecDepth 100000 in
noncomputable abbrev lc7 : { b : Stmt // stmtAt (forB (stmtAt (bodyOf (topAt 18)) 12)) 7 = b } := by
  refine ⟨?b, ?h⟩
  case h => conv => lhs; whnf
end
section -- Q1
open PySem PySem.W PyProof.Rows
noncomputable def insA (W st x : Nat) : List Nat → List Nat
  | [] => [x]
  | y :: r => if aheadK W st x < aheadK W st y then x :: y :: r else y :: insA W st x r
noncomputable def ordF (W st : Nat) : Nat → List Nat
  | 0 => []
  | n + 1 => insA W st n (ordF W st n)
noncomputable def fitS (n : Int) (s : Sg) : Bool := decide (max s.ah s.be ≤ n) && decide (n < s.ah + s.be)
noncomputable def pairsOk (W st n : Int) (s : Sg) : List Nat → Nat → Bool
  | [], _ => true
  | [a], z => nextF a n s == ((z : Int), (st * ((z : Int) - a)) % W)
  | a :: b :: r, z => (nextF a n s == ((b : Int), (st * ((b : Int) - a)) % W)) && pairsOk W st n s (b :: r) z
noncomputable def ringOf (o : List Nat) (n : Nat) : List Nat := o.filter fun k => decide (k ≤ n)
noncomputable def nOk (W st : Nat) (S : List Sg) (o : List Nat) (n : Nat) : Bool :=
  match S.find? (fitS n) with
  | none => false
  | some s =>
    let ring := ringOf o n
    let P := ring.takeWhile (fun k => k != n)
    let R := (ring.dropWhile (fun k => k != n)).drop 1
    (ring == P ++ n :: R) && !P.contains n && !R.contains n && (P.getLast? == some (n - s.ah.toNat)) && ((R ++ [0]).head? == some (n - s.be.toNat)) && decide (0 ≤ s.ah) && decide (0 ≤ s.be) && decide (s.ah ≤ n) && decide (s.be ≤ n) && pairsOk W st n s ring 0 && (ring.head? == some 0)
noncomputable def tabOk1 (W st many : Nat) : Bool :=
  let S := (runS 14 many (sg0 W st)).2
  let o := ordF W st many
  checkS 14 many (sg0 W st) && decide (S.length ≤ 64) && decide (o.Perm (List.range many)) && decide (o.Pairwise fun a b => aheadK W st a < aheadK W st b) && (List.range many).all fun n => n == 0 || nOk W st S o n
noncomputable def tabAt (W many : Nat) : Bool := (List.range (W / 2)).all fun t => tabOk1 W (2 * t + 1) many
set_option maxRecDepth 100000 in
theorem tab_16_6 : tabAt 16 6 = true := by decide +kernel
set_option maxRecDepth 100000 in
theorem tab_16_7 : tabAt 16 7 = true := by decide +kernel
set_option maxRecDepth 100000 in
theorem tab_16_8 : tabAt 16 8 = true := by decide +kernel
set_option maxRecDepth 100000 in
theorem tab_16_9 : tabAt 16 9 = true := by decide +kernel
set_option maxRecDepth 100000 in
theorem tab_16_10 : tabAt 16 10 = true := by decide +kernel
set_option maxRecDepth 100000 in
theorem tab_16_11 : tabAt 16 11 = true := by decide +kernel
set_option maxRecDepth 100000 in
theorem tab_16_12 : tabAt 16 12 = true := by decide +kernel
set_option maxRecDepth 100000 in
theorem tab_32_6 : tabAt 32 6 = true := by decide +kernel
set_option maxRecDepth 100000 in
theorem tab_32_7 : tabAt 32 7 = true := by decide +kernel
set_option maxRecDepth 100000 in
theorem tab_32_8 : tabAt 32 8 = true := by decide +kernel
set_option maxRecDepth 100000 in
theorem tab_32_9 : tabAt 32 9 = true := by decide +kernel
set_option maxRecDepth 100000 in
theorem tab_32_10 : tabAt 32 10 = true := by decide +kernel
set_option maxRecDepth 100000 in
theorem tab_32_11 : tabAt 32 11 = true := by decide +kernel
set_option maxRecDepth 100000 in
theorem tab_32_12 : tabAt 32 12 = true := by decide +kernel
set_option maxRecDepth 100000 in
theorem tab_64_6 : tabAt 64 6 = true := by decide +kernel
set_option maxRecDepth 100000 in
theorem tab_64_7 : tabAt 64 7 = true := by decide +kernel
set_option maxRecDepth 100000 in
theorem tab_64_8 : tabAt 64 8 = true := by decide +kernel
set_option maxRecDepth 100000 in
theorem tab_64_9 : tabAt 64 9 = true := by decide +kernel
set_option maxRecDepth 100000 in
theorem tab_64_10 : tabAt 64 10 = true := by decide +kernel
set_option maxRecDepth 100000 in
theorem tab_64_11 : tabAt 64 11 = true := by decide +kernel
set_option maxRecDepth 100000 in
theorem tab_64_12 : tabAt 64 12 = true := by decide +kernel
end
section -- Q2
open PySem PySem.W PyProof.Rows
theorem pairs_zip {W st n : Int} {s : Sg} : ∀ (l : List Nat) (z : Nat), pairsOk W st n s l z = true → ∀ p ∈ l.zip (l.drop 1 ++ [z]), nextF p.1 n s = ((p.2 : Int), (st * ((p.2 : Int) - p.1)) % W)
  | [], z, _, p, hp => by cases hp
  | [a], z, h, p, hp => by
    have e : p = (a, z) := List.mem_singleton.mp hp
    subst e
    exact eq_of_beq h
  | a :: b :: r, z, h, p, hp => by
    rw [pairsOk, Bool.and_eq_true] at h
    rcases List.mem_cons.mp (show p ∈ (a, b) :: (b :: r).zip (r ++ [z]) from hp) with e | hp
    · subst e; exact eq_of_beq h.1
    · exact pairs_zip (b :: r) z h.2 p hp
theorem ring_len : ∀ many < 13, ∀ n < many, ((List.range many).filter fun k => decide (k ≤ n)).length = n + 1 := by decide
structure NRow (W st : Int) (n : Nat) (o : List Nat) (sg : List Sg) (x : Sg) (P R : List Nat) (c d : Nat) : Prop where
  find : sg.find? (fitS n) = some x
  ring : ringOf o n = (P ++ [c]) ++ n :: R
  nP : n ∉ (P ++ [c]) ++ R
  hd : (R ++ [0])[0]? = some d
  c1 : (c : Int) = n - x.ah
  d1 : (d : Int) = n - x.be
  pairs : ∀ p ∈ (ringOf o n).zip ((ringOf o n).drop 1 ++ (ringOf o n).take 1), nextF p.1 n x = ((p.2 : Int), (st * ((p.2 : Int) - p.1)) % W)
theorem nrow_of {W st n : Nat} {S : List Sg} {o : List Nat} (h : nOk W st S o n = true) : ∃ x P R c d, NRow W st n o S x P R c d := by
  unfold nOk at h
  split at h
  · cases h
  · rename_i s hs
    simp only [Bool.and_eq_true, Bool.not_eq_true', decide_eq_true_eq] at h
    obtain ⟨⟨⟨⟨⟨⟨⟨⟨⟨⟨h1, h2⟩, h3⟩, h4⟩, h5⟩, h6⟩, h7⟩, h8⟩, h9⟩, h10⟩, h11⟩ := h
    generalize hP : (ringOf o n).takeWhile (fun k => k != n) = P at *
    generalize hR : ((ringOf o n).dropWhile (fun k => k != n)).drop 1 = R at *
    have h1 := eq_of_beq h1
    have h4 := eq_of_beq h4
    have h5 := eq_of_beq h5
    have h11 := eq_of_beq h11
    obtain ⟨P', hP'⟩ := List.getLast?_eq_some_iff.mp h4
    have nP : n ∉ P := fun q => by rw [List.contains_iff_mem.mpr q] at h2; cases h2
    have nR : n ∉ R := fun q => by rw [List.contains_iff_mem.mpr q] at h3; cases h3
    refine ⟨s, P', R, n - s.ah.toNat, n - s.be.toNat, hs, by rw [← hP']; exact h1, ?_, ?_, by omega, by lia, ?_⟩
    · rw [← hP']
      intro q
      rcases List.mem_append.mp q with q | q
      · exact nP q
      · exact nR q
    · rw [← List.head?_eq_getElem?]; exact h5
    · have ht : (ringOf o n).take 1 = [0] := by
        cases hr : ringOf o n with
        | nil => rw [hr] at h11; cases h11
        | cons y r => rw [hr] at h11; rw [Option.some.inj h11]; rfl
      rw [ht]
      exact pairs_zip _ _ h10
theorem tab_one {W t many : Nat} (hW : W = 16 ∨ W = 32 ∨ W = 64) (ht : t < W / 2) (h6 : 6 ≤ many) (h12 : many ≤ 12) : tabOk1 W (2 * t + 1) many = true := by
  have h : tabAt W many = true := by
    rcases (by lia : many = 6 ∨ many = 7 ∨ many = 8 ∨ many = 9 ∨ many = 10 ∨ many = 11 ∨ many = 12) with rfl | rfl | rfl | rfl | rfl | rfl | rfl <;> rcases hW with rfl | rfl | rfl
    · exact tab_16_6
    · exact tab_32_6
    · exact tab_64_6
    · exact tab_16_7
    · exact tab_32_7
    · exact tab_64_7
    · exact tab_16_8
    · exact tab_32_8
    · exact tab_64_8
    · exact tab_16_9
    · exact tab_32_9
    · exact tab_64_9
    · exact tab_16_10
    · exact tab_32_10
    · exact tab_64_10
    · exact tab_16_11
    · exact tab_32_11
    · exact tab_64_11
    · exact tab_16_12
    · exact tab_32_12
    · exact tab_64_12
  exact List.all_eq_true.mp h t (List.mem_range.mpr ht)
end
section -- E1
open PySem PySem.W PyProof.Rows PySem.Builtin.Str
/-- the text of the letters l, counted from a on -/
noncomputable def txt (l : List Nat) : Str := ⟨(l.map (97 + ·)).toArray⟩
noncomputable abbrev dots : Str := Str.ofString "..."
theorem txt_list (l : List Nat) : (txt l).cps.toList = l.map (97 + ·) := List.toList_toArray
theorem txt_len (l : List Nat) : (txt l).length = l.length := by show (l.map (97 + ·)).toArray.size = _; rw [List.size_toArray, List.length_map]
theorem str_eq {a b : Str} (h : a.cps.toList = b.cps.toList) : a = b := PySem.Str.ext' (Array.toList_inj.mp h)
theorem txt_app (a b : List Nat) : txt a ++ txt b = txt (a ++ b) := str_eq (by rw [PySem.Str.cps_append, Array.toList_append, txt_list, txt_list, txt_list, List.map_append])
theorem add97_inj {a b : List Nat} (h : a.map (97 + ·) = b.map (97 + ·)) : a = b := by
  induction a generalizing b with
  | nil => cases b with
    | nil => rfl
    | cons y r => cases h
  | cons x a ih => cases b with
    | nil => cases h
    | cons y r =>
      have h1 : 97 + x = 97 + y := (List.cons.inj h).1
      have h2 := ih (List.cons.inj h).2
      rw [h2, show x = y by lia]
theorem dots_list : dots.cps.toList = [46, 46, 46] := by decide
theorem dots_len : dots.length = 3 := by decide
noncomputable def wantOf (a b : List Nat) : Str := txt a ++ dots ++ txt b
theorem want_list (a b : List Nat) : (wantOf a b).cps.toList = a.map (97 + ·) ++ ([46, 46, 46] ++ b.map (97 + ·)) := by
  unfold wantOf
  rw [PySem.Str.cps_append, Array.toList_append, PySem.Str.cps_append, Array.toList_append, txt_list, txt_list, dots_list, List.append_assoc]
theorem want_len (a b : List Nat) : (wantOf a b).length = a.length + 3 + b.length := by
  unfold wantOf
  rw [PySem.Str.length_append, PySem.Str.length_append, txt_len, txt_len, dots_len]
theorem dot_at (a b : List Nat) {j : Nat} (h : (a.map (97 + ·) ++ ([46, 46, 46] ++ b.map (97 + ·)))[j]? = some 46) : a.length ≤ j ∧ j < a.length + 3 := by
  by_cases h1 : j < a.length
  · rw [List.getElem?_append_left (by rwa [List.length_map]), List.getElem?_map] at h
    cases e : a[j]? with
    | none => rw [e] at h; cases h
    | some v =>
      rw [e] at h
      have : 97 + v = 46 := Option.some.inj h
      lia
  · refine ⟨by lia, ?_⟩
    by_cases h2 : j < a.length + 3
    · exact h2
    · rw [List.getElem?_append_right (by rw [List.length_map]; lia), List.length_map, List.getElem?_append_right (by simp; omega), List.getElem?_map] at h
      cases e : b[j - a.length - [46, 46, 46].length]? with
      | none => rw [e] at h; cases h
      | some v =>
        rw [e] at h
        have : 97 + v = 46 := Option.some.inj h
        lia
theorem at_dots (a b : List Nat) (i : Nat) : StrLaws.At (wantOf a b) dots (wantOf a b).length i ↔ i = a.length := by
  unfold StrLaws.At
  rw [StrLaws.subAt_eq, want_list, dots_list, dots_len, want_len]
  constructor
  · rintro ⟨_, h⟩
    have h := eq_of_beq h
    have g0 := congrArg (·[0]?) h
    have g2 := congrArg (·[2]?) h
    simp only [List.getElem?_take, List.getElem?_drop] at g0 g2
    have k0 := dot_at a b (j := i + 0) (by simpa using g0)
    have k2 := dot_at a b (j := i + 2) (by simpa using g2)
    lia
  · rintro rfl
    refine ⟨by lia, ?_⟩
    rw [List.drop_left' (by rw [List.length_map])]
    rfl
theorem cuts_dots (a b : List Nat) : occurrences (wantOf a b) dots 0 (wantOf a b).length ((wantOf a b).length + 1) = [a.length] := by
  obtain ⟨f, h, hf⟩ := StrLaws.occ_tight (wantOf a b) dots (by rw [dots_len]; lia)
  revert h
  generalize occurrences (wantOf a b) dots 0 (wantOf a b).length ((wantOf a b).length + 1) = cuts
  intro h
  cases cuts with
  | nil =>
    have e : f = 0 := h
    exact absurd ((at_dots a b a.length).mpr rfl) (hf _ (by lia))
  | cons c r =>
    obtain ⟨h1, h2, h3, h4⟩ := h
    have ec := (at_dots a b c).mp h2
    cases r with
    | nil => rw [ec]
    | cons d r =>
      obtain ⟨g1, g2, _, _⟩ := h4
      have ed := (at_dots a b d).mp g2
      rw [dots_len] at g1
      lia
theorem has_dots (a b : List Nat) : (occurrences (wantOf a b) dots 0 (wantOf a b).length 1).isEmpty = false := by
  have h := (StrLaws.found_iff (wantOf a b) dots).mpr ⟨a.length, (at_dots a b a.length).mpr rfl⟩
  simpa using h
theorem kind_dots (x : Str) : decide (Builtin.Str.strKind x < Builtin.Str.strKind dots) = false := by
  have h1 : Builtin.Str.strKind dots = 1 := by decide +kernel
  rw [h1]
  refine decide_eq_false fun h => ?_
  unfold Builtin.Str.strKind at h
  split at h
  · lia
  · split at h <;> lia
theorem split_dots (a b : List Nat) : Txt.split (wantOf a b) dots = [txt a, txt b] := by
  unfold Txt.split
  rw [kind_dots, Bool.or_false, if_neg (by rw [want_len, dots_len]; simp; lia), cuts_dots, if_neg (by simp)]
  have e1 : strSub (wantOf a b) 0 a.length = txt a := str_eq (by
    rw [StrLaws.strSub_toList, want_list, txt_list, List.drop_zero, Nat.sub_zero, List.take_left' (by rw [List.length_map])])
  have e2 : strSub (wantOf a b) (a.length + 3) (wantOf a b).length = txt b := str_eq (by
    rw [StrLaws.strSub_toList, want_list, txt_list, want_len, ← List.append_assoc, List.drop_left' (by simp), List.take_of_length_le (by simp)])
  show [strSub (wantOf a b) 0 a.length, strSub (wantOf a b) (a.length + dots.length) (wantOf a b).length] = _
  rw [dots_len, e1, e2]
theorem subAt_txt (g b : List Nat) (i : Nat) : subAt (txt g) (txt b) i = ((g.drop i).take b.length == b) := by
  rw [StrLaws.subAt_eq, txt_list, txt_list, txt_len, ← List.map_drop, ← List.map_take]
  by_cases h : (g.drop i).take b.length = b
  · rw [h]; simp
  · rw [beq_eq_false_iff_ne.mpr h]
    exact beq_eq_false_iff_ne.mpr fun e => h (add97_inj e)
theorem starts_txt {g a : List Nat} (h : a.length ≤ g.length) : Txt.startswith (txt g) (txt a) = (g.take a.length == a) := by
  unfold Txt.startswith
  rw [subAt_txt, txt_len, txt_len, Nat.zero_add, decide_eq_true h, Bool.true_and, List.drop_zero]
theorem ends_txt {g b : List Nat} (h : b.length ≤ g.length) : Txt.endswith (txt g) (txt b) = (g.drop (g.length - b.length) == b) := by
  unfold Txt.endswith
  rw [subAt_txt, txt_len, txt_len, Nat.zero_add, decide_eq_true h, Bool.true_and]
  rw [List.take_of_length_le (by rw [List.length_drop]; omega)]
end
section -- E2
open PySem PySem.W PyProof.Rows PySem.Calls
theorem idle_E2 : True := by
  w_top off
  trivial
local macro_rules | `(tactic| walk_at "compareOp NotIn str str") => `(tactic| walk_at "s 3")
local macro_rules | `(tactic| walk_at "call builtin:str.split") => `(tactic| walk_at "s 3")
local macro_rules | `(tactic| walk_at "call builtin:str.startswith") => `(tactic| walk_at "s 3")
local macro_rules | `(tactic| walk_at "call builtin:str.endswith") => `(tactic| walk_at "s 3")
theorem for_none {prog : Program} {w : World} {A : Around} {E : Value → Shared → Prop} {s : Shared} {env : Env} {h₀ : Heap} {L : Addr} {m : Str → Option Value} {news : List (Addr × Obj)} {x : Str} {px : Pos} {body : List Stmt} {Q : Flow → Shared → Prop} {l : Addr}
    (hh : A.handled = none) (hl : s.heap.IsList l #[]) (F : Fr h₀ L s.heap m) (N : News h₀ L s.heap news) (h : ∀ h' tk, Fr h₀ L h' m → News h₀ L h' news → Q .next { s with heap := h', toks := tk }) :
    wpAny (model prog w) A (pyIter (.ref l)) (fun it s₂ => LoopAtT prog w A env x px body Q E it s₂) E s := by
  have hlt : l < s.heap.objs.size := by obtain ⟨_, e, _⟩ := hl; exact Heap.lt_size e
  refine wpAny_pyIter_list hl ?_
  unfold LoopAtT
  have up : ∀ b o, s.heap.get? b = some o → (s.heap.push { cls := .type "list_iterator", data := .fields #[.ref l, .int 0 0] }).get? b = some o := fun b o e => Heap.get?_push_of_some _ e
  have WL := Walks.list (prog := prog) (w := w) hh s.heap.objs.size l (Nat.ne_of_lt hlt) #[]
  have I0 : h₀.get? s.heap.objs.size = none := next_is_new F
  refine codeAny_forLoop (fun k s' => s' = { s with heap := s.heap.push { cls := .type "list_iterator", data := .fields #[.ref l, .int 0 0] } }) ?_ 1 rfl
  rintro k s' rfl
  refine WL.done _ _ _ ⟨⟨_, Heap.get?_push_size _ rfl, rfl, rfl⟩, hl.push _⟩ fun h' tk hk => wpAny_execs_nil ?_
  refine h h' tk (LCg.fr_but (F.keeps up) hk (Nat.ne_of_lt F.ns.lt) I0) (LCg.news_but (N.grown up) hk fun p hp => Nat.ne_of_lt (Heap.lt_size (N p hp).1))
theorem len_txt {prog : Program} {w : World} {A : Around} {E : Value → Shared → Prop} {s : Shared} {Q : Value → Shared → Prop} {l : List Nat} {t : Tok} (hl : l.length ≤ 16) (h : Q (.int (l.length : Nat) (s.toks + 1)) { s with toks := s.toks + 1 + 1 }) : wpAny (model prog w) A (call (.builtin "len") [.str (txt l) t]) Q E s :=
  PyProof.Rows.len_str (by rw [txt_len]; lia) (by rw [txt_len]; exact h)
local macro_rules | `(tactic| walk_at "call builtin:len") => `(tactic| (k_here; (with_reducible show wpAny _ _ (call (Value.builtin "len") [Value.str (txt _) _]) _ _ _); (refine len_txt (by assumption) ?_)))
theorem truthy_txt {prog : Program} {w : World} {A : Around} {E : Value → Shared → Prop} {s : Shared} {Q : Bool → Shared → Prop} {l : List Nat} {t : Tok} (hl : l.length ≤ 16) (h0 : 1 ≤ l.length) (h : Q true { s with toks := s.toks + 1 + 1 }) : wpAny (model prog w) A (truthy (.str (txt l) t)) Q E s :=
  PySem.P.truthy_str (by rw [txt_len]; lia) (by rw [txt_len]; rw [show (((l.length : Nat) : Int) != 0) = true from bne_iff_ne.mpr (by lia)]; exact h)
local macro_rules | `(tactic| walk_at "truthy str") => `(tactic| (k_here; (with_reducible show wpAny _ _ (truthy (Value.str (txt _) _)) _ _ _); (refine truthy_txt (by assumption) (by assumption) ?_)))
set_option maxRecDepth 100000 in
set_option maxHeartbeats 8000000 in
theorem match_call {w : World} {news : List (Addr × Obj)} (a b g : List Nat) (t1 t2 : Tok) (ha : 1 ≤ a.length) (hb : 1 ≤ b.length) (hab : a.length + b.length ≤ g.length) (hg : g.length ≤ 16) :
   Does w 84 1 8 [.str (wantOf a b) t1, .str (txt g) t2] news fun v news' => v = .bool ((g.take a.length == a) && (g.drop (g.length - b.length) == b)) ∧ news' = news := by
  have ha6 : a.length ≤ 16 := by lia
  have hb6 : b.length ≤ 16 := by lia
  unfold Does
  k_fill
  intro p loose mean mg mb dp un gd cn cs af ccd cl outer A₀ base h₀ L m s Q E B F X N T hk hd hu hret
  refine wpAny_call ?_
  k_dflt cell_enter
  k_steps
  unfold Halt
  refine PyProof.Rows.notIn_str ?_
  rw [has_dots]
  k_steps
  unfold Halt
  refine KSpl.split1 (by k_asm) (by k_asm) (by decide) ?_ (by rw [want_len, sizeLine_eq]; lia)
  intro D l h₁ k₁ e₁ a₁ F₁ N₁ l₁
  rw [split_dots] at e₁
  obtain ⟨ta, l', rfl, e₂⟩ := KSpl.cons_of e₁
  obtain ⟨tb, l'', rfl, e₃⟩ := KSpl.cons_of e₂
  obtain rfl := KSpl.nil_of e₃
  replace N₁ : News _ _ h₁ ((D, listOf (List.toArray [Value.str (txt a) ta, Value.str (txt b) tb]) 0) :: _) := N₁
  clear a₁ e₁ e₂ e₃
  try k_lt l₁
  k_steps
  unfold Halt
  refine SC.startswith ?_
  rw [starts_txt (by lia)]
  cases hP : (g.take a.length == a) with
  | false =>
    rw [hP] at hret
    k_steps
    exact hret _ _ _ _ (by assumption) (cb_drop (by assumption) (by walk_at "my sub")) ⟨rfl, rfl⟩
  | true =>
    rw [hP] at hret
    k_steps
    unfold Halt
    refine SC.endswith ?_
    rw [ends_txt (by lia)]
    cases hS : (g.drop (g.length - b.length) == b) with
    | false =>
      rw [hS] at hret
      k_steps
      exact hret _ _ _ _ (by assumption) (cb_drop (by assumption) (by walk_at "my sub")) ⟨rfl, rfl⟩
    | true =>
      rw [hS] at hret
      k_steps
      rename Fr _ _ _ _ => FZ
      rename News _ _ _ _ => NZ
      refine For_T ?_
      k_steps
      refine for_none rfl (News.isList NZ (.tail _ (.head _))) FZ NZ ?_
      intro h9 tk9 F9 N9
      k_steps
      exact hret _ _ _ _ (by assumption) (cb_drop (by assumption) (by walk_at "my sub")) ⟨rfl, rfl⟩
end
section -- T2
open PySem PySem.W PyProof.Rows PySem.Calls
section
variable {prog : Program} {w : World} {A : Around} {E : Value → Shared → Prop} {s : Shared} {env : Env} {h₀ : Heap} {x : Str} {px : Pos} {body : List Stmt} {Q : Flow → Shared → Prop}
theorem rangeA {σ : Type} {r : Addr} {a₀ b₀ : Int} {t₀ u₀ v₀ : Tok} {n : Nat} {m₀ : Str → Option Value} (adr : List Addr) (Led : σ → List (Addr × Obj)) (fixed : List (Addr × Obj)) (J : Nat → σ → (Str → Option Value) → Nat → Prop) (st₀ : σ)
    (hx : env.kindOf x = some .local) (hp : (env.scope.kind == .class || (env.scope.kind == .module && env.locals != env.globals)) = false) (hE : PassesOwn (model prog w) A env E)
    (hh : A.handled = none) (hr : IsRange s.heap r a₀ b₀ 1 t₀ u₀ v₀) (hsmall : Builtin.Range.small a₀ b₀ 1 = true) (hn : Builtin.Range.rangeSize a₀ b₀ 1 = (n : Int))
    (hadr : ∀ st, (Led st).map (·.1) = adr) (hsep : ∀ p ∈ fixed, p.1 ∉ adr)
    (F : Fr h₀ env.locals s.heap m₀) (N : News h₀ env.locals s.heap (Led st₀ ++ fixed)) (hj : ∀ tk, J 0 st₀ m₀ tk)
    (turn : ∀ i st m₁ h tk rest, i < n → J i st m₁ tk → Fr h₀ env.locals h (fun y => if y = x then some (.int (a₀ + (i : Int)) tk) else m₁ y) → News h₀ env.locals h (Led st ++ rest) → (∀ p ∈ rest, p.1 ∉ adr) → (∀ p ∈ fixed, p ∈ rest) →
      wpAny (model prog w) A (execs body env) (LpT h₀ env.locals { s with heap := h, toks := tk + 1 + 1 } Led rest (J (i + 1)) Q) E { s with heap := h, toks := tk + 1 + 1 })
    (done : ∀ st m' h' tk, J n st m' tk → Fr h₀ env.locals h' m' → News h₀ env.locals h' (Led st ++ fixed) → Q .next { s with heap := h', toks := tk }) :
    wpAny (model prog w) A (pyIter (.ref r)) (fun it s₂ => LoopAtT prog w A env x px body Q E it s₂) E s := by
  refine wpAny_pyIter_range hr hsmall ?_
  have hI₀ : IsRangeIter (s.heap.push { cls := .type "range_iterator", data := .fields #[rawInt a₀, rawInt (Builtin.Range.rangeSize a₀ b₀ 1), rawInt 1] }) s.heap.objs.size a₀ (n : Int) 1 := by
    rw [hn]; exact Heap.get?_push_size _ rfl
  generalize hI : s.heap.objs.size = I at *
  have hIL : I ≠ env.locals := fun e => absurd F.ns.lt (by rw [hI, e]; exact Nat.lt_irrefl _)
  have hI0 : h₀.get? I = none := by rw [← hI]; exact next_is_new F
  have hIa : I ∉ adr := fun hm => by
    rw [← hadr st₀] at hm
    obtain ⟨p, hp', e⟩ := List.mem_map.mp hm
    have := Heap.lt_size (N p (List.mem_append_left _ hp')).1
    rw [e, hI] at this
    exact Nat.lt_irrefl _ this
  have hIf : ∀ p ∈ fixed, p.1 ≠ I := fun p hp' e => by
    have := Heap.lt_size (N p (List.mem_append_right _ hp')).1
    rw [e, hI] at this
    exact Nat.lt_irrefl _ this
  unfold LoopAtT
  refine codeAny_forLoop (fun k s' => ∃ (h' : Heap) (tk : Nat) (m' : Str → Option Value) (st : σ) (i : Nat), s' = { s with heap := h', toks := tk } ∧ IsRangeIter h' I (a₀ + (i : Int)) ((n : Int) - (i : Int)) 1 ∧ Fr h₀ env.locals h' m' ∧ News h₀ env.locals h' (Led st ++ fixed) ∧ J i st m' tk ∧ i ≤ n ∧ k = n + 1 - i) ?_ (n + 1)
    ⟨_, s.toks, m₀, st₀, 0, rfl, ?_, F.push _, fun p hp => ⟨Heap.get?_push_of_some _ (N p hp).1, (N p hp).2⟩, hj _, Nat.zero_le _, rfl⟩
  · rintro k s' ⟨h', tk, m', st, i, rfl, hit, F', N', hJ, hi, rfl⟩
    have offI : ∀ p ∈ Led st ++ fixed, p.1 ≠ I := fun p hp' e => by
      rcases List.mem_append.mp hp' with q | q
      · exact hIa (by rw [← hadr st, ← e]; exact List.mem_map_of_mem q)
      · exact hIf p q e
    by_cases hlt : i < n
    · refine wpAny_pyNext_range_item hit (by lia) fun h₁ hit₁ hs₁ => ?_
      have F₁ : Fr h₀ env.locals h₁ m' := F'.change hs₁ hIL hI0
      have N₁ : News h₀ env.locals h₁ (Led st ++ fixed) := fun p hp' => ⟨(hs₁.2 _ (offI p hp')).trans (N' p hp').1, (N' p hp').2⟩
      refine wpAny_assign_Name (wpAny_storeName_local hx F₁.ns (fun h₂ hn₂ hs₂ => ?_) hp)
      have F₂ := F₁.set hn₂ hs₂
      have N₂ : News h₀ env.locals h₂ (Led st ++ fixed) := N₁.set hs₂
      have hit₂ : IsRangeIter h₂ I (a₀ + (i : Int) + 1) ((n : Int) - (i : Int) - 1) 1 := (hs₂.2 I hIL).trans hit₁
      have N₃ : News h₀ env.locals h₂ (Led st ++ ((I, { cls := .type "range_iterator", dict := none, data := .fields #[rawInt (a₀ + (i : Int) + 1), rawInt ((n : Int) - (i : Int) - 1), rawInt 1], slots := #[] }) :: fixed)) := fun p hp' => by
        rcases List.mem_append.mp hp' with q | q
        · exact N₂ p (List.mem_append_left _ q)
        · rcases List.mem_cons.mp q with rfl | q
          · exact ⟨hit₂, hIL, hI0⟩
          · exact N₂ p (List.mem_append_right _ q)
      refine wpAny_mono (wpAny_passesOwn hE (turn i st m' h₂ tk _ hlt hJ F₂ N₃ (fun p hp' => ?_) fun p hp' => List.mem_cons_of_mem _ hp')) (fun f s₃ h₃ => ?_) fun _ _ e => e
      · rcases List.mem_cons.mp hp' with rfl | q
        · exact hIa
        · exact hsep p q
      · have fin : (∃ (st : σ) (h' : Heap) (tk' : Nat) (m' : Str → Option Value), s₃ = { s with heap := h', toks := tk' } ∧ Fr h₀ env.locals h' m' ∧ News h₀ env.locals h' (Led st ++ ((I, { cls := .type "range_iterator", dict := none, data := .fields #[rawInt (a₀ + (i : Int) + 1), rawInt ((n : Int) - (i : Int) - 1), rawInt 1], slots := #[] }) :: fixed)) ∧ J (i + 1) st m' tk') →
            ∃ mm, mm < n + 1 - i ∧ ∃ (h' : Heap) (tk : Nat) (m' : Str → Option Value) (st : σ) (i : Nat), s₃ = { s with heap := h', toks := tk } ∧ IsRangeIter h' I (a₀ + (i : Int)) ((n : Int) - (i : Int)) 1 ∧ Fr h₀ env.locals h' m' ∧ News h₀ env.locals h' (Led st ++ fixed) ∧ J i st m' tk ∧ i ≤ n ∧ mm = n + 1 - i := by
          rintro ⟨st', hz₃, tk₃, m₃, rfl, F₃, N₄, hJ₃⟩
          have hitz := (N₄ _ (List.mem_append_right _ (List.mem_cons_self ..))).1
          have c1 : a₀ + (i : Int) + 1 = a₀ + ((i + 1 : Nat) : Int) := by lia
          have c2 : (n : Int) - (i : Int) - 1 = (n : Int) - ((i + 1 : Nat) : Int) := by lia
          refine ⟨n + 1 - (i + 1), by lia, hz₃, tk₃, m₃, st', i + 1, rfl, ?_, F₃, fun p hp' => N₄ p ?_, hJ₃, hlt, rfl⟩
          · rw [← c1, ← c2]; exact hitz
          · rcases List.mem_append.mp hp' with q | q
            · exact List.mem_append_left _ q
            · exact List.mem_append_right _ (List.mem_cons_of_mem _ q)
        cases f with
        | ret v => exact h₃
        | brk => exact h₃
        | cont => exact fin h₃
        | next => exact fin h₃
    · have hin : i = n := by lia
      subst hin
      refine wpAny_pyNext_range_end hh hit (by lia) fun h₁ he => wpAny_execs_nil ?_
      have F₁ : Fr h₀ env.locals h₁ m' := ⟨F'.ns.at' fun o e => he _ o (Ne.symm hIL) e, fun b o e => he b o (fun q => by rw [q, hI0] at e; cases e) (F'.keep b o e), F'.above⟩
      exact done st m' h₁ tk hJ F₁ fun p hp' => ⟨he _ _ (offI p hp') (N' p hp').1, (N' p hp').2⟩
  · have c1 : a₀ + ((0 : Nat) : Int) = a₀ := Int.add_zero _
    have c2 : (n : Int) - ((0 : Nat) : Int) = (n : Int) := Int.sub_zero _
    rw [c1, c2]; exact hI₀
noncomputable def LpC (h₀ : Heap) (L : Addr) (s : Shared) (cN : Addr) (rest : List (Addr × Obj)) (J : (Str → Option Value) → Prop) (Q : Flow → Shared → Prop) (f : Flow) (s₂ : Shared) : Prop :=
  match f with
  | .ret v => Q (.ret v) s₂
  | .brk => Q .next s₂
  | _ => ∃ (h' : Heap) (tk' : Nat) (m' : Str → Option Value) (oc : Obj) (v : Option Value), s₂ = { s with heap := h', toks := tk' } ∧ Fr h₀ L h' m' ∧ News h₀ L h' ((cN, oc) :: rest) ∧ oc.data = .cell v ∧ J m'
theorem LpC.next {h₀ : Heap} {L : Addr} {s : Shared} {cN : Addr} {rest : List (Addr × Obj)} {J : (Str → Option Value) → Prop} {Q : Flow → Shared → Prop} {h' : Heap} {tk' : Nat} {m' : Str → Option Value} {oc : Obj} {v : Option Value}
    (F : Fr h₀ L h' m') (N : News h₀ L h' ((cN, oc) :: rest)) (hoc : oc.data = .cell v) (hJ : J m') : LpC h₀ L s cN rest J Q .next { s with heap := h', toks := tk' } := ⟨h', tk', m', oc, v, rfl, F, N, hoc, hJ⟩
/-- over range(a, b), the loop's name held in a cell -/
theorem rangeC {r : Addr} {a₀ b₀ : Int} {t₀ u₀ v₀ : Tok} {n : Nat} {m₀ : Str → Option Value} {cN : Addr} {oc₀ : Obj} {c₀ : Option Value} (fixed : List (Addr × Obj)) (J : (Str → Option Value) → Prop)
    (hkf : env.scope.kind = .function) (hx : env.kindOf x = some .cell) (hcl : env.cells.lookup x = some cN) (hE : PassesOwn (model prog w) A env E)
    (hh : A.handled = none) (hr : IsRange s.heap r a₀ b₀ 1 t₀ u₀ v₀) (hsmall : Builtin.Range.small a₀ b₀ 1 = true) (hn : Builtin.Range.rangeSize a₀ b₀ 1 = (n : Int))
    (hoc₀ : oc₀.data = .cell c₀) (hsep : ∀ p ∈ fixed, p.1 ≠ cN)
    (F : Fr h₀ env.locals s.heap m₀) (N : News h₀ env.locals s.heap ((cN, oc₀) :: fixed)) (hj : J m₀)
    (turn : ∀ i m₁ h tk oc rest, i < n → J m₁ → oc.data = .cell (some (.int (a₀ + (i : Int)) tk)) → Fr h₀ env.locals h m₁ → News h₀ env.locals h ((cN, oc) :: rest) → (∀ p ∈ rest, p.1 ≠ cN) → (∀ p ∈ fixed, p ∈ rest) →
      wpAny (model prog w) A (execs body env) (LpC h₀ env.locals { s with heap := h, toks := tk + 1 } cN rest J Q) E { s with heap := h, toks := tk + 1 })
    (done : ∀ m' h' tk oc v, J m' → oc.data = .cell v → Fr h₀ env.locals h' m' → News h₀ env.locals h' ((cN, oc) :: fixed) → Q .next { s with heap := h', toks := tk }) :
    wpAny (model prog w) A (pyIter (.ref r)) (fun it s₂ => LoopAtT prog w A env x px body Q E it s₂) E s := by
  refine wpAny_pyIter_range hr hsmall ?_
  have hI₀ : IsRangeIter (s.heap.push { cls := .type "range_iterator", data := .fields #[rawInt a₀, rawInt (Builtin.Range.rangeSize a₀ b₀ 1), rawInt 1] }) s.heap.objs.size a₀ (n : Int) 1 := by
    rw [hn]; exact Heap.get?_push_size _ rfl
  generalize hI : s.heap.objs.size = I at *
  have hIL : I ≠ env.locals := fun e => absurd F.ns.lt (by rw [hI, e]; exact Nat.lt_irrefl _)
  have hI0 : h₀.get? I = none := by rw [← hI]; exact next_is_new F
  have hIc : I ≠ cN := fun e => by
    have := Heap.lt_size (N _ List.mem_cons_self).1
    rw [hI, e] at this
    exact Nat.lt_irrefl _ this
  have hIf : ∀ p ∈ fixed, p.1 ≠ I := fun p hp' e => by
    have := Heap.lt_size (N p (List.mem_cons_of_mem _ hp')).1
    rw [e, hI] at this
    exact Nat.lt_irrefl _ this
  unfold LoopAtT
  refine codeAny_forLoop (fun k s' => ∃ (h' : Heap) (tk : Nat) (m' : Str → Option Value) (oc : Obj) (v : Option Value) (i : Nat), s' = { s with heap := h', toks := tk } ∧ IsRangeIter h' I (a₀ + (i : Int)) ((n : Int) - (i : Int)) 1 ∧ Fr h₀ env.locals h' m' ∧ News h₀ env.locals h' ((cN, oc) :: fixed) ∧ oc.data = .cell v ∧ J m' ∧ i ≤ n ∧ k = n + 1 - i) ?_ (n + 1)
    ⟨_, s.toks, m₀, oc₀, c₀, 0, rfl, ?_, F.push _, fun p hp => ⟨Heap.get?_push_of_some _ (N p hp).1, (N p hp).2⟩, hoc₀, hj, Nat.zero_le _, rfl⟩
  · rintro k s' ⟨h', tk, m', oc, v, i, rfl, hit, F', N', hoc, hJ, hi, rfl⟩
    have offI : ∀ p ∈ (cN, oc) :: fixed, p.1 ≠ I := fun p hp' e => by
      rcases List.mem_cons.mp hp' with rfl | q
      · exact hIc e.symm
      · exact hIf p q e
    by_cases hlt : i < n
    · refine wpAny_pyNext_range_item hit (by lia) fun h₁ hit₁ hs₁ => ?_
      have F₁ : Fr h₀ env.locals h₁ m' := F'.change hs₁ hIL hI0
      have N₁ : News h₀ env.locals h₁ ((cN, oc) :: fixed) := fun p hp' => ⟨(hs₁.2 _ (offI p hp')).trans (N' p hp').1, (N' p hp').2⟩
      have hmem := N₁ _ List.mem_cons_self
      refine wpAny_assign_Name (wpAny_storeName_cell hkf hx hcl ⟨oc, hmem.1, hoc⟩ fun h₂ hv hs₂ => ?_)
      obtain ⟨oc₂, ho₂, hd₂⟩ := hv
      have F₂ : Fr h₀ env.locals h₂ m' := ⟨F₁.ns.sameBut hs₂ (Ne.symm hmem.2.1), fun b ob e => (hs₂.2 b (fun q => by rw [q, hmem.2.2] at e; cases e)).trans (F₁.keep b ob e), F₁.above⟩
      have hit₂ : IsRangeIter h₂ I (a₀ + (i : Int) + 1) ((n : Int) - (i : Int) - 1) 1 := (hs₂.2 I hIc).trans hit₁
      have N₃ : News h₀ env.locals h₂ ((cN, oc₂) :: ((I, { cls := .type "range_iterator", dict := none, data := .fields #[rawInt (a₀ + (i : Int) + 1), rawInt ((n : Int) - (i : Int) - 1), rawInt 1], slots := #[] }) :: fixed)) := fun p hp' => by
        rcases List.mem_cons.mp hp' with rfl | q
        · exact ⟨ho₂, hmem.2⟩
        · rcases List.mem_cons.mp q with rfl | q
          · exact ⟨hit₂, hIL, hI0⟩
          · exact ⟨(hs₂.2 _ (hsep p q)).trans (N₁ p (List.mem_cons_of_mem _ q)).1, (N₁ p (List.mem_cons_of_mem _ q)).2⟩
      refine wpAny_mono (wpAny_passesOwn hE (turn i m' h₂ tk oc₂ _ hlt hJ hd₂ F₂ N₃ (fun p hp' => ?_) fun p hp' => List.mem_cons_of_mem _ hp')) (fun f s₃ h₃ => ?_) fun _ _ e => e
      · rcases List.mem_cons.mp hp' with rfl | q
        · exact hIc
        · exact hsep p q
      · have fin : (∃ (h' : Heap) (tk' : Nat) (m' : Str → Option Value) (oc : Obj) (v : Option Value), s₃ = { s with heap := h', toks := tk' } ∧ Fr h₀ env.locals h' m' ∧ News h₀ env.locals h' ((cN, oc) :: ((I, { cls := .type "range_iterator", dict := none, data := .fields #[rawInt (a₀ + (i : Int) + 1), rawInt ((n : Int) - (i : Int) - 1), rawInt 1], slots := #[] }) :: fixed)) ∧ oc.data = .cell v ∧ J m') →
            ∃ mm, mm < n + 1 - i ∧ ∃ (h' : Heap) (tk : Nat) (m' : Str → Option Value) (oc : Obj) (v : Option Value) (i : Nat), s₃ = { s with heap := h', toks := tk } ∧ IsRangeIter h' I (a₀ + (i : Int)) ((n : Int) - (i : Int)) 1 ∧ Fr h₀ env.locals h' m' ∧ News h₀ env.locals h' ((cN, oc) :: fixed) ∧ oc.data = .cell v ∧ J m' ∧ i ≤ n ∧ mm = n + 1 - i := by
          rintro ⟨hz₃, tk₃, m₃, oc₃, v₃, rfl, F₃, N₄, hoc₃, hJ₃⟩
          have hitz := (N₄ _ (List.mem_cons_of_mem _ List.mem_cons_self)).1
          have c1 : a₀ + (i : Int) + 1 = a₀ + ((i + 1 : Nat) : Int) := by lia
          have c2 : (n : Int) - (i : Int) - 1 = (n : Int) - ((i + 1 : Nat) : Int) := by lia
          refine ⟨n + 1 - (i + 1), by lia, hz₃, tk₃, m₃, oc₃, v₃, i + 1, rfl, ?_, F₃, fun p hp' => N₄ p ?_, hoc₃, hJ₃, hlt, rfl⟩
          · rw [← c1, ← c2]; exact hitz
          · rcases List.mem_cons.mp hp' with rfl | q
            · exact List.mem_cons_self
            · exact List.mem_cons_of_mem _ (List.mem_cons_of_mem _ q)
        cases f with
        | ret v => exact h₃
        | brk => exact h₃
        | cont => exact fin h₃
        | next => exact fin h₃
    · have hin : i = n := by lia
      subst hin
      refine wpAny_pyNext_range_end hh hit (by lia) fun h₁ he => wpAny_execs_nil ?_
      have F₁ : Fr h₀ env.locals h₁ m' := ⟨F'.ns.at' fun o e => he _ o (Ne.symm hIL) e, fun b o e => he b o (fun q => by rw [q, hI0] at e; cases e) (F'.keep b o e), F'.above⟩
      exact done m' h₁ tk oc v hJ hoc F₁ fun p hp' => ⟨he _ _ (offI p hp') (N' p hp').1, (N' p hp').2⟩
  · have c1 : a₀ + ((0 : Nat) : Int) = a₀ := Int.add_zero _
    have c2 : (n : Int) - ((0 : Nat) : Int) = (n : Int) := Int.sub_zero _
    rw [c1, c2]; exact hI₀
end
end
section -- Y1
open PySem PySem.W PyProof.Rows PySem.Calls PySem.SeqAt
noncomputable def HeldBy (h₀ : Heap) (L : Addr) (m : Str → Option Value) (s : Shared) (led : List (Addr × Obj)) (s' : Shared) : Prop := ∃ h' tk', s' = { s with heap := h', toks := tk' } ∧ Fr h₀ L h' m ∧ News h₀ L h' led
noncomputable def TestEnd (k : Bool) (h₀ : Heap) (L : Addr) (m : Str → Option Value) (s : Shared) (led : List (Addr × Obj)) (b : Bool) (s' : Shared) : Prop := b = k ∧ HeldBy h₀ L m s led s'
noncomputable def ItemEnd (Y : Value → Prop) (h₀ : Heap) (L : Addr) (m : Str → Option Value) (s : Shared) (led : List (Addr × Obj)) (y : Value) (s' : Shared) : Prop := Y y ∧ HeldBy h₀ L m s led s'
section
variable {prog : Program} {w : World} {A : Around} {h₀ : Heap} {L : Addr} {m : Str → Option Value} {env : Env} {ct elt : Expr} {x : Str} {scope : Scope} {cl : List (Str × Addr)} {s : Shared} {S : List (Addr × Obj) → Prop} {Fin : List Value → List (Addr × Obj) → Prop} {news : List (Addr × Obj)}
/-- a comprehension with a test whose parts leave the heap alone -/
theorem restT {α : Type} {its : Array Value} {l : List α} {n : Nat} (Is : α → Value → Prop) (keep : α → Bool) (Yes : α → Value → Prop) (P : List Value → List α → Prop)
    (hn : l.length = n) (hi : ∀ (i : Nat) v, i < n → its[i]? = some v → ∃ a, l[i]? = some a ∧ Is a v)
    (turn : ∀ a v I oI C oC D m₂ ys h tk (E' : Value → Shared → Prop), a ∈ l → Is a v → LCg.NsObj oC m₂ → m₂ x = some v → Fr h₀ L h m → News h₀ L h ((I, oI) :: (C, oC) :: (D, LCg.lst ys) :: news) →
      wpAny (model prog w) A (isTrue ct (compEnvC scope cl C env) (eval ct (compEnvC scope cl C env))) (TestEnd (keep a) h₀ L m s ((I, oI) :: (C, oC) :: (D, LCg.lst ys) :: news)) E' { s with heap := h, toks := tk })
    (item : ∀ a v I oI C oC D m₂ ys h tk (E' : Value → Shared → Prop), a ∈ l → Is a v → LCg.NsObj oC m₂ → m₂ x = some v → Fr h₀ L h m → News h₀ L h ((I, oI) :: (C, oC) :: (D, LCg.lst ys) :: news) →
      wpAny (model prog w) A (eval elt (compEnvC scope cl C env)) (ItemEnd (Yes a) h₀ L m s ((I, oI) :: (C, oC) :: (D, LCg.lst ys) :: news)) E' { s with heap := h, toks := tk })
    (h0 : P [] []) (hs : ∀ ys r a y, P ys r → Yes a y → P (ys ++ [y]) (r ++ [a])) (hS : S news) (fin : ∀ ys, P ys (l.filter keep) → Fin ys news) :
    LCt.CompRestT prog w A h₀ L m env ct elt x scope cl s S (fun i v => its[i]? = some v) Fin n 0 [] news := by
  have key : ∀ (j i : Nat) (ys : List Value), i + j = n → P ys ((l.take i).filter keep) → LCt.CompRestT prog w A h₀ L m env ct elt x scope cl s S (fun i v => its[i]? = some v) Fin j i ys news := by
    intro j
    induction j with
    | zero =>
      intro i ys hi' hy
      have e : i = l.length := by lia
      subst e
      rw [List.take_length] at hy
      exact LCt.CompRestT.zero (fin ys hy)
    | succ j ih =>
      intro i ys hi' hy
      refine LCt.CompRestT.succ ?_
      intro v I oI C oC D m₂ h tk E' hv hC hx F N off ne
      obtain ⟨a, ha, hia⟩ := hi i v (by lia) hv
      have hst : (l.take (i + 1)).filter keep = (l.take i).filter keep ++ (if keep a then [a] else []) := by
        rw [List.take_add_one, ha, List.filter_append]
        congr 1
        cases hk : keep a <;> simp [hk]
      refine wpAny_mono (turn a v I oI C oC D m₂ ys h tk E' (List.mem_of_getElem? ha) hia hC hx F N) (fun b s₂ hq => ?_) fun _ _ e => e
      obtain ⟨hb, h₂, tk₂, rfl, F₂, N₂⟩ := hq
      cases hk : keep a with
      | true =>
        rw [hk] at hb hst
        rw [hb]
        simp only [if_true] at hst ⊢
        refine wpAny_mono (item a v I oI C oC D m₂ ys h₂ tk₂ E' (List.mem_of_getElem? ha) hia hC hx F₂ N₂) (fun y s₃ hr => ?_) fun _ _ e => e
        obtain ⟨hy2, h₃, tk₃, rfl, F₃, N₃⟩ := hr
        refine LCg.CompEnd.intro F₃ N₃ news (fun p hp => hp) off hS (ih (i + 1) _ (by lia) ?_)
        rw [hst]
        exact hs _ _ _ _ hy hy2
      | false =>
        rw [hk] at hb hst
        rw [hb]
        simp only [Bool.false_eq_true, if_false, List.append_nil] at hst ⊢
        refine LCg.CompEnd.intro F₂ N₂ news (fun p hp => hp) off hS (ih (i + 1) _ (by lia) ?_)
        rw [hst]
        exact hy
  exact key n 0 [] (by lia) (by simpa using h0)
/-- a comprehension without a test -/
theorem restU {α : Type} {its : Array Value} {l : List α} {n : Nat} (Is : α → Value → Prop) (Yes : α → Value → Prop) (P : List Value → List α → Prop)
    (hn : l.length = n) (hi : ∀ (i : Nat) v, i < n → its[i]? = some v → ∃ a, l[i]? = some a ∧ Is a v)
    (item : ∀ a v I oI C oC D m₂ ys h tk (E' : Value → Shared → Prop), a ∈ l → Is a v → LCg.NsObj oC m₂ → m₂ x = some v → Fr h₀ L h m → News h₀ L h ((I, oI) :: (C, oC) :: (D, LCg.lst ys) :: news) →
      wpAny (model prog w) A (eval elt (compEnvC scope cl C env)) (ItemEnd (Yes a) h₀ L m s ((I, oI) :: (C, oC) :: (D, LCg.lst ys) :: news)) E' { s with heap := h, toks := tk })
    (h0 : P [] []) (hs : ∀ ys r a y, P ys r → Yes a y → P (ys ++ [y]) (r ++ [a])) (hS : S news) (fin : ∀ ys, P ys l → Fin ys news) :
    LCg.CompRest prog w A h₀ L m env elt x scope cl s S (fun i v => its[i]? = some v) Fin n 0 [] news := by
  have key : ∀ (j i : Nat) (ys : List Value), i + j = n → P ys (l.take i) → LCg.CompRest prog w A h₀ L m env elt x scope cl s S (fun i v => its[i]? = some v) Fin j i ys news := by
    intro j
    induction j with
    | zero =>
      intro i ys hi' hy
      have e : i = l.length := by lia
      subst e
      rw [List.take_length] at hy
      exact LCg.CompRest.zero (fin ys hy)
    | succ j ih =>
      intro i ys hi' hy
      refine LCg.CompRest.succ ?_
      intro v I oI C oC D m₂ h tk E' hv hC hx F N off ne
      obtain ⟨a, ha, hia⟩ := hi i v (by lia) hv
      have hst : l.take (i + 1) = l.take i ++ [a] := by rw [List.take_add_one, ha]; rfl
      refine wpAny_mono (item a v I oI C oC D m₂ ys h tk E' (List.mem_of_getElem? ha) hia hC hx F N) (fun y s₃ hr => ?_) fun _ _ e => e
      obtain ⟨hy2, h₃, tk₃, rfl, F₃, N₃⟩ := hr
      refine LCg.CompEnd.intro F₃ N₃ news (fun p hp => hp) off hS (ih (i + 1) _ (by lia) ?_)
      rw [hst]
      exact hs _ _ _ _ hy hy2
  exact key n 0 [] (by lia) (by simpa using h0)
end
noncomputable def IsK (k : Nat) (v : Value) : Prop := ∃ t, v = .int (k : Nat) t
theorem isK_at {vs : List Value} {l : List Nat} (h : IntsAre vs (l.map fun k => ((k : Nat) : Int))) : ∀ (i : Nat) v, i < vs.toArray.size → vs.toArray[i]? = some v → ∃ a, l[i]? = some a ∧ IsK a v := by
  intro i v _ hv
  obtain ⟨k, t, hk, e⟩ := IntsAre.at h i v (by simpa using hv)
  rw [List.getElem?_map] at e
  cases e2 : l[i]? with
  | none => rw [e2] at e; cases e
  | some a =>
    rw [e2] at e
    have e3 : ((a : Nat) : Int) = k := Option.some.inj e
    exact ⟨a, rfl, t, by rw [hk, e3]⟩
theorem carried_snoc {v : Value} {d : PyData} (hv : Carried v d) : ∀ {ys : List Value} {ds : List PyData}, CarriedAll ys ds → CarriedAll (ys ++ [v]) (ds ++ [d])
  | _, _, .nil => .cons hv .nil
  | _, _, .cons h r => .cons h (carried_snoc hv r)
theorem chr_txt {prog : Program} {w : World} {A : Around} {E : Value → Shared → Prop} {s : Shared} {Q : Value → Shared → Prop} {i : Int} {t : Tok} (k : Nat) (hi : i = 97 + (k : Int)) (hk : k < 1000) (h : Q (.str (txt [k]) s.toks) { s with toks := s.toks + 1 }) : wpAny (model prog w) A (call (.builtin "chr") [.int i t]) Q E s := by
  refine chr_of_range (by lia) (by lia) ?_
  have e : (⟨#[i.toNat]⟩ : Str) = txt [k] := by
    have e1 : i.toNat = 97 + k := by lia
    rw [e1]; rfl
  rw [e]
  exact h
theorem join_txt (r : List Nat) : Txt.join (Str.ofString "") (r.map fun k => txt [k]) = txt r := by
  show Builtin.Str.glued (Str.ofString "") _ = _
  rw [StrLaws.glued_eq_join]
  induction r with
  | nil => rfl
  | cons k r ih =>
    cases r with
    | nil => rfl
    | cons j r =>
      rw [List.map_cons] at ih
      rw [List.map_cons, List.map_cons]
      show txt [k] ++ Str.ofString "" ++ Str.join (Str.ofString "") (txt [j] :: r.map fun k => txt [k]) = _
      rw [ih]
      have e : txt [k] ++ Str.ofString "" = txt [k] := str_eq (by rw [PySem.Str.cps_append, Array.toList_append, show (Str.ofString "").cps.toList = [] by decide, List.append_nil])
      rw [e, txt_app]; rfl
theorem a_txt : Str.ofString "a" = txt [0] := by decide
end
section -- Y2
open PySem PySem.W PyProof.Rows PySem.Calls PySem.SeqAt
theorem idle_Y2 : True := by
  w_top off
  trivial
local macro_rules | `(tactic| walk_at "exec Assign cons ListComp") => `(tactic| walk_at "s 3")
local macro_rules | `(tactic| walk_at "CompSrcT") => `(tactic| walk_at "s 3")
set_option maxRecDepth 100000 in
set_option maxHeartbeats 8000000 in
theorem ring_ok {w : World} {rest : List (Addr × Obj)} {W st fi sh le ma n : Int} (tA oA sA gA cN : Addr) (os : List Value) (o : List Nat) (oe : Nat) (oc : Obj) (tn : Tok) (hoc : oc.data = .cell (some (.int n tn)))
   (hO : IntsAre os (o.map fun k => ((k : Nat) : Int))) (hol : o.length ≤ 16) :
   Runs w 20 20 [(Str.ofString "n", cN)] [lc1.1] (fun h₀ m => FrP m W st fi sh le ma ∧ m (Str.ofString "told") = some (.ref tA) ∧ m (Str.ofString "order") = some (.ref oA) ∧ m (Str.ofString "stages") = some (.ref sA) ∧ m (Str.ofString "stage") = some (.ref gA))
     ((cN, oc) :: (oA, listOf (List.toArray os) oe) :: rest)
    fun f m' led' => f = .next ∧ FrP m' W st fi sh le ma ∧ m' (Str.ofString "told") = some (.ref tA) ∧ m' (Str.ofString "order") = some (.ref oA) ∧ m' (Str.ofString "stages") = some (.ref sA) ∧ m' (Str.ofString "stage") = some (.ref gA) ∧
      ∃ rA rs re, m' (Str.ofString "ring") = some (.ref rA) ∧ led' = (rA, listOf (List.toArray rs) re) :: (cN, oc) :: (oA, listOf (List.toArray os) oe) :: rest ∧ IntsAre rs ((o.filter fun (k : Nat) => decide ((k : Int) ≤ n)).map fun k => ((k : Nat) : Int)) := by
  unfold Runs
  k_fill
  rintro pr loose mean mg mb dp un gd cn a ccd outer A₀ base h₀ L m s Q B F X N T C1 C2 hd hu ⟨⟨⟨t1, m1⟩, ⟨t2, m2⟩, ⟨t3, m3⟩, ⟨t4, m4⟩, ⟨t5, m5⟩, ⟨t6, m6⟩⟩, m7, m8, m9, m10⟩ hret
  replace F := fr_put (fr_put (fr_put (fr_put (fr_put (fr_put F (Str.ofString "many") m6) (Str.ofString "level") m5) (Str.ofString "share") m4) (Str.ofString "first") m3) (Str.ofString "step") m2) (Str.ofString "wheel") m1
  replace F := fr_put (fr_put (fr_put (fr_put F (Str.ofString "stage") m10) (Str.ofString "stages") m9) (Str.ofString "order") m8) (Str.ofString "told") m7
  dsimp only [lc1]
  k_steps
  all_goals repeat' (unfold Halt; ((k_here; lct_look; k_dflt (refine LCt.Assign_ListComp_T (F₀ := by k_asm) (by rfl) (by with_unfolding_all rfl) (by with_unfolding_all rfl) (by decide) (by rfl) (by decide) (by rfl) (by rfl) (by rfl) ?_))); k_steps)
  unfold Halt
  refine LCt.CompSrcT.ledger rfl F N (.tail _ (.head _)) (by rw [List.size_toArray, IntsAre.length hO, List.length_map, sizeLine_eq]; lia) ?_
  intro g
  refine restT (l := o) IsK (fun k => decide ((k : Int) ≤ n)) (fun k v => ∃ t, v = .int (k : Nat) t) (fun ys r => IntsAre ys (r.map fun k => ((k : Nat) : Int))) (by rw [List.size_toArray, IntsAre.length hO, List.length_map]) (isK_at hO) ?_ ?_ .nil ?_ (.inr ⟨_, .tail _ (.head _), rfl, _, rfl⟩) ?_
  · rintro k v I oI C oC D m₂ ys h tk E' hk ⟨tk1, rfl⟩ hC hx F' N'
    k_steps
    all_goals repeat' (unfold Halt; ((k_here; lct_look; k_dflt (refine LCt.Assign_ListComp_T (F₀ := by k_asm) (by rfl) (by with_unfolding_all rfl) (by with_unfolding_all rfl) (by decide) (by rfl) (by decide) (by rfl) (by rfl) (by rfl) ?_))); k_steps)
    exact ⟨rfl, _, _, rfl, by assumption, by assumption⟩
  · rintro k v I oI C oC D m₂ ys h tk E' hk ⟨tk1, rfl⟩ hC hx F' N'
    k_steps
    all_goals repeat' (unfold Halt; ((k_here; lct_look; k_dflt (refine LCt.Assign_ListComp_T (F₀ := by k_asm) (by rfl) (by with_unfolding_all rfl) (by with_unfolding_all rfl) (by decide) (by rfl) (by decide) (by rfl) (by rfl) (by rfl) ?_))); k_steps)
    exact ⟨⟨_, rfl⟩, _, _, rfl, by assumption, by assumption⟩
  · rintro ys r k y hP ⟨t, rfl⟩
    rw [List.map_append]
    exact ints_snoc hP
  · intro ys hy D h₃ tk₃ F₃ N₃ o₃
    k_steps
    all_goals repeat' (unfold Halt; ((k_here; lct_look; k_dflt (refine LCt.Assign_ListComp_T (F₀ := by k_asm) (by rfl) (by with_unfolding_all rfl) (by with_unfolding_all rfl) (by decide) (by rfl) (by decide) (by rfl) (by rfl) (by rfl) ?_))); k_steps)
    exact hret .next _ ((D, listOf (List.toArray ys) ys.length) :: (cN, oc) :: (oA, listOf (List.toArray os) oe) :: rest) _ _ F₃ N₃ ⟨rfl, ⟨⟨_, rfl⟩, ⟨_, rfl⟩, ⟨_, rfl⟩, ⟨_, rfl⟩, ⟨_, rfl⟩, ⟨_, rfl⟩⟩, rfl, rfl, rfl, rfl, D, ys, ys.length, rfl, rfl, hy⟩
end
local macro_rules | `(tactic| walk_at "idle 0") => `(tactic| fail)
section -- Y3
open PySem PySem.W PyProof.Rows PySem.Calls PySem.SeqAt
theorem idle_Y3 : True := by
  w_top off
  trivial
local macro_rules | `(tactic| walk_at "eval ListComp") => `(tactic| walk_at "s 3")
local macro_rules | `(tactic| walk_at "CompSrcT") => `(tactic| walk_at "s 3")
noncomputable def IsSg (news : List (Addr × Obj)) (p : Addr × Sg) (v : Value) : Prop := v = .ref p.1 ∧ ∃ t1 t2 t3 t4, (p.1, tup [.int p.2.ah t1, .int p.2.be t2, .int p.2.ne t3, .int p.2.fa t4]) ∈ news
noncomputable def zipD (Dg : List (Addr × Obj)) (sg : List Sg) : List (Addr × Sg) := (Dg.map (·.1)).zip sg
theorem sgs_at {Dg news : List (Addr × Obj)} {sg : List Sg} (h : SgsAre Dg sg) (hs : ∀ q ∈ Dg, q ∈ news) : ∀ (i : Nat) v, i < (List.toArray (refsOf Dg)).size → (List.toArray (refsOf Dg))[i]? = some v → ∃ a, (zipD Dg sg)[i]? = some a ∧ IsSg news a v := by
  intro i v hi hv
  rw [List.size_toArray, List.length_map] at hi
  have hl := h.length
  have hx : sg[i]? = some (sg[i]'(by lia)) := List.getElem?_eq_getElem _
  obtain ⟨a, t1, t2, t3, t4, hD⟩ := h.at i _ hx
  refine ⟨(a, sg[i]'(by lia)), ?_, ?_, t1, t2, t3, t4, hs _ (List.mem_of_getElem? hD)⟩
  · unfold zipD
    rw [List.getElem?_zip_eq_some]
    exact ⟨by rw [List.getElem?_map, hD]; rfl, hx⟩
  · rw [List.getElem?_toArray, List.getElem?_map, hD] at hv
    exact (Option.some.inj hv).symm
theorem zip_find {Dg : List (Addr × Obj)} {sg : List Sg} {n : Int} {x : Sg} (h : SgsAre Dg sg) (hf : sg.find? (fitS n) = some x) : ∃ a r, (zipD Dg sg).filter (fun p => fitS n p.2) = (a, x) :: r := by
  induction h with
  | nil => cases hf
  | cons a t1 t2 t3 t4 s h ih =>
    unfold zipD at ih ⊢
    rw [List.map_cons, List.zip_cons_cons]
    by_cases hs : fitS n s = true
    · rw [List.find?_cons_of_pos hs] at hf
      obtain rfl := Option.some.inj hf
      rw [List.filter_cons_of_pos (p := fun (p : Addr × Sg) => fitS n p.2) hs]
      exact ⟨_, _, rfl⟩
    · rw [List.find?_cons_of_neg hs] at hf
      rw [List.filter_cons_of_neg (p := fun (p : Addr × Sg) => fitS n p.2) hs]
      exact ih hf
theorem zip_mem {Dg : List (Addr × Obj)} {sg : List Sg} {gA : Addr} {x : Sg} (h : SgsAre Dg sg) (hm : (gA, x) ∈ zipD Dg sg) : ∃ t1 t2 t3 t4, (gA, tup [.int x.ah t1, .int x.be t2, .int x.ne t3, .int x.fa t4]) ∈ Dg := by
  induction h with
  | nil => cases hm
  | cons a t1 t2 t3 t4 s h ih =>
    unfold zipD at hm ih
    rw [List.map_cons, List.zip_cons_cons] at hm
    rcases List.mem_cons.mp hm with e | hm
    · obtain ⟨rfl, rfl⟩ := Prod.mk.inj e
      exact ⟨t1, t2, t3, t4, .head _⟩
    · obtain ⟨u1, u2, u3, u4, h'⟩ := ih hm
      exact ⟨u1, u2, u3, u4, .tail _ h'⟩
set_option maxRecDepth 100000 in
set_option maxHeartbeats 8000000 in
theorem stage_ok {w : World} {rest : List (Addr × Obj)} {W st fi sh le ma n : Int} (tA oA sA cN : Addr) (se : Nat) (oc oO tO : Obj) (tn : Tok) (hoc : oc.data = .cell (some (.int n tn))) {Dg : List (Addr × Obj)} {sg : List Sg} (hS : SgsAre Dg sg) (hsl : sg.length ≤ 64) {x : Sg} (hx : sg.find? (fitS n) = some x) :
   Runs w 20 20 [(Str.ofString "n", cN)] [lc0.1] (fun h₀ m => FrP m W st fi sh le ma ∧ m (Str.ofString "told") = some (.ref tA) ∧ m (Str.ofString "order") = some (.ref oA) ∧ m (Str.ofString "stages") = some (.ref sA))
     ((cN, oc) :: (sA, listOf (List.toArray (refsOf Dg)) se) :: (oA, oO) :: (tA, tO) :: (Dg ++ rest))
    fun f m' led' => f = .next ∧ FrP m' W st fi sh le ma ∧ m' (Str.ofString "told") = some (.ref tA) ∧ m' (Str.ofString "order") = some (.ref oA) ∧ m' (Str.ofString "stages") = some (.ref sA) ∧
      ∃ gA t1 t2 t3 t4, m' (Str.ofString "stage") = some (.ref gA) ∧ led' = (cN, oc) :: (sA, listOf (List.toArray (refsOf Dg)) se) :: (oA, oO) :: (tA, tO) :: (Dg ++ rest) ∧ (gA, tup [.int x.ah t1, .int x.be t2, .int x.ne t3, .int x.fa t4]) ∈ Dg := by
  unfold Runs
  k_fill
  rintro pr loose mean mg mb dp un gd cn a ccd outer A₀ base h₀ L m s Q B F X N T C1 C2 hd hu ⟨⟨⟨t1, m1⟩, ⟨t2, m2⟩, ⟨t3, m3⟩, ⟨t4, m4⟩, ⟨t5, m5⟩, ⟨t6, m6⟩⟩, m7, m8, m9⟩ hret
  replace F := fr_put (fr_put (fr_put (fr_put (fr_put (fr_put F (Str.ofString "many") m6) (Str.ofString "level") m5) (Str.ofString "share") m4) (Str.ofString "first") m3) (Str.ofString "step") m2) (Str.ofString "wheel") m1
  replace F := fr_put (fr_put (fr_put F (Str.ofString "stages") m9) (Str.ofString "order") m8) (Str.ofString "told") m7
  dsimp only [lc0]
  k_steps
  all_goals repeat' (unfold Halt; ((k_here; lct_look; k_dflt (refine LCt.ListComp_T (F₀ := by k_asm) (by with_unfolding_all rfl) (by decide) (by rfl) (by decide) (by rfl) ?_))); k_steps)
  unfold Halt
  refine LCt.CompSrcT.ledger rfl F N (.tail _ (.head _)) (by rw [List.size_toArray, List.length_map, hS.length, sizeLine_eq]; lia) ?_
  intro g
  refine restT (l := zipD Dg sg) (IsSg ((cN, oc) :: (sA, listOf (List.toArray (refsOf Dg)) se) :: (oA, oO) :: (tA, tO) :: (Dg ++ rest))) (fun p => fitS n p.2) (fun p v => v = .ref p.1) (fun ys r => ys = r.map fun p => Value.ref p.1) (by rw [List.size_toArray, List.length_map]; unfold zipD; rw [List.length_zip, List.length_map, hS.length, Nat.min_self]) (sgs_at hS fun q hq => .tail _ (.tail _ (.tail _ (.tail _ (List.mem_append_left _ hq))))) ?_ ?_ rfl ?_ (.inr ⟨_, .tail _ (.head _), rfl, _, rfl⟩) ?_
  · rintro ⟨gA, y⟩ v I oI C oC D m₂ ys h tk E' hk ⟨rfl, u1, u2, u3, u4, hm⟩ hC hx F' N'
    have hm' : (gA, tup [.int y.ah u1, .int y.be u2, .int y.ne u3, .int y.fa u4]) ∈ (I, oI) :: (C, oC) :: (D, LCg.lst ys) :: (cN, oc) :: (sA, listOf (List.toArray (refsOf Dg)) se) :: (oA, oO) :: (tA, tO) :: (Dg ++ rest) := .tail _ (.tail _ (.tail _ hm))
    dsimp only at hx hm' ⊢
    k_steps
    all_goals repeat' (unfold Halt; ((k_here; lct_look; k_dflt (refine LCt.ListComp_T (F₀ := by k_asm) (by with_unfolding_all rfl) (by decide) (by rfl) (by decide) (by rfl) ?_))); k_steps)
    · refine ⟨?_, _, _, rfl, by assumption, by assumption⟩
      unfold fitS
      rw [show decide (max y.ah y.be ≤ n) = true from decide_eq_true (by omega), Bool.true_and]
    · refine ⟨?_, _, _, rfl, by assumption, by assumption⟩
      unfold fitS
      rw [show decide (max y.ah y.be ≤ n) = false from decide_eq_false (by omega), Bool.false_and]
  · rintro ⟨gA, y⟩ v I oI C oC D m₂ ys h tk E' hk ⟨rfl, u1, u2, u3, u4, hm⟩ hC hx F' N'
    dsimp only at hx ⊢
    k_steps
    all_goals repeat' (unfold Halt; ((k_here; lct_look; k_dflt (refine LCt.ListComp_T (F₀ := by k_asm) (by with_unfolding_all rfl) (by decide) (by rfl) (by decide) (by rfl) ?_))); k_steps)
    exact ⟨rfl, _, _, rfl, by assumption, by assumption⟩
  · rintro ys r k y rfl rfl
    rw [List.map_append]; rfl
  · intro ys hys
    obtain ⟨gA, r, hr⟩ := zip_find hS hx
    have hmG : (gA, x) ∈ zipD Dg sg := (List.mem_filter.mp (by rw [hr]; exact .head _)).1
    rw [hr] at hys
    subst hys
    intro D h₃ tk₃ F₃ N₃ o₃
    k_steps
    all_goals repeat' (unfold Halt; ((k_here; lct_look; k_dflt (refine LCt.ListComp_T (F₀ := by k_asm) (by with_unfolding_all rfl) (by decide) (by rfl) (by decide) (by rfl) ?_))); k_steps)
    rename Fr _ _ _ _ => FZ
    rename News _ _ _ _ => NZ
    obtain ⟨t1, t2, t3, t4, hg⟩ := zip_mem hS hmG
    exact hret .next _ ((cN, oc) :: (sA, listOf (List.toArray (refsOf Dg)) se) :: (oA, oO) :: (tA, tO) :: (Dg ++ rest)) _ _ FZ (fun p hp => NZ p (by first | exact hp | exact .tail _ hp)) ⟨rfl, ⟨⟨_, rfl⟩, ⟨_, rfl⟩, ⟨_, rfl⟩, ⟨_, rfl⟩, ⟨_, rfl⟩, ⟨_, rfl⟩⟩, rfl, rfl, rfl, gA, t1, t2, t3, t4, rfl, rfl, hg⟩
end
section -- Y4
open PySem PySem.W PyProof.Rows PySem.Calls PySem.SeqAt
theorem idle_Y4 : True := by
  w_top off
  trivial
local macro_rules | `(tactic| walk_at "eval ListComp") => `(tactic| walk_at "s 3")
local macro_rules | `(tactic| walk_at "CompSrcT") => `(tactic| walk_at "s 3")
local macro_rules | `(tactic| walk_at "call builtin:str.join") => `(tactic| walk_at "s 3")
local macro_rules | `(tactic| walk_at "call builtin:chr") => `(tactic| walk_at "s 3")
local macro_rules | `(tactic| walk_at "binaryOp Add str str") => `(tactic| walk_at "s 3")
set_option maxRecDepth 100000 in
set_option maxHeartbeats 8000000 in
theorem old_ok {w : World} {rest : List (Addr × Obj)} {W st fi sh le ma n : Int} (tA oA sA gA rA cN : Addr) (rs : List Value) (r : List Nat) (re : Nat) (oc : Obj) (tn : Tok) (hoc : oc.data = .cell (some (.int n tn)))
   (hR : IntsAre rs (r.map fun k => ((k : Nat) : Int))) (hrl : r.length ≤ 16) (hk16 : ∀ k ∈ r, k < 16) :
   Runs w 20 20 [(Str.ofString "n", cN)] [lc2.1] (fun h₀ m => FrP m W st fi sh le ma ∧ m (Str.ofString "told") = some (.ref tA) ∧ m (Str.ofString "order") = some (.ref oA) ∧ m (Str.ofString "stages") = some (.ref sA) ∧ m (Str.ofString "stage") = some (.ref gA) ∧ m (Str.ofString "ring") = some (.ref rA))
     ((rA, listOf (List.toArray rs) re) :: (cN, oc) :: rest)
    fun f m' led' => f = .next ∧ FrP m' W st fi sh le ma ∧ m' (Str.ofString "told") = some (.ref tA) ∧ m' (Str.ofString "order") = some (.ref oA) ∧ m' (Str.ofString "stages") = some (.ref sA) ∧ m' (Str.ofString "stage") = some (.ref gA) ∧ m' (Str.ofString "ring") = some (.ref rA) ∧
      (∃ t, m' (Str.ofString "old") = some (.str (txt (r.filter (fun (k : Nat) => decide ((k : Int) < n)) ++ [0])) t)) ∧ led' = (rA, listOf (List.toArray rs) re) :: (cN, oc) :: rest := by
  unfold Runs
  k_fill
  rintro pr loose mean mg mb dp un gd cn a ccd outer A₀ base h₀ L m s Q B F X N T C1 C2 hd hu ⟨⟨⟨t1, m1⟩, ⟨t2, m2⟩, ⟨t3, m3⟩, ⟨t4, m4⟩, ⟨t5, m5⟩, ⟨t6, m6⟩⟩, m7, m8, m9, m10, m11⟩ hret
  replace F := fr_put (fr_put (fr_put (fr_put (fr_put (fr_put F (Str.ofString "many") m6) (Str.ofString "level") m5) (Str.ofString "share") m4) (Str.ofString "first") m3) (Str.ofString "step") m2) (Str.ofString "wheel") m1
  replace F := fr_put (fr_put (fr_put (fr_put (fr_put F (Str.ofString "ring") m11) (Str.ofString "stage") m10) (Str.ofString "stages") m9) (Str.ofString "order") m8) (Str.ofString "told") m7
  dsimp only [lc2]
  k_steps
  all_goals repeat' (unfold Halt; ((k_here; lct_look; k_dflt (refine LCt.ListComp_T (F₀ := by k_asm) (by with_unfolding_all rfl) (by decide) (by rfl) (by decide) (by rfl) ?_))); k_steps)
  unfold Halt
  refine LCt.CompSrcT.ledger rfl F N (.head _) (by rw [List.size_toArray, IntsAre.length hR, List.length_map, sizeLine_eq]; lia) ?_
  intro g
  refine restT (l := r) IsK (fun (k : Nat) => decide ((k : Int) < n)) (fun k v => ∃ t, v = .str (txt [k]) t) (fun ys r => CarriedAll ys (r.map fun k => PyData.str (txt [k]))) (by rw [List.size_toArray, IntsAre.length hR, List.length_map]) (isK_at hR) ?_ ?_ .nil ?_ (.inr ⟨_, .head _, rfl, _, rfl⟩) ?_
  · rintro k v I oI C oC D m₂ ys h tk E' hk ⟨tk1, rfl⟩ hC hx F' N'
    k_steps
    all_goals repeat' (unfold Halt; ((k_here; lct_look; k_dflt (refine LCt.ListComp_T (F₀ := by k_asm) (by with_unfolding_all rfl) (by decide) (by rfl) (by decide) (by rfl) ?_))); k_steps)
    exact ⟨rfl, _, _, rfl, by assumption, by assumption⟩
  · rintro k v I oI C oC D m₂ ys h tk E' hk ⟨tk1, rfl⟩ hC hx F' N'
    k_steps
    all_goals repeat' (unfold Halt; ((k_here; lct_look; k_dflt (refine LCt.ListComp_T (F₀ := by k_asm) (by with_unfolding_all rfl) (by decide) (by rfl) (by decide) (by rfl) ?_))); k_steps)
    unfold Halt
    refine chr_txt k rfl (by have := hk16 k hk; lia) ?_
    k_steps
    all_goals repeat' (unfold Halt; ((k_here; lct_look; k_dflt (refine LCt.ListComp_T (F₀ := by k_asm) (by with_unfolding_all rfl) (by decide) (by rfl) (by decide) (by rfl) ?_))); k_steps)
    exact ⟨⟨_, rfl⟩, _, _, rfl, by assumption, by assumption⟩
  · rintro ys r k y hP ⟨t, rfl⟩
    rw [List.map_append]
    exact carried_snoc (.str _ _) hP
  · intro ys hy D h₃ tk₃ F₃ N₃ o₃
    k_steps
    all_goals repeat' (unfold Halt; ((k_here; lct_look; k_dflt (refine LCt.ListComp_T (F₀ := by k_asm) (by with_unfolding_all rfl) (by decide) (by rfl) (by decide) (by rfl) ?_))); k_steps)
    unfold Halt
    refine KT.join_B 1 (News.isList N₃ (.head _)) hy (fun k hk => Nat.le_of_eq (by rw [txt_len]; rfl)) ?_ (by decide) ?_
    · have := List.length_filter_le (fun (k : Nat) => decide ((k : Int) < n)) r
      lia
    intro t' tk4
    rw [join_txt]
    k_steps
    all_goals repeat' (unfold Halt; ((k_here; lct_look; k_dflt (refine LCt.ListComp_T (F₀ := by k_asm) (by with_unfolding_all rfl) (by decide) (by rfl) (by decide) (by rfl) ?_))); k_steps)
    unfold Halt
    rw [a_txt]
    refine PyProof.Rows.add_str (fun t'' tk5 => ?_) ?_
    · rw [txt_app]
      k_steps
      all_goals repeat' (unfold Halt; ((k_here; lct_look; k_dflt (refine LCt.ListComp_T (F₀ := by k_asm) (by with_unfolding_all rfl) (by decide) (by rfl) (by decide) (by rfl) ?_))); k_steps)
      rename Fr _ _ _ _ => FZ
      rename News _ _ _ _ => NZ
      exact hret .next _ ((rA, listOf (List.toArray rs) re) :: (cN, oc) :: rest) _ _ FZ (fun p hp => NZ p (by first | exact hp | exact .tail _ hp)) ⟨rfl, ⟨⟨_, rfl⟩, ⟨_, rfl⟩, ⟨_, rfl⟩, ⟨_, rfl⟩, ⟨_, rfl⟩, ⟨_, rfl⟩⟩, rfl, rfl, rfl, rfl, rfl, ⟨_, rfl⟩, rfl⟩
    · rw [txt_len, txt_len, sizeLine_eq]
      have := List.length_filter_le (fun (k : Nat) => decide ((k : Int) < n)) r
      simp only [List.length_cons, List.length_nil]
      lia
end
local macro_rules | `(tactic| walk_at "idle 0") => `(tactic| fail)
section -- Y5
open PySem PySem.W PyProof.Rows PySem.Calls PySem.SeqAt
theorem idle_Y5 : True := by
  w_top off
  trivial
local macro_rules | `(tactic| walk_at "eval ListComp") => `(tactic| walk_at "s 3")
local macro_rules | `(tactic| walk_at "CompSrc") => `(tactic| walk_at "s 3")
local macro_rules | `(tactic| walk_at "call builtin:str.join") => `(tactic| walk_at "s 3")
local macro_rules | `(tactic| walk_at "call builtin:chr") => `(tactic| walk_at "s 3")
local macro_rules | `(tactic| walk_at "binaryOp Add str str") => `(tactic| walk_at "s 3")
set_option maxRecDepth 100000 in
set_option maxHeartbeats 8000000 in
theorem new_ok {w : World} {rest : List (Addr × Obj)} {W st fi sh le ma n : Int} (tA oA sA gA rA cN : Addr) (rs : List Value) (r : List Nat) (re : Nat) (oc : Obj) (tn : Tok) (hoc : oc.data = .cell (some (.int n tn)))
   (hR : IntsAre rs (r.map fun k => ((k : Nat) : Int))) (hrl : r.length ≤ 16) (lo : List Nat) (hk16 : ∀ k ∈ r, k < 16) :
   Runs w 20 20 [(Str.ofString "n", cN)] [lc3.1] (fun h₀ m => FrP m W st fi sh le ma ∧ m (Str.ofString "told") = some (.ref tA) ∧ m (Str.ofString "order") = some (.ref oA) ∧ m (Str.ofString "stages") = some (.ref sA) ∧ m (Str.ofString "stage") = some (.ref gA) ∧ m (Str.ofString "ring") = some (.ref rA) ∧ (∃ t, m (Str.ofString "old") = some (.str (txt lo) t)))
     ((rA, listOf (List.toArray rs) re) :: (cN, oc) :: rest)
    fun f m' led' => f = .next ∧ FrP m' W st fi sh le ma ∧ m' (Str.ofString "told") = some (.ref tA) ∧ m' (Str.ofString "order") = some (.ref oA) ∧ m' (Str.ofString "stages") = some (.ref sA) ∧ m' (Str.ofString "stage") = some (.ref gA) ∧ m' (Str.ofString "ring") = some (.ref rA) ∧
      (∃ t, m' (Str.ofString "old") = some (.str (txt lo) t)) ∧ (∃ t, m' (Str.ofString "new") = some (.str (txt (r ++ [0])) t)) ∧ led' = (rA, listOf (List.toArray rs) re) :: (cN, oc) :: rest := by
  unfold Runs
  k_fill
  rintro pr loose mean mg mb dp un gd cn a ccd outer A₀ base h₀ L m s Q B F X N T C1 C2 hd hu ⟨⟨⟨t1, m1⟩, ⟨t2, m2⟩, ⟨t3, m3⟩, ⟨t4, m4⟩, ⟨t5, m5⟩, ⟨t6, m6⟩⟩, m7, m8, m9, m10, m11, ⟨t12, m12⟩⟩ hret
  replace F := fr_put (fr_put (fr_put (fr_put (fr_put (fr_put F (Str.ofString "many") m6) (Str.ofString "level") m5) (Str.ofString "share") m4) (Str.ofString "first") m3) (Str.ofString "step") m2) (Str.ofString "wheel") m1
  replace F := fr_put F (Str.ofString "old") m12
  replace F := fr_put (fr_put (fr_put (fr_put (fr_put F (Str.ofString "ring") m11) (Str.ofString "stage") m10) (Str.ofString "stages") m9) (Str.ofString "order") m8) (Str.ofString "told") m7
  dsimp only [lc3]
  k_steps
  all_goals repeat' (unfold Halt; ((k_here; k_dflt (refine LCg.ListComp_U (F₀ := by k_asm) (by with_unfolding_all rfl) (by decide) (by rfl) (by decide) (by rfl) ?_))); k_steps)
  unfold Halt
  refine LCg.CompSrc.ledger rfl F N (.head _) (by rw [List.size_toArray, IntsAre.length hR, List.length_map, sizeLine_eq]; lia) ?_
  intro g
  refine restU (l := r) IsK (fun k v => ∃ t, v = .str (txt [k]) t) (fun ys r => CarriedAll ys (r.map fun k => PyData.str (txt [k]))) (by rw [List.size_toArray, IntsAre.length hR, List.length_map]) (isK_at hR) ?_ .nil ?_ (.inr ⟨_, .head _, rfl, _, rfl⟩) ?_
  · rintro k v I oI C oC D m₂ ys h tk E' hk ⟨tk1, rfl⟩ hC hx F' N'
    k_steps
    all_goals repeat' (unfold Halt; ((k_here; k_dflt (refine LCg.ListComp_U (F₀ := by k_asm) (by with_unfolding_all rfl) (by decide) (by rfl) (by decide) (by rfl) ?_))); k_steps)
    unfold Halt
    refine chr_txt k rfl (by have := hk16 k hk; lia) ?_
    k_steps
    all_goals repeat' (unfold Halt; ((k_here; k_dflt (refine LCg.ListComp_U (F₀ := by k_asm) (by with_unfolding_all rfl) (by decide) (by rfl) (by decide) (by rfl) ?_))); k_steps)
    exact ⟨⟨_, rfl⟩, _, _, rfl, by assumption, by assumption⟩
  · rintro ys r k y hP ⟨t, rfl⟩
    rw [List.map_append]
    exact carried_snoc (.str _ _) hP
  · intro ys hy D h₃ tk₃ F₃ N₃ o₃
    k_steps
    all_goals repeat' (unfold Halt; ((k_here; k_dflt (refine LCg.ListComp_U (F₀ := by k_asm) (by with_unfolding_all rfl) (by decide) (by rfl) (by decide) (by rfl) ?_))); k_steps)
    unfold Halt
    refine KT.join_B 1 (News.isList N₃ (.head _)) hy (fun k hk => Nat.le_of_eq (by rw [txt_len]; rfl)) ?_ (by decide) ?_
    · lia
    intro t' tk4
    rw [join_txt]
    k_steps
    all_goals repeat' (unfold Halt; ((k_here; k_dflt (refine LCg.ListComp_U (F₀ := by k_asm) (by with_unfolding_all rfl) (by decide) (by rfl) (by decide) (by rfl) ?_))); k_steps)
    unfold Halt
    rw [a_txt]
    refine PyProof.Rows.add_str (fun t'' tk5 => ?_) ?_
    · rw [txt_app]
      k_steps
      all_goals repeat' (unfold Halt; ((k_here; k_dflt (refine LCg.ListComp_U (F₀ := by k_asm) (by with_unfolding_all rfl) (by decide) (by rfl) (by decide) (by rfl) ?_))); k_steps)
      rename Fr _ _ _ _ => FZ
      rename News _ _ _ _ => NZ
      exact hret .next _ ((rA, listOf (List.toArray rs) re) :: (cN, oc) :: rest) _ _ FZ (fun p hp => NZ p (by first | exact hp | exact .tail _ hp)) ⟨rfl, ⟨⟨_, rfl⟩, ⟨_, rfl⟩, ⟨_, rfl⟩, ⟨_, rfl⟩, ⟨_, rfl⟩, ⟨_, rfl⟩⟩, rfl, rfl, rfl, rfl, rfl, ⟨_, rfl⟩, ⟨_, rfl⟩, rfl⟩
    · rw [txt_len, txt_len, sizeLine_eq]
      simp only [List.length_cons, List.length_nil]
      lia
end
section -- Y6
open PySem PySem.W PyProof.Rows PySem.Calls PySem.SeqAt
theorem idle_Y6 : True := by
  w_top off
  trivial
end
local macro_rules | `(tactic| walk_at "s 11") => `(tactic| (k_here; (with_reducible show wpAny _ _ (subscriptTail _ _ (Value.str _ _) _) _ _ _); refine Halt.out ?_))
section
open PySem PySem.W PyProof.Rows PySem.Calls PySem.SeqAt
local macro_rules | `(tactic| walk_at "call builtin:chr") => `(tactic| walk_at "s 3")
local macro_rules | `(tactic| walk_at "call builtin:str.index") => `(tactic| walk_at "s 3")
local macro_rules | `(tactic| walk_at "subscriptTail Name Name str int") => `(tactic| walk_at "s 3")
local macro_rules | `(tactic| walk_at "subscriptTail") => `(tactic| walk_at "s 11")
local macro_rules | `(tactic| walk_at "compareOp NotEq str str") => `(tactic| walk_at "s 3")
theorem at_txt (l : List Nat) (c i : Nat) : StrLaws.At (txt l) (txt [c]) (txt l).length i ↔ l[i]? = some c := by
  unfold StrLaws.At
  rw [subAt_txt, txt_len, txt_len]
  constructor
  · rintro ⟨h1, h2⟩
    have h3 := congrArg (·[0]?) (eq_of_beq h2)
    simpa [List.getElem?_take, List.getElem?_drop] using h3
  · intro h
    have hl := (List.getElem?_eq_some_iff.mp h).1
    refine ⟨hl, ?_⟩
    rw [List.drop_eq_getElem_cons hl]
    have h4 : l[i] = c := (List.getElem?_eq_some_iff.mp h).2
    rw [h4]
    simp
theorem index_txt (P R : List Nat) (c : Nat) (hc : c ∉ P) : ∃ r, Builtin.Str.occurrences (txt (P ++ c :: R)) (txt [c]) 0 (txt (P ++ c :: R)).length 1 = P.length :: r := by
  have hP : (P ++ c :: R)[P.length]? = some c := by rw [List.getElem?_append_right (Nat.le_refl _), Nat.sub_self]; rfl
  rcases StrLaws.occ_head (txt (P ++ c :: R)) (txt [c]) 1 (Nat.le_refl _) with ⟨_, h⟩ | ⟨i, r, e, h1, h2⟩
  · exact absurd ((at_txt _ _ _).mpr hP) (h _)
  · rw [at_txt] at h1
    have e1 : i = P.length := by
      rcases Nat.lt_trichotomy i P.length with q | q | q
      · rw [List.getElem?_append_left q] at h1
        exact absurd (List.mem_of_getElem? h1) hc
      · exact q
      · exact absurd ((at_txt _ _ _).mpr hP) (h2 _ q)
    exact ⟨r, by rw [e, e1]⟩
theorem item_txt {l : List Nat} {i : Int} {c : Nat} (h0 : 0 ≤ i) (h : l[i.toNat]? = some c) : Txt.item (txt l) i = txt [c] := by
  have e : (txt l).cps[i.toNat]? = some (97 + c) := by
    show (l.map (97 + ·)).toArray[i.toNat]? = _
    rw [List.getElem?_toArray, List.getElem?_map, h]; rfl
  unfold Txt.item Txt.charAt
  rw [StrLaws.at_nonneg h0 e]
  rfl

set_option maxRecDepth 100000 in
set_option maxHeartbeats 8000000 in
theorem place_ok {w : World} {led : List (Addr × Obj)} {W st fi sh le ma n : Int} (tA oA sA gA rA cN : Addr) (oc : Obj) (tn : Tok) (hoc : oc.data = .cell (some (.int n tn))) (x : Sg) (t1 t2 t3 t4 : Tok) (hcm : (cN, oc) ∈ led) (hgm : (gA, tup [.int x.ah t1, .int x.be t2, .int x.ne t3, .int x.fa t4]) ∈ led)
   (P R ln : List Nat) (c d : Nat) (hcP : c ∉ P) (hdR : R[0]? = some d) (hc : (c : Int) = n - x.ah) (hd2 : (d : Int) = n - x.be) (hc9 : c < 1000) (hd9 : d < 1000) (hlen : P.length + R.length ≤ 16) :
   Runs w 20 20 [(Str.ofString "n", cN)] [lc4.1, lc5.1] (fun h₀ m => FrP m W st fi sh le ma ∧ m (Str.ofString "told") = some (.ref tA) ∧ m (Str.ofString "order") = some (.ref oA) ∧ m (Str.ofString "stages") = some (.ref sA) ∧ m (Str.ofString "stage") = some (.ref gA) ∧ m (Str.ofString "ring") = some (.ref rA) ∧
       (∃ t, m (Str.ofString "old") = some (.str (txt (P ++ c :: R)) t)) ∧ (∃ t, m (Str.ofString "new") = some (.str (txt ln) t)))
     led
    fun f m' led' => f = .next ∧ FrP m' W st fi sh le ma ∧ m' (Str.ofString "told") = some (.ref tA) ∧ m' (Str.ofString "order") = some (.ref oA) ∧ m' (Str.ofString "stages") = some (.ref sA) ∧ m' (Str.ofString "stage") = some (.ref gA) ∧ m' (Str.ofString "ring") = some (.ref rA) ∧
       (∃ t, m' (Str.ofString "old") = some (.str (txt (P ++ c :: R)) t)) ∧ (∃ t, m' (Str.ofString "new") = some (.str (txt ln) t)) ∧ (∃ t, m' (Str.ofString "place") = some (.int ((P.length : Nat) + 1) t)) ∧ led' = led := by
  unfold Runs
  k_fill
  rintro pr loose mean mg mb dp un gd cn a ccd outer A₀ base h₀ L m s Q B F X N T C1 C2 hd hu ⟨⟨⟨u1, m1⟩, ⟨u2, m2⟩, ⟨u3, m3⟩, ⟨u4, m4⟩, ⟨u5, m5⟩, ⟨u6, m6⟩⟩, m7, m8, m9, m10, m11, ⟨u12, m12⟩, ⟨u13, m13⟩⟩ hret
  replace F := fr_put (fr_put (fr_put (fr_put (fr_put (fr_put F (Str.ofString "many") m6) (Str.ofString "level") m5) (Str.ofString "share") m4) (Str.ofString "first") m3) (Str.ofString "step") m2) (Str.ofString "wheel") m1
  replace F := fr_put (fr_put F (Str.ofString "new") m13) (Str.ofString "old") m12
  replace F := fr_put (fr_put (fr_put (fr_put (fr_put F (Str.ofString "ring") m11) (Str.ofString "stage") m10) (Str.ofString "stages") m9) (Str.ofString "order") m8) (Str.ofString "told") m7
  obtain ⟨rr, ho⟩ := index_txt P R c hcP
  dsimp only [lc4, lc5]
  k_steps
  unfold Halt
  refine chr_txt c (by lia) hc9 ?_
  k_steps
  unfold Halt
  refine SC.index ho ?_
  k_steps
  unfold Halt
  refine KXi.item (n := P.length + 1 + R.length) (by rw [txt_len, List.length_append, List.length_cons]; lia) (by lia) (by have := (List.getElem?_eq_some_iff.mp hdR).1; lia) (by lia) ?_
  intro hone
  rw [item_txt (c := d) (by lia) (by
    rw [show (((P.length : Nat) : Int) + 1).toNat = P.length + 1 by lia, List.getElem?_append_right (by lia), show P.length + 1 - P.length = 0 + 1 by lia, List.getElem?_cons_succ]; exact hdR)]
  k_steps
  unfold Halt
  refine chr_txt d (by lia) hd9 ?_
  k_steps
  unfold Halt
  refine PySem.P.ne_str ?_
  rw [bne_self_eq_false]
  k_steps
  exact hret .next _ led _ _ (by assumption) (by assumption) ⟨rfl, ⟨⟨_, rfl⟩, ⟨_, rfl⟩, ⟨_, rfl⟩, ⟨_, rfl⟩, ⟨_, rfl⟩, ⟨_, rfl⟩⟩, rfl, rfl, rfl, rfl, rfl, ⟨_, rfl⟩, ⟨_, rfl⟩, ⟨_, rfl⟩, rfl⟩
end
section -- Y7
open PySem PySem.W PyProof.Rows PySem.Calls PySem.SeqAt
theorem idle_Y7 : True := by
  w_top off
  trivial
theorem slice_to {l : List Nat} {j : Int} (h0 : 0 ≤ j) (h1 : j ≤ l.length) : Txt.slice (txt l) none (some j) = txt (l.take j.toNat) := by
  show StrLaws.sliceText (txt l) none (some j) = _
  rw [StrLaws.sliceText_to ⟨h0, by rw [txt_list, List.length_map]; exact h1⟩, txt_list]
  refine str_eq ?_
  rw [txt_list, List.toList_toArray, List.drop_zero, ← List.map_take, Int.sub_zero]
theorem slice_from {l : List Nat} {j : Int} (h0 : 0 ≤ j) (h1 : j ≤ l.length) : Txt.slice (txt l) (some j) none = txt (l.drop j.toNat) := by
  show StrLaws.sliceText (txt l) (some j) none = _
  rw [StrLaws.sliceText_from ⟨h0, by rw [txt_list, List.length_map]; exact h1⟩, txt_list]
  refine str_eq ?_
  rw [txt_list, List.toList_toArray, ← List.map_drop, List.take_of_length_le (by rw [List.length_map, List.length_drop, List.length_map]; omega)]
theorem cut_plain {A B : List Nat} {x : Nat} (hx : x ∉ A ++ B) {k : Nat} (hk : k ≤ (A ++ B).length) :
    (((A ++ x :: B).take ((A ++ B).take k).length == (A ++ B).take k) && ((A ++ x :: B).drop ((A ++ x :: B).length - ((A ++ B).drop k).length) == (A ++ B).drop k)) = decide (k = A.length) := by
  have e1 : ((A ++ B).take k).length = k := by rw [List.length_take]; lia
  have e2 : (A ++ x :: B).length - ((A ++ B).drop k).length = k + 1 := by
    rw [List.length_drop]; simp only [List.length_append, List.length_cons] at hk ⊢; lia
  rw [e1, e2]
  have hA : (A ++ x :: B)[A.length]? = some x := by rw [List.getElem?_append_right (Nat.le_refl _), Nat.sub_self]; rfl
  rcases Nat.lt_trichotomy k A.length with q | q | q
  · have h2 : ((A ++ x :: B).drop (k + 1) == (A ++ B).drop k) = false := beq_eq_false_iff_ne.mpr fun e => hx (List.mem_of_mem_drop (i := k) (by
      rw [← e]
      refine List.mem_of_getElem? (i := A.length - (k + 1)) ?_
      rw [List.getElem?_drop, show k + 1 + (A.length - (k + 1)) = A.length by omega, hA]))
    rw [h2, Bool.and_false, decide_eq_false (by lia)]
  · subst q
    rw [List.take_left, List.take_left, List.drop_left, show A ++ x :: B = (A ++ [x]) ++ B by simp, List.drop_left' (by simp)]
    simp
  · have h1 : ((A ++ x :: B).take k == (A ++ B).take k) = false := beq_eq_false_iff_ne.mpr fun e => hx (List.mem_of_mem_take (i := k) (by
      rw [← e]
      refine List.mem_of_getElem? (i := A.length) ?_
      rw [List.getElem?_take, if_pos q, hA]))
    rw [h1, Bool.false_and, decide_eq_false (by lia)]
local macro_rules | `(tactic| walk_at "exec For Name Call cons nil") => `(tactic| walk_at "s 10")
local macro_rules | `(tactic| walk_at "pyIter ref") => `(tactic| walk_at "s 3")
local macro_rules | `(tactic| walk_at "call ref") => `(tactic| walk_at "s 3")
local macro_rules | `(tactic| walk_at "compareOp NotEq bool bool") => `(tactic| walk_at "s 3")
local macro_rules | `(tactic| walk_at "subscriptTail") => `(tactic| walk_at "s 11")
local macro_rules | `(tactic| walk_at "binaryOp Add str str") => `(tactic| walk_at "s 3")
set_option maxRecDepth 100000 in
set_option maxHeartbeats 8000000 in
theorem cuts_ok {w : World} {led : List (Addr × Obj)} {W st fi sh le ma : Int} {n : Nat} (tA oA sA gA rA cN : Addr) (oc : Obj) (tn : Tok) (hoc : oc.data = .cell (some (.int (n : Nat) tn))) (hcm : (cN, oc) ∈ led)
   (A B : List Nat) (x : Nat) (hx : x ∉ A ++ B) (hA : 1 ≤ A.length) (hB : 1 ≤ B.length) (hn : A.length + B.length = n + 1) (hn9 : n ≤ 12) :
   Runs w 20 40 [(Str.ofString "n", cN)] [lc6.1] (fun h₀ m => FrP m W st fi sh le ma ∧ m (Str.ofString "told") = some (.ref tA) ∧ m (Str.ofString "order") = some (.ref oA) ∧ m (Str.ofString "stages") = some (.ref sA) ∧ m (Str.ofString "stage") = some (.ref gA) ∧ m (Str.ofString "ring") = some (.ref rA) ∧
       (∃ t, m (Str.ofString "old") = some (.str (txt (A ++ B)) t)) ∧ (∃ t, m (Str.ofString "new") = some (.str (txt (A ++ x :: B)) t)) ∧ (∃ t, m (Str.ofString "place") = some (.int (A.length : Nat) t)))
     led
    fun f m' led' => f = .next ∧ FrP m' W st fi sh le ma ∧ m' (Str.ofString "told") = some (.ref tA) ∧ m' (Str.ofString "order") = some (.ref oA) ∧ m' (Str.ofString "stages") = some (.ref sA) ∧ m' (Str.ofString "stage") = some (.ref gA) ∧ m' (Str.ofString "ring") = some (.ref rA) ∧ led' = led := by
  unfold Runs
  k_fill
  rintro pr loose mean mg mb dp un gd cn a ccd outer A₀ base h₀ L m s Q B₀ F X N T C1 C2 hd hu ⟨⟨⟨u1, m1⟩, ⟨u2, m2⟩, ⟨u3, m3⟩, ⟨u4, m4⟩, ⟨u5, m5⟩, ⟨u6, m6⟩⟩, m7, m8, m9, m10, m11, ⟨u12, m12⟩, ⟨u13, m13⟩, ⟨u14, m14⟩⟩ hret
  replace F := fr_put (fr_put (fr_put (fr_put (fr_put (fr_put F (Str.ofString "many") m6) (Str.ofString "level") m5) (Str.ofString "share") m4) (Str.ofString "first") m3) (Str.ofString "step") m2) (Str.ofString "wheel") m1
  replace F := fr_put (fr_put (fr_put F (Str.ofString "place") m14) (Str.ofString "new") m13) (Str.ofString "old") m12
  replace F := fr_put (fr_put (fr_put (fr_put (fr_put F (Str.ofString "ring") m11) (Str.ofString "stage") m10) (Str.ofString "stages") m9) (Str.ofString "order") m8) (Str.ofString "told") m7
  dsimp only [lc6]
  k_steps
  unfold Halt
  refine rangeA (σ := Unit) (n := n) [] (fun _ => []) led (fun _ _ m₁ _ => FrP m₁ W st fi sh le ma ∧ m₁ (Str.ofString "told") = some (.ref tA) ∧ m₁ (Str.ofString "order") = some (.ref oA) ∧ m₁ (Str.ofString "stages") = some (.ref sA) ∧ m₁ (Str.ofString "stage") = some (.ref gA) ∧ m₁ (Str.ofString "ring") = some (.ref rA) ∧
       (∃ t, m₁ (Str.ofString "old") = some (.str (txt (A ++ B)) t)) ∧ (∃ t, m₁ (Str.ofString "new") = some (.str (txt (A ++ x :: B)) t)) ∧ (∃ t, m₁ (Str.ofString "place") = some (.int (A.length : Nat) t))) () rfl rfl PassesOwn.never rfl (by assumption) (small_one (by lia) (by lia) (by lia) (by lia)) (by rw [rangeSize_nat]; lia) (fun _ => rfl) (fun _ _ h => by cases h) (by k_asm) (by k_asm) ?_ ?_ ?_
  · intro tk
    exact ⟨⟨⟨_, rfl⟩, ⟨_, rfl⟩, ⟨_, rfl⟩, ⟨_, rfl⟩, ⟨_, rfl⟩, ⟨_, rfl⟩⟩, rfl, rfl, rfl, rfl, rfl, ⟨_, rfl⟩, ⟨_, rfl⟩, ⟨_, rfl⟩⟩
  · rintro i ⟨⟩ m₂ h tkz rest hi ⟨⟨⟨v1, e1⟩, ⟨v2, e2⟩, ⟨v3, e3⟩, ⟨v4, e4⟩, ⟨v5, e5⟩, ⟨v6, e6⟩⟩, e7, e8, e9, e10, e11, ⟨v12, e12⟩, ⟨v13, e13⟩, ⟨v14, e14⟩⟩ FF NN hap hfx
    simp only [List.nil_append] at NN
    replace FF := fr_put (fr_put (fr_put (fr_put (fr_put FF (Str.ofString "many") e6) (Str.ofString "level") e5) (Str.ofString "share") e4) (Str.ofString "first") e3) (Str.ofString "step") e2
    replace FF := fr_put (fr_put (fr_put (fr_put FF (Str.ofString "wheel") e1) (Str.ofString "place") e14) (Str.ofString "new") e13) (Str.ofString "old") e12
    replace FF := fr_put (fr_put (fr_put (fr_put (fr_put FF (Str.ofString "ring") e11) (Str.ofString "stage") e10) (Str.ofString "stages") e9) (Str.ofString "order") e8) (Str.ofString "told") e7
    have hk : 1 + i ≤ (A ++ B).length := by rw [List.length_append]; lia
    have eqn : ((1 + (i : Int)) == ((A.length : Nat) : Int)) = decide (1 + i = A.length) := by
      rw [Bool.eq_iff_iff, beq_iff_eq, decide_eq_true_eq]; lia
    have hk2 : (1 + (i : Int)).toNat = 1 + i := by lia
    have hsz : (txt (A ++ B)).length ≤ sizeLine := by rw [txt_len, List.length_append, sizeLine_eq]; lia
    have hka : ((A ++ B).take (1 + i)).length = 1 + i := by rw [List.length_take]; lia
    have hkb : ((A ++ B).drop (1 + i)).length = A.length + B.length - (1 + i) := by rw [List.length_drop, List.length_append]
    have hkn : (A ++ x :: B).length = A.length + B.length + 1 := by rw [List.length_append, List.length_cons]; lia
    k_steps
    unfold Halt
    rw [slice_to (by lia) (by lia), hk2]
    refine PyProof.Rows.add_str (fun y3 k3 => ?_) (by rw [txt_len, dots_len, hka, sizeLine_eq]; lia)
    k_steps
    unfold Halt
    rw [slice_from (by lia) (by lia), hk2]
    refine PyProof.Rows.add_str (fun y5 k5 => ?_) (by rw [PySem.Str.length_append, txt_len, dots_len, txt_len, hka, hkb, sizeLine_eq]; lia)
    k_steps
    unfold Halt
    refine Does.use (match_call ((A ++ B).take (1 + i)) ((A ++ B).drop (1 + i)) (A ++ x :: B) _ _ (by lia) (by lia) (by omega) (by lia)) (by k_asm) (by assumption) (by k_asm) (by assumption) (by k_asm) rfl ?_ ?_ ?_
    · show dp + 1 < recursionLimit; exact lt_room (k := 1) hd (by decide)
    · show un + 8 < cLine; exact lt_room (k := 8) hu (by decide)
    rintro v news1 h6 tk6 F6 N6 ⟨rfl, rfl⟩
    rw [cut_plain hx hk]
    k_steps
    unfold Halt
    refine PyProof.Rows.ne_bool ?_
    rw [eqn, bne_self_eq_false]
    k_steps
    refine LpT.next () (by assumption) ?_ ⟨⟨⟨_, rfl⟩, ⟨_, rfl⟩, ⟨_, rfl⟩, ⟨_, rfl⟩, ⟨_, rfl⟩, ⟨_, rfl⟩⟩, rfl, rfl, rfl, rfl, rfl, ⟨_, rfl⟩, ⟨_, rfl⟩, ⟨_, rfl⟩⟩
    rw [List.nil_append]
    assumption
  · rintro ⟨⟩ m' h' tk ⟨⟨⟨v1, e1⟩, ⟨v2, e2⟩, ⟨v3, e3⟩, ⟨v4, e4⟩, ⟨v5, e5⟩, ⟨v6, e6⟩⟩, e7, e8, e9, e10, e11, ⟨v12, e12⟩, ⟨v13, e13⟩, ⟨v14, e14⟩⟩ FF NN
    simp only [List.nil_append] at NN
    k_steps
    exact hret _ _ _ _ _ FF NN ⟨rfl, ⟨⟨_, e1⟩, ⟨_, e2⟩, ⟨_, e3⟩, ⟨_, e4⟩, ⟨_, e5⟩, ⟨_, e6⟩⟩, e7, e8, e9, e10, e11, rfl⟩
end
section -- Y8
open PySem PySem.W PyProof.Rows PySem.Calls PySem.SeqAt
theorem idle_Y8 : True := by
  w_top off
  trivial
local macro_rules | `(tactic| walk_at "exec For Tuple Call cons nil") => `(tactic| (k_here; (rename Fr _ _ _ _ => lF'); (with_unfolding_all refine' For_turns (hE := PassesOwn.never) lF' ?_); k_whole))
local macro_rules | `(tactic| walk_at "call type:zip") => `(tactic| walk_at "s 3")
local macro_rules | `(tactic| walk_at "call ref") => `(tactic| walk_at "s 3")
local macro_rules | `(tactic| walk_at "compareOp NotEq ref ref") => `(tactic| walk_at "s 3")
local macro_rules | `(tactic| walk_at "binaryOp Mult float int") => `(tactic| walk_at "s 3")
local macro_rules | `(tactic| walk_at "subscriptTail Name Name ref int") => `(tactic| walk_at "s 3")
local macro_rules | `(tactic| walk_at "subscriptTail Name Slice ref ref") => `(tactic| walk_at "s 3")
section
variable {prog : Program} {w : World} {A : Around} {E : Value → Shared → Prop} {s : Shared} {env : Env} {h₀ : Heap} {target : Expr} {body : List Stmt} {Q : Flow → Shared → Prop}
theorem items_ind {ws : List (Addr × String)} {keep news : List (Addr × Obj)} (J : (Str → Option Value) → Prop) (Good : Nat × Nat → Prop)
    (turn : ∀ (a b : Nat) (ta tb : Tok) (r : List Itm) (m : Str → Option Value), J m → Good (a, b) → (∀ m', J m' → ItemsRest prog w A E h₀ env target body Q s ws keep r m' news) →
      ItemsRest prog w A E h₀ env target body Q s ws keep (.pair (fun _ => .int (a : Nat) ta) (.int (b : Nat) tb) :: r) m news)
    (done : ∀ m, J m → ItemsRest prog w A E h₀ env target body Q s ws keep [] m news) :
    ∀ (va vb : List Value) (a b : List Nat) (m : Str → Option Value), IntsAre va (a.map fun k => ((k : Nat) : Int)) → IntsAre vb (b.map fun k => ((k : Nat) : Int)) → (∀ p ∈ a.zip b, Good p) → J m →
      ItemsRest prog w A E h₀ env target body Q s ws keep (zipItems va vb) m news
  | va, vb, [], _, m, ha, _, _, hJ => by
    cases ha
    exact done m hJ
  | va, vb, _ :: _, [], m, ha, hb, _, hJ => by
    cases hb
    cases ha
    exact done m hJ
  | va, vb, x :: a, y :: b, m, ha, hb, hg, hJ => by
    cases ha with
    | cons _ ta ha =>
      cases hb with
      | cons _ tb hb =>
        exact turn x y ta tb _ m hJ (hg _ (List.mem_cons_self ..)) fun m' hJ' => items_ind J Good turn done _ _ a b m' ha hb (fun p hp => hg p (List.mem_cons_of_mem _ hp)) hJ'
end
theorem hue_gap {W st fi sh le ma : Int} (P : Par W st fi sh le ma) (a b : Int) : ∃ j : Int, -64 ≤ j ∧ j ≤ 64 ∧ hueI W st fi b - hueI W st fi a = 64 * j ∧ MulOk (64 * (j % 64)) W (4096 * ((st * (b - a)) % W)) := by
  refine ⟨64 / W * ((fi + st * b) % W - (fi + st * a) % W), ?_, ?_, ?_, ?_⟩
  · rcases P.w with rfl | rfl | rfl <;> lia
  · rcases P.w with rfl | rfl | rfl <;> lia
  · unfold hueI
    rcases P.w with rfl | rfl | rfl <;> lia
  · rw [Int.mul_sub st b a]
    generalize st * b = y
    generalize st * a = z
    rcases P.w with rfl | rfl | rfl <;> exact ⟨by lia, by omega, by lia, by lia, by lia, by lia⟩

set_option maxRecDepth 100000 in
set_option maxHeartbeats 8000000 in
theorem gaps_ok {w : World} {led : List (Addr × Obj)} {W st fi sh le ma : Int} (P : Par W st fi sh le ma) {n : Nat} (tA oA sA gA rA cN : Addr) (oc : Obj) (tn : Tok) (hoc : oc.data = .cell (some (.int (n : Nat) tn))) (hcm : (cN, oc) ∈ led)
   (x : Sg) (t1 t2 t3 t4 : Tok) (hgm : (gA, tup [.int x.ah t1, .int x.be t2, .int x.ne t3, .int x.fa t4]) ∈ led) (vs : List Value) (ep tk₀ : Nat) (htm : (tA, listOf (List.toArray vs) ep) ∈ led) (hT : ToldIs W st fi ma.toNat vs tk₀)
   (rs : List Value) (r : List Nat) (re : Nat) (hrm : (rA, listOf (List.toArray rs) re) ∈ led) (hR : IntsAre rs (r.map fun k => ((k : Nat) : Int))) (hrl : r.length ≤ 16) (hr0 : 1 ≤ r.length) (hpr : ∀ p ∈ r.zip (r.drop 1 ++ r.take 1), p.1 < ma.toNat ∧ p.2 < ma.toNat ∧ nextF p.1 n x = ((p.2 : Int), (st * ((p.2 : Int) - p.1)) % W)) :
   Runs w 20 40 [(Str.ofString "n", cN)] [lc7.1] (fun h₀ m => FrP m W st fi sh le ma ∧ m (Str.ofString "told") = some (.ref tA) ∧ m (Str.ofString "order") = some (.ref oA) ∧ m (Str.ofString "stages") = some (.ref sA) ∧ m (Str.ofString "stage") = some (.ref gA) ∧ m (Str.ofString "ring") = some (.ref rA))
     led
    fun f m' led' => f = .next ∧ FrP m' W st fi sh le ma ∧ m' (Str.ofString "told") = some (.ref tA) ∧ m' (Str.ofString "order") = some (.ref oA) ∧ m' (Str.ofString "stages") = some (.ref sA) ∧ led' = led := by
  unfold Runs
  k_fill
  rintro pr loose mean mg mb dp un gd cn a ccd outer A₀ base h₀ L m s Q B₀ F X N T C1 C2 hd hu ⟨⟨⟨u1, m1⟩, ⟨u2, m2⟩, ⟨u3, m3⟩, ⟨u4, m4⟩, ⟨u5, m5⟩, ⟨u6, m6⟩⟩, m7, m8, m9, m10, m11⟩ hret
  replace F := fr_put (fr_put (fr_put (fr_put (fr_put (fr_put F (Str.ofString "many") m6) (Str.ofString "level") m5) (Str.ofString "share") m4) (Str.ofString "first") m3) (Str.ofString "step") m2) (Str.ofString "wheel") m1
  replace F := fr_put (fr_put (fr_put (fr_put (fr_put F (Str.ofString "ring") m11) (Str.ofString "stage") m10) (Str.ofString "stages") m9) (Str.ofString "order") m8) (Str.ofString "told") m7
  have hsz : (List.toArray rs).size ≤ sizeLine := by rw [List.size_toArray, IntsAre.length hR, List.length_map, sizeLine_eq]; lia
  have hvl := hT.1
  have hz4 : ∀ {h : Heap}, News h₀ L h led → News h₀ L h ((cN, oc) :: (rA, listOf (List.toArray rs) re) :: (gA, tup [.int x.ah t1, .int x.be t2, .int x.ne t3, .int x.fa t4]) :: (tA, listOf (List.toArray vs) ep) :: led) := fun N p hp => by
    rcases List.mem_cons.mp hp with rfl | hp
    · exact N _ hcm
    rcases List.mem_cons.mp hp with rfl | hp
    · exact N _ hrm
    rcases List.mem_cons.mp hp with rfl | hp
    · exact N _ hgm
    rcases List.mem_cons.mp hp with rfl | hp
    · exact N _ htm
    exact N _ hp
  replace N := hz4 N
  dsimp only [lc7]
  k_steps
  all_goals repeat' (unfold Halt; ((k_here; (with_reducible show wpAny _ _ (subscriptTail _ (PySem.Expr.Slice _ _ none _) (Value.ref _) (Value.ref _)) _ _ _); k_dflt (refine' kmk_slice_ints ?F ?N ?l ?p ?q ?i ?m ?c ?_ ?s ?t ?z; (case F => k_asm); (case N => k_asm); (case l => exact News.isList (by k_asm) (by k_mem)); (case p => kmk_part); (case q => kmk_part); (case i => assumption); (case m => first | exact kmk_from (by with_reducible assumption) (by decide) | exact kmk_upto (by with_reducible assumption) (by decide)); (case c => kmk_len); (case s => with_unfolding_all rfl); (case t => kmk_pure); (case z => assumption)); intro D' ws' h' F' N' l1 hI' hC' hL'; (try k_lt l1); (try k_sweep))); k_steps)
  unfold Halt
  rename Fr _ _ _ _ => FZ
  rename News _ _ _ _ => NZ
  rename IntsAre _ _ => hIz
  refine ktu_zip rfl FZ NZ (.tail _ (.tail _ (.tail _ (.tail _ (.head _))))) rfl rfl (.head _) rfl rfl ?_
  intro I hlt
  rw [show (1 : Int).toNat = 1 from rfl, ← List.map_drop, ← List.map_take, ← List.map_append] at hIz
  refine items_ind (fun m₁ => FrP m₁ W st fi sh le ma ∧ m₁ (Str.ofString "told") = some (.ref tA) ∧ m₁ (Str.ofString "order") = some (.ref oA) ∧ m₁ (Str.ofString "stages") = some (.ref sA) ∧ m₁ (Str.ofString "stage") = some (.ref gA))
    (fun p => p.1 < ma.toNat ∧ p.2 < ma.toNat ∧ nextF p.1 n x = ((p.2 : Int), (st * ((p.2 : Int) - p.1)) % W)) ?_ ?_ _ _ r _ _ hR hIz hpr ⟨⟨⟨_, rfl⟩, ⟨_, rfl⟩, ⟨_, rfl⟩, ⟨_, rfl⟩, ⟨_, rfl⟩, ⟨_, rfl⟩⟩, rfl, rfl, rfl, rfl⟩
  · rintro a b ta tb rr m₂ ⟨⟨⟨v1, e1⟩, ⟨v2, e2⟩, ⟨v3, e3⟩, ⟨v4, e4⟩, ⟨v5, e5⟩, ⟨v6, e6⟩⟩, e7, e8, e9, e10⟩ ⟨ga, gb, gn⟩ ih
    dsimp only at ga gb gn
    refine ItemsRest.pair (fun T' t' h1 tk1 hT1 F1 => ?_)
    refine AllObj.cons fun o1 c1 => AllObj.cons fun o2 c2 => AllObj.cons fun o3 c3 => AllObj.cons fun o4 c4 => AllObj.cons fun o5 c5 => AllObj.nil fun N1 => ?_
    simp only [List.cons_append, List.nil_append] at N1
    replace F1 := fr_put (fr_put (fr_put (fr_put (fr_put F1 (Str.ofString "many") e6) (Str.ofString "level") e5) (Str.ofString "share") e4) (Str.ofString "first") e3) (Str.ofString "step") e2
    replace F1 := fr_put (fr_put (fr_put (fr_put (fr_put F1 (Str.ofString "wheel") e1) (Str.ofString "stage") e10) (Str.ofString "stages") e9) (Str.ofString "order") e8) (Str.ofString "told") e7
    obtain ⟨tokb, hb1, hb2⟩ : ∃ t, (List.toArray vs)[((b : Nat) : Int).toNat]? = some (.float (D (hueI W st fi (b : Nat))) t) ∧ 0 < t := by
      obtain ⟨_, tok, hv, _⟩ := hT
      obtain ⟨q1, _, q3⟩ := hv b gb
      exact ⟨tok b, by rw [List.getElem?_toArray, Int.toNat_natCast]; exact q3, q1⟩
    obtain ⟨toka, ha1, ha2⟩ : ∃ t, (List.toArray vs)[((a : Nat) : Int).toNat]? = some (.float (D (hueI W st fi (a : Nat))) t) ∧ 0 < t := by
      obtain ⟨_, tok, hv, _⟩ := hT
      obtain ⟨q1, _, q3⟩ := hv a ga
      exact ⟨tok a, by rw [List.getElem?_toArray, Int.toNat_natCast]; exact q3, q1⟩
    have mm1 := P.m1
    obtain ⟨j, j0, j1, hj, hmul⟩ := hue_gap P (a : Nat) (b : Nat)
    have ra := hue_range P (a : Nat)
    have rb := hue_range P (b : Nat)
    k_steps
    all_goals repeat' (unfold Halt; ((k_here; (with_reducible show wpAny _ _ (subscriptTail _ (PySem.Expr.Slice _ _ none _) (Value.ref _) (Value.ref _)) _ _ _); k_dflt (refine' kmk_slice_ints ?F ?N ?l ?p ?q ?i ?m ?c ?_ ?s ?t ?z; (case F => k_asm); (case N => k_asm); (case l => exact News.isList (by k_asm) (by k_mem)); (case p => kmk_part); (case q => kmk_part); (case i => assumption); (case m => first | exact kmk_from (by with_reducible assumption) (by decide) | exact kmk_upto (by with_reducible assumption) (by decide)); (case c => kmk_len); (case s => with_unfolding_all rfl); (case t => kmk_pure); (case z => assumption)); intro D' ws' h' F' N' l1 hI' hC' hL'; (try k_lt l1); (try k_sweep))); k_steps)
    unfold Halt
    refine PyProof.Rows.item_list (News.isList (by k_asm) (by k_mem)) (by lia) (by lia) hb1 ?_
    k_steps
    all_goals repeat' (unfold Halt; ((k_here; (with_reducible show wpAny _ _ (subscriptTail _ (PySem.Expr.Slice _ _ none _) (Value.ref _) (Value.ref _)) _ _ _); k_dflt (refine' kmk_slice_ints ?F ?N ?l ?p ?q ?i ?m ?c ?_ ?s ?t ?z; (case F => k_asm); (case N => k_asm); (case l => exact News.isList (by k_asm) (by k_mem)); (case p => kmk_part); (case q => kmk_part); (case i => assumption); (case m => first | exact kmk_from (by with_reducible assumption) (by decide) | exact kmk_upto (by with_reducible assumption) (by decide)); (case c => kmk_len); (case s => with_unfolding_all rfl); (case t => kmk_pure); (case z => assumption)); intro D' ws' h' F' N' l1 hI' hC' hL'; (try k_lt l1); (try k_sweep))); k_steps)
    unfold Halt
    refine PyProof.Rows.item_list (News.isList (by k_asm) (by k_mem)) (by lia) (by lia) ha1 ?_
    k_steps
    all_goals repeat' (unfold Halt; ((k_here; (with_reducible show wpAny _ _ (subscriptTail _ (PySem.Expr.Slice _ _ none _) (Value.ref _) (Value.ref _)) _ _ _); k_dflt (refine' kmk_slice_ints ?F ?N ?l ?p ?q ?i ?m ?c ?_ ?s ?t ?z; (case F => k_asm); (case N => k_asm); (case l => exact News.isList (by k_asm) (by k_mem)); (case p => kmk_part); (case q => kmk_part); (case i => assumption); (case m => first | exact kmk_from (by with_reducible assumption) (by decide) | exact kmk_upto (by with_reducible assumption) (by decide)); (case c => kmk_len); (case s => with_unfolding_all rfl); (case t => kmk_pure); (case z => assumption)); intro D' ws' h' F' N' l1 hI' hC' hL'; (try k_lt l1); (try k_sweep))); k_steps)
    unfold Halt
    rw [D_sub (by lia) (by lia), hj, mod_one j0 j1]
    refine mulfi_D rfl hmul ?_
    k_steps
    all_goals repeat' (unfold Halt; ((k_here; (with_reducible show wpAny _ _ (subscriptTail _ (PySem.Expr.Slice _ _ none _) (Value.ref _) (Value.ref _)) _ _ _); k_dflt (refine' kmk_slice_ints ?F ?N ?l ?p ?q ?i ?m ?c ?_ ?s ?t ?z; (case F => k_asm); (case N => k_asm); (case l => exact News.isList (by k_asm) (by k_mem)); (case p => kmk_part); (case q => kmk_part); (case i => assumption); (case m => first | exact kmk_from (by with_reducible assumption) (by decide) | exact kmk_upto (by with_reducible assumption) (by decide)); (case c => kmk_len); (case s => with_unfolding_all rfl); (case t => kmk_pure); (case z => assumption)); intro D' ws' h' F' N' l1 hI' hC' hL'; (try k_lt l1); (try k_sweep))); k_steps)
    unfold Halt
    rename Fr _ _ _ _ => FY
    rename News _ _ _ _ => NY
    refine Does.use (next_call (a : Nat) (n : Nat) x gA _ _ t1 t2 t3 t4) (by k_asm) FY (by k_asm) (fun p hp => NY p (by
      rcases List.mem_cons.mp hp with rfl | hp
      · k_mem
      · exact hp)) (by k_asm) rfl ?_ ?_ ?_
    · show dp + 1 < recursionLimit; exact lt_room (k := 1) hd (by decide)
    · show un + 8 < cLine; exact lt_room (k := 8) hu (by decide)
    rintro v news1 h6 tk6 F6 N6 ⟨d6, w1, w2, rfl, rfl, hl6⟩
    rw [gn] at N6
    dsimp only at N6
    k_steps
    all_goals repeat' (unfold Halt; ((k_here; (with_reducible show wpAny _ _ (subscriptTail _ (PySem.Expr.Slice _ _ none _) (Value.ref _) (Value.ref _)) _ _ _); k_dflt (refine' kmk_slice_ints ?F ?N ?l ?p ?q ?i ?m ?c ?_ ?s ?t ?z; (case F => k_asm); (case N => k_asm); (case l => exact News.isList (by k_asm) (by k_mem)); (case p => kmk_part); (case q => kmk_part); (case i => assumption); (case m => first | exact kmk_from (by with_reducible assumption) (by decide) | exact kmk_upto (by with_reducible assumption) (by decide)); (case c => kmk_len); (case s => with_unfolding_all rfl); (case t => kmk_pure); (case z => assumption)); intro D' ws' h' F' N' l1 hI' hC' hL'; (try k_lt l1); (try k_sweep))); k_steps)
    unfold Halt
    refine ne_tup2 (by assumption) (.tail _ (.tail _ (.head _))) (.head _) ?_ (eqI_yes rfl) (eqDI_yes ?_ rfl) ?_
    · show un < cLine; exact lt_none hu
    · have := hmul.c1; have := hmul.a0; have hW := P.w
      have q0 := Int.emod_nonneg (st * ((b : Int) - (a : Int))) (show W ≠ 0 by lia)
      have q1 := Int.emod_lt_of_pos (st * ((b : Int) - (a : Int))) (show 0 < W by lia)
      lia
    k_steps
    all_goals repeat' (unfold Halt; ((k_here; (with_reducible show wpAny _ _ (subscriptTail _ (PySem.Expr.Slice _ _ none _) (Value.ref _) (Value.ref _)) _ _ _); k_dflt (refine' kmk_slice_ints ?F ?N ?l ?p ?q ?i ?m ?c ?_ ?s ?t ?z; (case F => k_asm); (case N => k_asm); (case l => exact News.isList (by k_asm) (by k_mem)); (case p => kmk_part); (case q => kmk_part); (case i => assumption); (case m => first | exact kmk_from (by with_reducible assumption) (by decide) | exact kmk_upto (by with_reducible assumption) (by decide)); (case c => kmk_len); (case s => with_unfolding_all rfl); (case t => kmk_pure); (case z => assumption)); intro D' ws' h' F' N' l1 hI' hC' hL'; (try k_lt l1); (try k_sweep))); k_steps)
    rename Fr _ _ _ _ => FW
    rename News _ _ _ _ => NW
    refine ⟨_, _, _, _, rfl, FW, fun p hp => NW p (.tail _ (.tail _ (.tail _ hp))), ?_, ⟨.tail _ (.tail _ (.tail _ (.tail _ (.head _)))), .head _, trivial⟩, ih _ ⟨⟨⟨_, rfl⟩, ⟨_, rfl⟩, ⟨_, rfl⟩, ⟨_, rfl⟩, ⟨_, rfl⟩, ⟨_, rfl⟩⟩, rfl, rfl, rfl, rfl⟩⟩
    intro p hp q hq
    have hI := hlt p hp
    simp only [List.mem_cons, List.not_mem_nil, or_false] at hq
    rcases hq with rfl | rfl | rfl | rfl | rfl
    · exact Nat.ne_of_lt (Nat.lt_of_lt_of_le hI (Nat.le_add_right _ _))
    · exact Nat.ne_of_lt (Nat.lt_of_lt_of_le hI (Nat.le_add_right _ _))
    · exact Nat.ne_of_lt (Nat.lt_of_lt_of_le hI (Nat.le_add_right _ _))
    · exact Nat.ne_of_lt hI
    · exact Nat.ne_of_lt (Nat.lt_of_lt_of_le hI (Nat.le_add_right _ _))
  · rintro m₂ ⟨⟨⟨v1, e1⟩, ⟨v2, e2⟩, ⟨v3, e3⟩, ⟨v4, e4⟩, ⟨v5, e5⟩, ⟨v6, e6⟩⟩, e7, e8, e9, e10⟩
    refine ItemsRest.zero fun h1 tk1 F1 N1 => ?_
    k_steps
    all_goals repeat' (unfold Halt; ((k_here; (with_reducible show wpAny _ _ (subscriptTail _ (PySem.Expr.Slice _ _ none _) (Value.ref _) (Value.ref _)) _ _ _); k_dflt (refine' kmk_slice_ints ?F ?N ?l ?p ?q ?i ?m ?c ?_ ?s ?t ?z; (case F => k_asm); (case N => k_asm); (case l => exact News.isList (by k_asm) (by k_mem)); (case p => kmk_part); (case q => kmk_part); (case i => assumption); (case m => first | exact kmk_from (by with_reducible assumption) (by decide) | exact kmk_upto (by with_reducible assumption) (by decide)); (case c => kmk_len); (case s => with_unfolding_all rfl); (case t => kmk_pure); (case z => assumption)); intro D' ws' h' F' N' l1 hI' hC' hL'; (try k_lt l1); (try k_sweep))); k_steps)
    exact hret _ _ led _ _ F1 (fun p hp => N1 p (.tail _ (.tail _ (.tail _ (.tail _ (.tail _ (.tail _ (.tail _ hp)))))))) ⟨rfl, ⟨⟨_, e1⟩, ⟨_, e2⟩, ⟨_, e3⟩, ⟨_, e4⟩, ⟨_, e5⟩, ⟨_, e6⟩⟩, e7, e8, e9, rfl⟩
end
section -- Y9
open PySem PySem.W PyProof.Rows PySem.Calls PySem.SeqAt
theorem execs_seq {M : Model} {A : Around} {E : Value → Shared → Prop} {env : Env} {b1 b2 : List Stmt} {Q : Flow → Shared → Prop} {s : Shared}
    (h : wpAny M A (execs b1 env) (fun f s' => match f with | .next => wpAny M A (execs b2 env) Q E s' | f => Q f s') E s) : wpAny M A (execs (b1 ++ b2) env) Q E s := by
  intro Γ p hΓ
  replace h := h Γ p hΓ
  revert h
  induction b1 generalizing p s with
  | nil =>
    intro h
    have h2 : wpAny M A (execs b2 env) Q E s := h
    exact h2 Γ p hΓ
  | cons st r ih =>
    intro h
    rw [execs_cons, Sem.wp_bind'] at h
    rw [List.cons_append, execs_cons, Sem.wp_bind']
    refine Sem.wp_mono M Γ _ (fun f p' s' h' => ?_) (fun _ _ _ h' => h') _ _ h
    cases f with
    | next => exact ih (p := p') h'
    | ret v => exact h'
    | brk => exact h'
    | cont => exact h'
theorem Runs.seq {w : World} {r u r1 u1 r2 u2 : Nat} {cl : List (Str × Addr)} {b1 b2 : List Stmt} {Pre : Heap → (Str → Option Value) → Prop} {led : List (Addr × Obj)} {Mid : (Str → Option Value) → List (Addr × Obj) → Prop} {Post : Flow → (Str → Option Value) → List (Addr × Obj) → Prop}
    (hr1 : r1 ≤ r) (hr2 : r2 ≤ r) (hu1 : u1 ≤ u) (hu2 : u2 ≤ u)
    (R1 : Runs w r1 u1 cl b1 Pre led fun f m' led' => f = .next ∧ Mid m' led') (R2 : ∀ m' led', Mid m' led' → Runs w r2 u2 cl b2 (fun _ m => m = m') led' Post) : Runs w r u cl (b1 ++ b2) Pre led Post := by
  intro p loose mean mg mb dp un gd cn a ccd outer A₀ base h₀ L m s Q B F X N T C1 C2 hd hu hp hret
  refine execs_seq (R1 p loose mean mg mb dp un gd cn a ccd outer A₀ base h₀ L m s _ B F X N T C1 C2 (by lia) (by lia) hp ?_)
  rintro f m' led' h' tk' F' N' ⟨rfl, hM⟩
  exact R2 m' led' hM p loose mean mg mb dp un gd cn a ccd outer A₀ base h₀ L m' { s with heap := h', toks := tk' } Q B F' X N' T C1 C2 (by lia) (by lia) rfl fun f m'' led'' h'' tk'' F'' N'' hP => hret f m'' led'' h'' tk'' F'' N'' hP
theorem Runs.weak {w : World} {r u : Nat} {cl : List (Str × Addr)} {b : List Stmt} {Pre Pre' : Heap → (Str → Option Value) → Prop} {led led2 : List (Addr × Obj)} {Post : Flow → (Str → Option Value) → List (Addr × Obj) → Prop}
    (R : Runs w r u cl b Pre led Post) (hl : ∀ p ∈ led, p ∈ led2) (hp : ∀ h m, Pre' h m → Pre h m) : Runs w r u cl b Pre' led2 Post := by
  intro p loose mean mg mb dp un gd cn a ccd outer A₀ base h₀ L m s Q B F X N T C1 C2 hd hu h0 hret
  exact R p loose mean mg mb dp un gd cn a ccd outer A₀ base h₀ L m s Q B F X (fun q hq => N q (hl q hq)) T C1 C2 hd hu (hp _ _ h0) hret

theorem Runs.post {w : World} {r u : Nat} {cl : List (Str × Addr)} {b : List Stmt} {Pre : Heap → (Str → Option Value) → Prop} {led : List (Addr × Obj)} {Post Post' : Flow → (Str → Option Value) → List (Addr × Obj) → Prop}
    (R : Runs w r u cl b Pre led Post) (hq : ∀ f m l, Post f m l → Post' f m l) : Runs w r u cl b Pre led Post' := by
  intro p loose mean mg mb dp un gd cn a ccd outer A₀ base h₀ L m s Q B F X N T C1 C2 hd hu h0 hret
  exact R p loose mean mg mb dp un gd cn a ccd outer A₀ base h₀ L m s Q B F X N T C1 C2 hd hu h0 fun f m' led' h' tk' F' N' hP => hret f m' led' h' tk' F' N' (hq _ _ _ hP)
/-- what the table tells of one n -/
structure NFact (W st : Int) (many n : Nat) (o : List Nat) (sg : List Sg) (x : Sg) (P R : List Nat) (c d : Nat) : Prop where
  find : sg.find? (fitS n) = some x
  ring : ringOf o n = (P ++ [c]) ++ n :: R
  nP : n ∉ (P ++ [c]) ++ R
  cP : c ∉ P
  hd : (R ++ [0])[0]? = some d
  c1 : (c : Int) = n - x.ah
  d1 : (d : Int) = n - x.be
  n1 : 1 ≤ n
  nm : n < many
  m12 : many ≤ 12
  lo : ∀ k ∈ o, k < many
  len : ((P ++ [c]) ++ R).length = n
  pairs : ∀ p ∈ (ringOf o n).zip ((ringOf o n).drop 1 ++ (ringOf o n).take 1), nextF p.1 n x = ((p.2 : Int), (st * ((p.2 : Int) - p.1)) % W)

noncomputable def FrO (m : Str → Option Value) (W st fi sh le ma : Int) (tA oA sA : Addr) : Prop := FrP m W st fi sh le ma ∧ m (Str.ofString "told") = some (.ref tA) ∧ m (Str.ofString "order") = some (.ref oA) ∧ m (Str.ofString "stages") = some (.ref sA)
noncomputable def bodyN : List Stmt := [lc0.1] ++ ([lc1.1] ++ ([lc2.1] ++ ([lc3.1] ++ ([lc4.1, lc5.1] ++ ([lc6.1] ++ [lc7.1])))))
theorem filter_lt {o : List Nat} {n : Nat} {A R : List Nat} (h : ringOf o n = A ++ n :: R) (hn : n ∉ A ++ R) : (ringOf o n).filter (fun (k : Nat) => decide ((k : Int) < (n : Int))) = A ++ R := by
  have hle : ∀ k ∈ ringOf o n, k ≤ n := fun k hk => of_decide_eq_true (List.mem_filter.mp hk).2
  rw [h] at hle ⊢
  rw [List.filter_append, List.filter_cons_of_neg (by simp)]
  have hA : A.filter (fun (k : Nat) => decide ((k : Int) < (n : Int))) = A := List.filter_eq_self.mpr fun k hk => decide_eq_true (by
    have h1 := hle k (List.mem_append_left _ hk)
    have h2 : k ≠ n := fun e => hn (e ▸ List.mem_append_left _ hk)
    lia)
  have hR : R.filter (fun (k : Nat) => decide ((k : Int) < (n : Int))) = R := List.filter_eq_self.mpr fun k hk => decide_eq_true (by
    have h1 := hle k (List.mem_append_right _ (List.mem_cons_of_mem _ hk))
    have h2 : k ≠ n := fun e => hn (e ▸ List.mem_append_right _ hk)
    lia)
  rw [hA, hR]
theorem ring_cast (o : List Nat) (n : Nat) : (o.filter fun (k : Nat) => decide ((k : Int) ≤ (n : Int))) = ringOf o n := by
  unfold ringOf
  congr 1
  funext k
  rw [Bool.eq_iff_iff, decide_eq_true_eq, decide_eq_true_eq]; lia

set_option maxRecDepth 100000 in
theorem turn_n {w : World} {rest : List (Addr × Obj)} {W st fi sh le ma : Int} (P : Par W st fi sh le ma) {n : Nat} (tA oA sA cN : Addr) (oc : Obj) (tn : Tok) (hoc : oc.data = .cell (some (.int (n : Nat) tn))) {Dg : List (Addr × Obj)} {sg : List Sg} (hS : SgsAre Dg sg) (hsl : sg.length ≤ 64) (se ep oe tk₀ : Nat)
   (vs os : List Value) (o : List Nat) (hO : IntsAre os (o.map fun k => ((k : Nat) : Int))) (hol : o.length = ma.toNat) (hT : ToldIs W st fi ma.toNat vs tk₀) {x : Sg} {Pp R : List Nat} {c d : Nat} (NF : NFact W st ma.toNat n o sg x Pp R c d) :
   Runs w 20 40 [(Str.ofString "n", cN)] bodyN (fun h₀ m => FrO m W st fi sh le ma tA oA sA)
     ((cN, oc) :: (sA, listOf (List.toArray (refsOf Dg)) se) :: (oA, listOf (List.toArray os) oe) :: (tA, listOf (List.toArray vs) ep) :: (Dg ++ rest))
    fun f m' led' => f = .next ∧ FrO m' W st fi sh le ma tA oA sA ∧ ∀ p ∈ ((cN, oc) :: (sA, listOf (List.toArray (refsOf Dg)) se) :: (oA, listOf (List.toArray os) oe) :: (tA, listOf (List.toArray vs) ep) :: (Dg ++ rest)), p ∈ led' := by
  have m12 := NF.m12
  have hn12 := NF.nm
  have hrl : (ringOf o n).length ≤ 16 := by have := List.length_filter_le (fun k => decide (k ≤ n)) o; unfold ringOf; lia
  have hrk : ∀ k ∈ ringOf o n, k < ma.toNat := fun k hk => NF.lo k (List.mem_filter.mp hk).1
  unfold bodyN
  refine Runs.seq (by decide) (Nat.le_refl _) (by decide) (Nat.le_refl _) (stage_ok tA oA sA cN se oc _ _ tn hoc hS hsl NF.find) ?_
  rintro m1 led1 ⟨f1, f2, f3, f4, gA, t1, t2, t3, t4, f5, rfl, hg⟩
  refine Runs.seq (by decide) (Nat.le_refl _) (by decide) (Nat.le_refl _) (Runs.weak (ring_ok tA oA sA gA cN os o oe oc tn hoc hO (by lia) (rest := (cN, oc) :: (sA, listOf (List.toArray (refsOf Dg)) se) :: (oA, listOf (List.toArray os) oe) :: (tA, listOf (List.toArray vs) ep) :: (Dg ++ rest))) ?_ (by rintro _ _ rfl; exact ⟨f1, f2, f3, f4, f5⟩)) ?_
  · intro p hp
    rcases List.mem_cons.mp hp with rfl | hp
    · exact .head _
    rcases List.mem_cons.mp hp with rfl | hp
    · exact .tail _ (.tail _ (.head _))
    exact hp
  clear f1 f2 f3 f4 f5
  rintro m2 led2 ⟨f1, f2, f3, f4, f5, rA, rs, re, f6, rfl, hR⟩
  rw [ring_cast] at hR
  refine Runs.seq (by decide) (Nat.le_refl _) (by decide) (Nat.le_refl _) (Runs.weak (old_ok tA oA sA gA rA cN rs (ringOf o n) re oc tn hoc hR hrl (fun k hk => by have := hrk k hk; lia)) (fun p hp => hp) (by rintro _ _ rfl; exact ⟨f1, f2, f3, f4, f5, f6⟩)) ?_
  clear f1 f2 f3 f4 f5 f6
  rintro m3 led3 ⟨f1, f2, f3, f4, f5, f6, f7, rfl⟩
  rw [filter_lt NF.ring NF.nP] at f7
  refine Runs.seq (by decide) (Nat.le_refl _) (by decide) (Nat.le_refl _) (Runs.weak (new_ok (W := W) (n := n) tA oA sA gA rA cN rs (ringOf o n) re oc tn hoc hR hrl (Pp ++ [c] ++ R ++ [0]) (fun k hk => by have := hrk k hk; lia)) (fun p hp => hp) (by rintro _ _ rfl; exact ⟨f1, f2, f3, f4, f5, f6, f7⟩)) ?_
  clear f1 f2 f3 f4 f5 f6 f7
  rintro m4 led4 ⟨f1, f2, f3, f4, f5, f6, f7, f8, rfl⟩
  rw [NF.ring] at f8
  have hsh : Pp ++ [c] ++ R ++ [0] = Pp ++ c :: (R ++ [0]) := by simp
  have hlen := NF.len
  simp only [List.length_append, List.length_cons, List.length_nil] at hlen
  have hcm : (cN, oc) ∈ (rA, listOf (List.toArray rs) re) :: (cN, oc) :: (oA, listOf (List.toArray os) oe) :: (cN, oc) :: (sA, listOf (List.toArray (refsOf Dg)) se) :: (oA, listOf (List.toArray os) oe) :: (tA, listOf (List.toArray vs) ep) :: (Dg ++ rest) := .tail _ (.head _)
  have hgm : (gA, tup [.int x.ah t1, .int x.be t2, .int x.ne t3, .int x.fa t4]) ∈ (rA, listOf (List.toArray rs) re) :: (cN, oc) :: (oA, listOf (List.toArray os) oe) :: (cN, oc) :: (sA, listOf (List.toArray (refsOf Dg)) se) :: (oA, listOf (List.toArray os) oe) :: (tA, listOf (List.toArray vs) ep) :: (Dg ++ rest) := .tail _ (.tail _ (.tail _ (.tail _ (.tail _ (.tail _ (.tail _ (List.mem_append_left _ hg)))))))
  have c1 := NF.c1
  have d1 := NF.d1
  have cm : c < ma.toNat := hrk c (by rw [NF.ring]; simp)
  have hR0 : ∀ k ∈ R, k < ma.toNat := fun k hk => hrk k (by rw [NF.ring]; simp [hk])
  have dm : d < 1000 := by
    have hd := List.mem_of_getElem? NF.hd
    rcases List.mem_append.mp hd with h | h
    · have := hR0 d h; lia
    · have := List.mem_singleton.mp h; lia
  refine Runs.seq (by decide) (Nat.le_refl _) (by decide) (Nat.le_refl _) (Runs.weak (place_ok tA oA sA gA rA cN oc tn hoc x t1 t2 t3 t4 hcm hgm Pp (R ++ [0]) (Pp ++ [c] ++ n :: R ++ [0]) c d NF.cP NF.hd c1 d1 (by lia) dm (by simp only [List.length_append, List.length_cons, List.length_nil]; lia)) (fun p hp => hp) (by rintro _ _ rfl; rw [← hsh]; exact ⟨f1, f2, f3, f4, f5, f6, f7, f8⟩)) ?_
  clear f1 f2 f3 f4 f5 f6 f7 f8
  rintro m5 led5 ⟨f1, f2, f3, f4, f5, f6, f7, f8, f9, rfl⟩
  rw [← hsh, List.append_assoc] at f7
  rw [List.append_assoc, List.cons_append] at f8
  refine Runs.seq (by decide) (Nat.le_refl _) (by decide) (Nat.le_refl _) (Runs.weak (cuts_ok (n := n) tA oA sA gA rA cN oc tn hoc hcm (Pp ++ [c]) (R ++ [0]) n ?_ (by simp) (by simp) (by simp only [List.length_append, List.length_cons, List.length_nil]; lia) (by lia)) (fun p hp => hp) (by rintro _ _ rfl; exact ⟨f1, f2, f3, f4, f5, f6, f7, f8, by simpa using f9⟩)) ?_
  · rw [← List.append_assoc]
    intro h
    rcases List.mem_append.mp h with h | h
    · exact NF.nP h
    · have := List.mem_singleton.mp h
      have := NF.n1
      lia
  clear f1 f2 f3 f4 f5 f6 f7 f8 f9
  rintro m6 led6 ⟨f1, f2, f3, f4, f5, f6, rfl⟩
  refine Runs.weak (Runs.post (gaps_ok P tA oA sA gA rA cN oc tn hoc hcm x t1 t2 t3 t4 hgm vs ep tk₀ (.tail _ (.tail _ (.tail _ (.tail _ (.tail _ (.tail _ (.head _))))))) hT rs (ringOf o n) re (.head _) hR hrl (by rw [NF.ring]; simp; omega) (fun p hp => ?_)) ?_) (fun p hp => hp) (by rintro _ _ rfl; exact ⟨f1, f2, f3, f4, f5, f6⟩)
  · have hz := List.of_mem_zip (a := p.1) (b := p.2) hp
    refine ⟨hrk _ hz.1, ?_, NF.pairs p hp⟩
    rcases List.mem_append.mp hz.2 with h | h
    · exact hrk _ (List.mem_of_mem_drop h)
    · exact hrk _ (List.mem_of_mem_take h)
  · rintro f m' led' ⟨rfl, g1, g2, g3, g4, rfl⟩
    exact ⟨rfl, ⟨g1, g2, g3, g4⟩, fun p hp => .tail _ (.tail _ (.tail _ hp))⟩
end
section -- Y10
open PySem PySem.W PyProof.Rows PySem.Calls PySem.SeqAt
theorem idle_Y10 : True := by
  w_top off
  trivial
theorem facts {W st fi sh le ma : Int} (P : Par W st fi sh le ma) : checkS 14 ma (sg0 W st) = true ∧ (runS 14 ma (sg0 W st)).2.length ≤ 64 ∧ ∀ o, OrdIs W.toNat st.toNat ma.toNat o → ∀ n : Nat, 1 ≤ n → n < ma.toNat → ∃ x P R c d, NFact W st ma.toNat n o (runS 14 ma (sg0 W st)).2 x P R c d := by
  have hw := P.w
  have hs0 := P.s0
  have hs1 := P.s1
  have hodd := P.odd
  have m0 := P.m0
  have m1 := P.m1
  clear P
  obtain ⟨Wn, rfl⟩ := Int.eq_ofNat_of_zero_le (show 0 ≤ W by omega)
  obtain ⟨sn, rfl⟩ := Int.eq_ofNat_of_zero_le (show 0 ≤ st by omega)
  obtain ⟨mn, rfl⟩ := Int.eq_ofNat_of_zero_le (show 0 ≤ ma by omega)
  obtain ⟨t, rfl, ht⟩ : ∃ t, sn = 2 * t + 1 ∧ t < Wn / 2 := ⟨sn / 2, by omega, by omega⟩
  have T := tab_one (W := Wn) (t := t) (many := mn) (by omega) ht (by omega) (by omega)
  unfold tabOk1 at T
  simp only [Bool.and_eq_true, decide_eq_true_eq] at T
  obtain ⟨⟨⟨⟨a1, a2⟩, a3⟩, a4⟩, a5⟩ := T
  refine ⟨a1, a2, fun o hO n n1 nm => ?_⟩
  rw [Int.toNat_natCast, Int.toNat_natCast, Int.toNat_natCast] at hO
  rw [Int.toNat_natCast] at nm ⊢
  have e : o = ordF Wn (2 * t + 1) mn := ord_unique hO ⟨a3, a4⟩
  have h5 := List.all_eq_true.mp a5 n (List.mem_range.mpr nm)
  rw [Bool.or_eq_true, beq_iff_eq, ← e] at h5
  rcases h5 with h5 | h5
  · omega
  obtain ⟨x, P, R, c, d, NR⟩ := nrow_of h5
  have hnd : (ringOf o n).Nodup := (hO.1.nodup_iff.mpr List.nodup_range).filter _
  have hlen : (ringOf o n).length = n + 1 := by
    have h := (hO.1.filter fun k => decide (k ≤ n)).length_eq
    rw [ring_len mn (by omega) n nm] at h
    exact h
  refine ⟨x, P, R, c, d, NR.find, NR.ring, NR.nP, ?_, NR.hd, NR.c1, NR.d1, n1, nm, by omega, fun k hk => List.mem_range.mp (hO.1.mem_iff.mp hk), ?_, NR.pairs⟩
  · rw [NR.ring] at hnd
    have h1 := (List.nodup_append.mp (List.nodup_append.mp hnd).1).2.2
    intro hc
    exact h1 c hc c (List.mem_singleton.mpr rfl) rfl
  · rw [NR.ring] at hlen
    simp only [List.length_append, List.length_cons, List.length_nil] at hlen ⊢
    omega
theorem bodyN_is : bodyN = forB lb12.1 := rfl
local macro_rules | `(tactic| walk_at "pyIter ref") => `(tactic| walk_at "s 3")
local macro_rules | `(tactic| walk_at "exec For Name Call cons nil") => `(tactic| walk_at "s 10")
set_option maxRecDepth 100000 in
set_option maxHeartbeats 8000000 in
theorem seg4 {w : World} {news : List (Addr × Obj)} {W st fi sh le ma : Int} (P : Par W st fi sh le ma) (tA oA sA cN : Addr) (oc : Obj) (c₀ : Option Value) (hoc : oc.data = .cell c₀) {Dg : List (Addr × Obj)} (hS : SgsAre Dg (runS 14 ma (sg0 W st)).2) (se ep oe tk₀ : Nat)
   (vs os : List Value) (o : List Nat) (hO : IntsAre os (o.map fun k => ((k : Nat) : Int))) (hOr : OrdIs W.toNat st.toNat ma.toNat o) (hT : ToldIs W st fi ma.toNat vs tk₀)
   (hsep : ∀ p ∈ (sA, listOf (List.toArray (refsOf Dg)) se) :: (oA, listOf (List.toArray os) oe) :: (tA, listOf (List.toArray vs) ep) :: (Dg ++ news), p.1 ≠ cN) :
   Runs w 30 60 [(Str.ofString "n", cN)] [lb12.1, lb13.1] (fun h₀ m => FrO m W st fi sh le ma tA oA sA)
     ((cN, oc) :: (sA, listOf (List.toArray (refsOf Dg)) se) :: (oA, listOf (List.toArray os) oe) :: (tA, listOf (List.toArray vs) ep) :: (Dg ++ news))
    fun f _ led' => f = .ret (.bool true) ∧ ∀ q ∈ news, q ∈ led' := by
  unfold Runs
  k_fill
  rintro pr loose mean mg mb dp un gd cn a ccd outer A₀ base h₀ L m s Q B₀ F X N T C1 C2 hd hu ⟨⟨⟨u1, m1⟩, ⟨u2, m2⟩, ⟨u3, m3⟩, ⟨u4, m4⟩, ⟨u5, m5⟩, ⟨u6, m6⟩⟩, m7, m8, m9⟩ hret
  have hfr : FrO m W st fi sh le ma tA oA sA := ⟨⟨⟨u1, m1⟩, ⟨u2, m2⟩, ⟨u3, m3⟩, ⟨u4, m4⟩, ⟨u5, m5⟩, ⟨u6, m6⟩⟩, m7, m8, m9⟩
  obtain ⟨hchk, hsl, hfacts⟩ := facts P
  have mm0 := P.m0
  have mm1 := P.m1
  have hol : o.length = ma.toNat := by rw [hOr.1.length_eq, List.length_range]
  replace F := fr_put (fr_put (fr_put (fr_put (fr_put (fr_put F (Str.ofString "many") m6) (Str.ofString "level") m5) (Str.ofString "share") m4) (Str.ofString "first") m3) (Str.ofString "step") m2) (Str.ofString "wheel") m1
  replace F := fr_put (fr_put (fr_put F (Str.ofString "stages") m9) (Str.ofString "order") m8) (Str.ofString "told") m7
  dsimp only [lb12, lb13]
  k_steps
  unfold Halt
  refine rangeC (n := ma.toNat - 1) (cN := cN) ((sA, listOf (List.toArray (refsOf Dg)) se) :: (oA, listOf (List.toArray os) oe) :: (tA, listOf (List.toArray vs) ep) :: (Dg ++ news)) (fun m₁ => FrO m₁ W st fi sh le ma tA oA sA) rfl rfl rfl PassesOwn.never rfl (by assumption) (small_one (by omega) (by omega) (by omega) (by omega)) (by rw [rangeSize_nat]; omega) hoc hsep (by k_asm) (by k_asm) ⟨⟨⟨_, rfl⟩, ⟨_, rfl⟩, ⟨_, rfl⟩, ⟨_, rfl⟩, ⟨_, rfl⟩, ⟨_, rfl⟩⟩, rfl, rfl, rfl⟩ ?_ ?_
  · intro i m₂ h tk oc2 rest hi hJ hoc2 F2 N2 hap hfx
    obtain ⟨x, Pp, R, c, d, NF⟩ := hfacts o hOr (1 + i) (by omega) (by omega)
    rw [show (1 : Int) + (i : Int) = ((1 + i : Nat) : Int) by omega] at hoc2
    have N3 : News h₀ L h ((cN, oc2) :: (sA, listOf (List.toArray (refsOf Dg)) se) :: (oA, listOf (List.toArray os) oe) :: (tA, listOf (List.toArray vs) ep) :: (Dg ++ rest)) := fun p hp => N2 p (by
      rcases List.mem_cons.mp hp with rfl | hp
      · exact .head _
      rcases List.mem_cons.mp hp with rfl | hp
      · exact .tail _ (hfx _ (.head _))
      rcases List.mem_cons.mp hp with rfl | hp
      · exact .tail _ (hfx _ (.tail _ (.head _)))
      rcases List.mem_cons.mp hp with rfl | hp
      · exact .tail _ (hfx _ (.tail _ (.tail _ (.head _))))
      rcases List.mem_append.mp hp with hp | hp
      · exact .tail _ (hfx _ (.tail _ (.tail _ (.tail _ (List.mem_append_left _ hp)))))
      · exact .tail _ hp)
    refine turn_n P tA oA sA cN oc2 tk hoc2 hS hsl se ep oe tk₀ vs os o hO hol hT NF pr loose mean mg mb dp un gd cn a ccd outer A₀ base h₀ L m₂ _ _ B₀ F2 X N3 T C1 C2 (by omega) (by omega) hJ ?_
    rintro f m' led' h' tk' F4 N4 ⟨rfl, hJ4, hin⟩
    refine LpC.next F4 (fun p hp => N4 p (hin p ?_)) hoc2 hJ4
    rcases List.mem_cons.mp hp with rfl | hp
    · exact .head _
    · exact .tail _ (.tail _ (.tail _ (.tail _ (List.mem_append_right _ hp))))
  · intro m' h' tk oc2 v2 hJ hoc2 F2 N2
    k_steps
    exact hret _ _ _ _ _ F2 N2 ⟨rfl, fun q hq => .tail _ (.tail _ (.tail _ (.tail _ (List.mem_append_right _ hq))))⟩
end
section -- Y11
open PySem PySem.W PyProof.Rows PySem.Calls PySem.SeqAt
noncomputable def OneObj (led : List (Addr × Obj)) : Prop := ∀ p ∈ led, ∀ q ∈ led, p.1 = q.1 → p.2 = q.2
theorem Runs.seqN {w : World} {r u r1 u1 r2 u2 : Nat} {cl : List (Str × Addr)} {b1 b2 : List Stmt} {Pre : Heap → (Str → Option Value) → Prop} {led : List (Addr × Obj)} {Mid : (Str → Option Value) → List (Addr × Obj) → Prop} {Post : Flow → (Str → Option Value) → List (Addr × Obj) → Prop}
    (hr1 : r1 ≤ r) (hr2 : r2 ≤ r) (hu1 : u1 ≤ u) (hu2 : u2 ≤ u)
    (R1 : Runs w r1 u1 cl b1 Pre led fun f m' led' => f = .next ∧ Mid m' led') (R2 : ∀ m' led', Mid m' led' → OneObj led' → Runs w r2 u2 cl b2 (fun _ m => m = m') led' Post) : Runs w r u cl (b1 ++ b2) Pre led Post := by
  intro p loose mean mg mb dp un gd cn a ccd outer A₀ base h₀ L m s Q B F X N T C1 C2 hd hu hp hret
  refine execs_seq (R1 p loose mean mg mb dp un gd cn a ccd outer A₀ base h₀ L m s _ B F X N T C1 C2 (by omega) (by omega) hp ?_)
  rintro f m' led' h' tk' F' N' ⟨rfl, hM⟩
  refine R2 m' led' hM ?_ p loose mean mg mb dp un gd cn a ccd outer A₀ base h₀ L m' { s with heap := h', toks := tk' } Q B F' X N' T C1 C2 (by omega) (by omega) rfl fun f m'' led'' h'' tk'' F'' N'' hP => hret f m'' led'' h'' tk'' F'' N'' hP
  intro p hp q hq e
  have h1 := (N' p hp).1
  have h2 := (N' q hq).1
  rw [e] at h1
  exact Option.some.inj (h1.symm.trans h2)
theorem Runs.room {w : World} {r u r1 u1 : Nat} {cl : List (Str × Addr)} {b : List Stmt} {Pre : Heap → (Str → Option Value) → Prop} {led : List (Addr × Obj)} {Post : Flow → (Str → Option Value) → List (Addr × Obj) → Prop}
    (R : Runs w r1 u1 cl b Pre led Post) (hr : r1 ≤ r) (hu : u1 ≤ u) : Runs w r u cl b Pre led Post := by
  intro p loose mean mg mb dp un gd cn a ccd outer A₀ base h₀ L m s Q B F X N T C1 C2 hd hu h0 hret
  exact R p loose mean mg mb dp un gd cn a ccd outer A₀ base h₀ L m s Q B F X N T C1 C2 (by omega) (by omega) h0 hret
noncomputable def lawAll : List Stmt := [lb0.1, lb1.1, lb2.1, lb3.1, lb4.1, lb5.1, lb6.1, lb7.1] ++ ([lb8.1] ++ ([lb9.1] ++ ([lb10.1] ++ ([lb11.1] ++ [lb12.1, lb13.1]))))
theorem tup_data {a b c d : Value} {x : Option Value} (h : (tup [a, b, c, d]).data = .cell x) : False := by cases h
theorem list_data {its : Array Value} {n : Nat} {x : Option Value} (h : (listOf its n).data = .cell x) : False := by cases h
theorem tab_data {its} {x : Option Value} (h : (tabObj its).data = .cell x) : False := by cases h
theorem tab_list {its ys} {n : Nat} (h : listOf ys n = tabObj its) : False := by cases h
theorem sgs_data {Dg : List (Addr × Obj)} {sg : List Sg} (h : SgsAre Dg sg) : ∀ p ∈ Dg, ∀ x, p.2.data ≠ .cell x := by
  induction h with
  | nil => intro p hp; cases hp
  | cons a t1 t2 t3 t4 s h ih =>
    intro p hp x e
    rcases List.mem_cons.mp hp with rfl | hp
    · exact tup_data e
    · exact ih p hp x e
set_option maxRecDepth 100000 in
theorem law_body {w : World} (l : Addr) (vs0 : List Value) (ns : List Int) (hI : IntsAre vs0 ns) (hlen : ns.length ≤ 63) (cN : Addr) (oc : Obj) (c₀ : Option Value) (hoc : oc.data = .cell c₀) :
    Runs w 120 150 [(Str.ofString "n", cN)] lawAll (fun h₀ m => m (Str.ofString "script") = some (.ref l) ∧ h₀.IsList l vs0.toArray) (tabLed .fresh ++ [(cN, oc)]) (fun f _ led' => f = .ret (.bool true) ∧ (∃ ps, ((30 : Addr), tabObj ps) ∈ led') ∧ ∃ ps, ((37 : Addr), tabObj ps) ∈ led') := by
  unfold lawAll
  refine Runs.seqN (by decide) (Nat.le_refl _) (by decide) (Nat.le_refl _) (seg1 l vs0 ns hI hlen) ?_
  rintro m1 led1 ⟨W, st, fi, sh, le, ma, tA, P, f1, f2, rfl, hlt⟩ -
  obtain ⟨hchk, hsl, -⟩ := facts P
  refine Runs.seqN (by decide) (Nat.le_refl _) (by decide) (Nat.le_refl _) (Runs.weak (seg2 P tA hlt) (fun p hp => hp) (by rintro _ _ rfl; exact ⟨f1, f2⟩)) ?_
  clear f1 f2
  rintro m2 led2 ⟨f1, f2, vs, ep, tk, rfl, hT⟩ -
  refine Runs.seqN (by decide) (Nat.le_refl _) (by decide) (Nat.le_refl _) (Runs.weak (seg3a P tA hlt vs ep tk hT) (fun p hp => hp) (by rintro _ _ rfl; exact ⟨f1, f2⟩)) ?_
  clear f1 f2
  rintro m3 led3 ⟨f1, f2, rA, rs, re, p, f3, rfl, hp, hR⟩ -
  refine Runs.seqN (by decide) (Nat.le_refl _) (by decide) (Nat.le_refl _) (Runs.weak (seg3b P tA rA vs rs ep re p hp hR) (fun p hp => hp) (by rintro _ _ rfl; exact ⟨f1, f2, f3⟩)) ?_
  clear f1 f2 f3
  rintro m4 led4 ⟨f1, f2, oA, os, oe, o, f3, rfl, hOr, hO⟩ one
  have mem30 : ((30 : Addr), tabObj #[]) ∈ (oA, listOf (List.toArray os) oe) :: (tA, listOf (List.toArray vs) ep) :: (tabLed .fresh ++ [(cN, oc)]) := .tail _ (.tail _ (.head _))
  have mem37 : ((37 : Addr), tabObj #[]) ∈ (oA, listOf (List.toArray os) oe) :: (tA, listOf (List.toArray vs) ep) :: (tabLed .fresh ++ [(cN, oc)]) := .tail _ (.tail _ (.tail _ (.head _)))
  have memc : (cN, oc) ∈ (oA, listOf (List.toArray os) oe) :: (tA, listOf (List.toArray vs) ep) :: (tabLed .fresh ++ [(cN, oc)]) := .tail _ (.tail _ (.tail _ (.tail _ (.head _))))
  have c30 : cN ≠ 30 := fun e => by have := one _ memc _ mem30 e; dsimp only at this; rw [this] at hoc; exact tab_data hoc
  have c37 : cN ≠ 37 := fun e => by have := one _ memc _ mem37 e; dsimp only at this; rw [this] at hoc; exact tab_data hoc
  refine Runs.seqN (by decide) (Nat.le_refl _) (by decide) (Nat.le_refl _) (Runs.weak (seg3c tA oA (listOf (List.toArray vs) ep) (listOf (List.toArray os) oe) hchk (news := [(cN, oc)]) (fun q hq => by rw [List.mem_singleton.mp hq]; exact c30) (fun q hq => by rw [List.mem_singleton.mp hq]; exact c37)
    (fun e => tab_list (one _ (.tail _ (.head _)) _ mem30 e)) (fun e => tab_list (one _ (.tail _ (.head _)) _ mem37 e)) (fun e => tab_list (one _ (.head _) _ mem30 e)) (fun e => tab_list (one _ (.head _) _ mem37 e))) (fun p hp => hp) (by rintro _ _ rfl; exact ⟨f1, f2, f3⟩)) ?_
  clear f1 f2 f3
  rintro m5 led5 ⟨f1, f2, f3, sA, Dg, se, news', f4, rfl, hS, hin, ⟨ps30, hp30⟩, ⟨ps37, hp37⟩⟩ one2
  have memc2 : (cN, oc) ∈ (sA, listOf (List.toArray (refsOf Dg)) se) :: (oA, listOf (List.toArray os) oe) :: (tA, listOf (List.toArray vs) ep) :: (Dg ++ news') := .tail _ (.tail _ (.tail _ (List.mem_append_right _ (hin _ (.head _)))))
  have sub : ∀ p ∈ (sA, listOf (List.toArray (refsOf Dg)) se) :: (oA, listOf (List.toArray os) oe) :: (tA, listOf (List.toArray vs) ep) :: (Dg ++ [((30 : Addr), tabObj ps30), ((37 : Addr), tabObj ps37)]), p ∈ (sA, listOf (List.toArray (refsOf Dg)) se) :: (oA, listOf (List.toArray os) oe) :: (tA, listOf (List.toArray vs) ep) :: (Dg ++ news') := by
    intro p hp
    rcases List.mem_cons.mp hp with rfl | hp
    · exact .head _
    rcases List.mem_cons.mp hp with rfl | hp
    · exact .tail _ (.head _)
    rcases List.mem_cons.mp hp with rfl | hp
    · exact .tail _ (.tail _ (.head _))
    rcases List.mem_append.mp hp with hp | hp
    · exact .tail _ (.tail _ (.tail _ (List.mem_append_left _ hp)))
    rcases List.mem_cons.mp hp with rfl | hp
    · exact .tail _ (.tail _ (.tail _ (List.mem_append_right _ hp30)))
    rw [List.mem_singleton.mp hp]
    exact .tail _ (.tail _ (.tail _ (List.mem_append_right _ hp37)))
  refine Runs.weak (Runs.post (Runs.room (seg4 P tA oA sA cN oc c₀ hoc hS se ep oe tk vs os o hO hOr hT (news := [((30 : Addr), tabObj ps30), ((37 : Addr), tabObj ps37)]) ?_) (by decide) (by decide)) ?_) ?_ (by rintro _ _ rfl; exact ⟨f1, f2, f3, f4⟩)
  · intro p hp e
    have hd : p.2.data = .cell c₀ → False := by
      rcases List.mem_cons.mp hp with rfl | hp
      · exact list_data
      rcases List.mem_cons.mp hp with rfl | hp
      · exact list_data
      rcases List.mem_cons.mp hp with rfl | hp
      · exact list_data
      rcases List.mem_append.mp hp with hp | hp
      · exact sgs_data hS p hp c₀
      rcases List.mem_cons.mp hp with rfl | hp
      · exact tab_data
      rw [List.mem_singleton.mp hp]
      exact tab_data
    refine hd ?_
    rw [one2 p (sub p hp) _ memc2 e]
    exact hoc
  · rintro f m' led' ⟨rfl, hq⟩
    exact ⟨rfl, ⟨_, hq _ (.head _)⟩, ⟨_, hq _ (.tail _ (.head _))⟩⟩
  · intro p hp
    rcases List.mem_cons.mp hp with rfl | hp
    · exact memc2
    · exact sub p hp
end
section -- Top0
open PySem PySem.W PyProof.Rows PySem.Calls PySem.SeqAt
theorem idle_Top0 : True := by
  w_top off
  trivial
local macro_rules | `(tactic| walk_at "execs cons") => `(tactic| walk_at "s 3")
set_option maxRecDepth 100000 in
set_option maxHeartbeats 8000000 in
theorem top0 : PySem.Challenge.rw_pe0224_01.Holds := by
  refine hd ?_
  k_go0
  (all_goals try k_fold)
  k_steps
  unfold Halt
  rename CellsAre _ _ _ => hCA
  rename News _ _ _ _ => NN
  rename (_ = Data.cell _) => hcell
  refine wpAny_mono (law_body _ _ _ (by assumption) (by omega) _ _ _ hcell _ _ _ _ _ _ _ _ _ _ _ _ _ _ _ _ _ _ _ (by assumption) (by assumption) (by assumption) (fun p hp => NN p ?_) (by assumption) (by assumption) (by assumption) ?_ ?_ ⟨?_, by assumption⟩ ?_) (fun _ _ h => h) (fun _ _ h => h.elim)
  · rcases List.mem_cons.mp hp with rfl | hp
    · exact .tail _ (.tail _ (.head _))
    rcases List.mem_cons.mp hp with rfl | hp
    · exact .tail _ (.head _)
    rw [List.mem_singleton.mp hp]
    exact .head _
  · with_unfolding_all decide
  · with_unfolding_all decide
  · rfl
  · rintro f m' led' h' tk' FF NN ⟨rfl, ⟨p30, h30⟩, ⟨p37, h37⟩⟩
    dsimp only
    k_steps
end
end Mine
theorem PySem.Challenge.cw_pe0224_01_holds : PySem.Challenge.rw_pe0224_01.Holds := by
  exact Mine.top0
