import PyProof.Rows.All
import Wide.All
import OpenK.AllK
import Wide.FinOn
import PySem.Challenge.RW_ez0116_01
open PySem PySem.W PyProof.Rows
open PySem.Builtin.Int (intBits)
set_option Elab.async false
set_option maxRecDepth 100000
set_option maxHeartbeats 8000000
set_option rowWalk.seconds 0
set_option linter.unusedVariables false
section
namespace Mine
open_top hd for PySem.Challenge.rw_ez0116_01
end Mine
end
section
namespace Mine
abbrev PG : Program := PySem.Challenge.rw_ez0116_01.row.prog

/-- a contract of the call of a def or class at address f: how it comes back is `Ret` -/
abbrev Cx (w : World) (mean : ExcName → Option Value) (mg mb : Str → Option Value) (f : Addr) (news : List (Addr × Obj)) (k : Nat) (vs : List Value)
    (Ret : Heap → Addr → (Str → Option Value) → Shared → (Value → Shared → Prop) → Prop) : Prop :=
  ∀ (dp un : Nat) (gd : Option (List Code)) (cn : Str) (cs : Scope) (a : Addr) (ccd : Value) (cl : List (Str × Addr)) (outer : List Env) (A₀ : Around) (base h₀ : Heap) (L : Addr) (m : Str → Option Value) (s : Shared) (Q E : Value → Shared → Prop),
    Below A₀ base outer h₀ → Fr h₀ L s.heap m → (hd.heap_39 w.params).In h₀ → News h₀ L s.heap news → Top hd.view_39 (looseW hd.view_39 []) mean mg mb h₀ → cs.kind = .function →
    dp + k < recursionLimit → un + 8 * k < cLine → Ret h₀ L m s Q →
      wpAny (model PG w) (ktrTop dp un gd cn cs L a ccd cl outer) (call (.ref f) vs) Q E s

abbrev RetI (news : List (Addr × Obj)) (P : Int → Prop) (h₀ : Heap) (L : Addr) (m : Str → Option Value) (s : Shared) (Q : Value → Shared → Prop) : Prop :=
  ∀ (v : Int) (t : Tok) (h' : Heap) (tk' : Nat), P v → Fr h₀ L h' m → News h₀ L h' news → Q (.int v t) { s with heap := h', toks := tk' }
abbrev RetII (news : List (Addr × Obj)) (P : Int → Int → Prop) (h₀ : Heap) (L : Addr) (m : Str → Option Value) (s : Shared) (Q : Value → Shared → Prop) : Prop :=
  ∀ (a b : Int) (t u : Tok) (D : Addr) (c : Nat) (h' : Heap) (tk' : Nat), P a b → Fr h₀ L h' m → News h₀ L h' ((D, ({ cls := .type "tuple", data := .seq #[.int a t, .int b u] c } : Obj)) :: news) → AllLt D news → Q (.ref D) { s with heap := h', toks := tk' }

/-- the dict of a Double, and how a call comes back with a new one -/
abbrev dblDict (P : Params) (a b : Int) (t u k1 k2 : Tok) : Obj := dictOf [⟨PyData.keyHash P (Str.ofString "n"), .str (Str.ofString "n") k1, .int a t⟩, ⟨PyData.keyHash P (Str.ofString "d"), .str (Str.ofString "d") k2, .int b u⟩] 2
abbrev RetD (w : World) (news : List (Addr × Obj)) (P : Int → Int → Prop) (h₀ : Heap) (L : Addr) (m : Str → Option Value) (s : Shared) (Q : Value → Shared → Prop) : Prop :=
  ∀ (a b : Int) (t u k1 k2 : Tok) (x dx : Addr) (h' : Heap) (tk' : Nat), P a b → Fr h₀ L h' m → News h₀ L h' ((x, instObj 116 dx) :: (dx, dblDict w.params a b t u k1 k2) :: news) → AllLt dx news → (@LT.lt Nat _ dx x) → Q (.ref x) { s with heap := h', toks := tk' }
abbrev RetS (news : List (Addr × Obj)) (P : Str → Prop) (h₀ : Heap) (L : Addr) (m : Str → Option Value) (s : Shared) (Q : Value → Shared → Prop) : Prop :=
  ∀ (v : Str) (t : Tok) (h' : Heap) (tk' : Nat), P v → Fr h₀ L h' m → News h₀ L h' news → Q (.str v t) { s with heap := h', toks := tk' }

theorem sub_refl {l : List (Addr × Obj)} : ∀ p ∈ l, p ∈ l := fun _ h => h
theorem sub_cons {a : Addr × Obj} {l l' : List (Addr × Obj)} (h : ∀ p ∈ l, p ∈ l') : ∀ p ∈ a :: l, p ∈ a :: l' := fun p hp => by
  rcases List.mem_cons.mp hp with rfl | hp
  · exact .head _
  · exact .tail _ (h p hp)
theorem sub_skip {a : Addr × Obj} {l l' : List (Addr × Obj)} (h : ∀ p ∈ l, p ∈ l') : ∀ p ∈ l, p ∈ a :: l' := fun p hp => .tail _ (h p hp)
theorem cx_use {w : World} {mean : ExcName → Option Value} {mg mb : Str → Option Value} {f : Addr} {news : List (Addr × Obj)} {k : Nat} {vs : List Value}
    {Ret : Heap → Addr → (Str → Option Value) → Shared → (Value → Shared → Prop) → Prop} (C : Cx w mean mg mb f news k vs Ret)
    {dp un : Nat} {gd : Option (List Code)} {cn : Str} {cs : Scope} {a : Addr} {ccd : Value} {cl : List (Str × Addr)} {outer : List Env} {A₀ : Around} {base h₀ : Heap} {L : Addr} {m : Str → Option Value} {s : Shared} {Q E : Value → Shared → Prop}
    (B : Below A₀ base outer h₀) (F : Fr h₀ L s.heap m) (X : (hd.heap_39 w.params).In h₀) (N : News h₀ L s.heap news) (T : Top hd.view_39 (looseW hd.view_39 []) mean mg mb h₀) (hk : cs.kind = .function)
    (hd : dp + k < recursionLimit) (hu : un + 8 * k < cLine) (R : Ret h₀ L m s Q) : wpAny (model PG w) (ktrTop dp un gd cn cs L a ccd cl outer) (call (.ref f) vs) Q E s :=
  C _ _ _ _ _ _ _ _ _ _ _ _ _ _ _ _ _ B F X N T hk hd hu R

theorem units_make (A : Around) (C : Addr) (vals : List Value) (kw : List (Str × Value)) : (A.under (.builtin "type.__call__" ⟨.ref C :: vals, kw⟩)).units = A.units + 1 := rfl
theorem mulOk {a b : Int} (h : (intBits a : Int) + intBits b ≤ 134217728) : IntMulOk a b := IntMulOk.of_le (Nat.le_refl _) (Nat.le_refl _) (by omega)
theorem noPy {a b : Int} (h : intBits b ≤ 8000) : Builtin.divisionGoesByPylong a b = false := by
  refine PyProof.noPylong_of_log2 ?_
  by_cases h0 : b.natAbs = 0
  · rw [h0]; decide +kernel
  · have := intBits_le_iff.mp h
    exact Nat.lt_of_lt_of_le ((Nat.log2_lt h0).mpr this) (by decide)

section
variable {prog : Program} {w : World} {A : Around} {E : Value → Shared → Prop} {s : Shared} {a b : Int} {t u : Tok} {Q : Value → Shared → Prop} {h₀ : Heap} {L : Addr} {m : Str → Option Value} {news : List (Addr × Obj)}
theorem max_g (hh : A.handled = none) (F : Fr h₀ L s.heap m) (N : News h₀ L s.heap news)
    (h : ∀ (v : Int) (r : Tok) h' tk, a ≤ v → b ≤ v → (v = a ∨ v = b) → Fr h₀ L h' m → News h₀ L h' news → Q (.int v r) { s with heap := h', toks := tk }) :
    wpAny (model prog w) A (call (.builtin "max") [.int a t, .int b u]) Q E s :=
  max_two_N hh F N fun h' tk F' N' => h _ _ h' tk (by split <;> omega) (by split <;> omega) (by split <;> simp) F' N'
theorem min_g (hh : A.handled = none) (F : Fr h₀ L s.heap m) (N : News h₀ L s.heap news)
    (h : ∀ (v : Int) (r : Tok) h' tk, v ≤ a → v ≤ b → (v = a ∨ v = b) → Fr h₀ L h' m → News h₀ L h' news → Q (.int v r) { s with heap := h', toks := tk }) :
    wpAny (model prog w) A (call (.builtin "min") [.int a t, .int b u]) Q E s :=
  min_two_N hh F N fun h' tk F' N' => h _ _ h' tk (by split <;> omega) (by split <;> omega) (by split <;> simp) F' N'
/-- v is the size of a (hidden from omega) -/
def AbsOf (v a : Int) : Prop := v = (a.natAbs : Int)
theorem abs_g (h : ∀ (v : Int) u tk, AbsOf v a → 0 ≤ v → intBits v = intBits a → Q (.int v u) { s with toks := tk }) :
    wpAny (model prog w) A (call (.builtin "abs") [.int a t]) Q E s :=
  call_abs_int fun u tk => h _ u tk (by unfold AbsOf; split <;> omega) (by split <;> omega) (by
    have e : (if a < 0 then -a else a) = (a.natAbs : Int) := by split <;> omega
    rw [e]
    refine Nat.le_antisymm (intBits_natAbs_le (Nat.le_refl _)) (intBits_le_of_natAbs (y := ((a.natAbs : Nat) : Int)) (by omega) (Nat.le_refl _)))
theorem bits_shl (a : Int) (k : Nat) : intBits (a * 2 ^ k) ≤ intBits a + k := by
  refine intBits_le_iff.mpr ?_
  have h := intBits_le_iff.mp (Nat.le_refl (intBits a))
  have e : (a * 2 ^ k).natAbs = a.natAbs * 2 ^ k := by rw [Int.natAbs_mul, Int.natAbs_pow]; rfl
  rw [e, Nat.pow_add]
  exact Nat.mul_lt_mul_of_pos_right h (Nat.two_pow_pos k)
theorem lshift_g {n : Int} (hn : 0 ≤ n) (hsz : (intBits a : Int) + n ≤ 2 ^ 27) (h : ∀ (v : Int) u tk, v = a * 2 ^ n.toNat → (0 < a → 0 < v) → (intBits v : Int) ≤ intBits a + n → Q (.int v u) { s with toks := tk }) :
    wpAny (model prog w) A (binaryOp .LShift (.int a t) (.int n u)) Q E s := lshift_int hn hsz (h _ _ _ rfl (fun e => Int.mul_pos e (Int.pow_pos (by decide))) (by have := bits_shl a n.toNat; omega))
end
theorem store_g {M : Model} {A : Around} {E : Value → Shared → Prop} {s : Shared} {env : Env} {x : Str} {e : Int} {t : Tok} {Q : Unit → Shared → Prop} (h : ∀ v, v = e → wpAny M A (storeName env x (.int v t)) Q E s) : wpAny M A (storeName env x (.int e t)) Q E s := h e rfl

def rnd (n d : Int) : Int := if 2 * (n.fmod d) > d ∨ (2 * n.fmod d = d ∧ (n.fdiv d).fmod 2 = 1) then n.fdiv d + 1 else n.fdiv d
theorem rnd_bits {n d : Int} : intBits (rnd n d) ≤ intBits n + 1 := by
  unfold rnd
  have h := intBits_fdiv_le (y := d) (Nat.le_refl (intBits n))
  split
  · have h2 : intBits (1 : Int) ≤ intBits n ∨ intBits n = 0 := by
      by_cases q : intBits n = 0
      · exact .inr q
      · left
        have : intBits (1 : Int) = 1 := by decide
        omega
    rcases h2 with h2 | h2
    · have := intBits_add_le h h2
      omega
    · have : n = 0 := by
        have := intBits_le_iff (m := 0) (x := n) |>.mp (by omega)
        simp at this; omega
      subst this
      have : (0 : Int).fdiv d = 0 := Int.zero_fdiv d
      rw [this]; decide
  · omega
end Mine
end
section
namespace Mine
/-- a/b is the double nearest to n/d, by a shift s -/
def IsNear (n d a b : Int) : Prop := ∃ s : Int, -460 ≤ s ∧ s ≤ 460 ∧ d * 2 ^ (-s).toNat * 2 ^ 52 ≤ n.natAbs * 2 ^ s.toNat ∧ (n.natAbs : Int) * 2 ^ s.toNat < d * 2 ^ (-s).toNat * 2 ^ 53 ∧
  a = rnd (n * 2 ^ s.toNat) (d * 2 ^ (-s).toNat) * 2 ^ (-s).toNat ∧ b = 2 ^ s.toNat
/-- a/b is what Double(n, d) holds (d over 0) -/
def IsDbl (n d a b : Int) : Prop := (n = 0 ∧ a = 0 ∧ b = d) ∨ (n ≠ 0 ∧ IsNear n d a b)
theorem ovf {V X : Int} (h : V ≤ X) (hV : V = 1 * 2 ^ Int.toNat 1024) (hb : (intBits X : Int) ≤ 1024) : False := by
  have hb' : intBits X ≤ 1024 := by omega
  have h1 := intBits_le_iff.mp hb'
  have h2 : V.natAbs = 2 ^ 1024 := by rw [hV]; decide +kernel
  have h3 : 0 < V := by rw [hV]; decide +kernel
  omega
theorem bits_lo {x : Int} (h : x ≠ 0) : 2 ^ (intBits x - 1) ≤ x.natAbs := by
  have h1 : ¬ intBits x ≤ intBits x - 1 := by
    have : 0 < intBits x := by
      rcases Nat.eq_zero_or_pos (intBits x) with q | q
      · have := intBits_le_iff (m := 0) (x := x) |>.mp (by omega)
        simp at this; omega
      · exact q
    omega
  rw [intBits_le_iff] at h1
  omega
theorem bits_hi (x : Int) : x.natAbs < 2 ^ intBits x := intBits_le_iff.mp (Nat.le_refl _)
theorem bits_pos {x : Int} (h : x ≠ 0) : 0 < intBits x := by
  rcases Nat.eq_zero_or_pos (intBits x) with q | q
  · have := intBits_le_iff (m := 0) (x := x) |>.mp (by omega)
    simp at this; omega
  · exact q
theorem pow_cast (k : Nat) : ((2 : Int) ^ k) = (((2 : Nat) ^ k : Nat) : Int) := by simp

/-- the two bounds at the first shift -/
theorem near_bounds {n d s : Int} (h0 : 0 < d) (hn0 : n ≠ 0) (hs : s = 53 - intBits n + intBits d) :
    d.natAbs * 2 ^ (-s).toNat * 2 ^ 52 < n.natAbs * 2 ^ s.toNat ∧ n.natAbs * 2 ^ s.toNat < d.natAbs * 2 ^ (-s).toNat * 2 ^ 54 := by
  have n1 := bits_lo hn0
  have n2 := bits_hi n
  have hd0 : d ≠ 0 := by omega
  have d1 := bits_lo hd0
  have d2 := bits_hi d
  have pn := bits_pos hn0
  have pd := bits_pos hd0
  generalize hA : n.natAbs = A at *
  generalize hB : d.natAbs = B at *
  generalize intBits n = bn at *
  generalize intBits d = bd at *
  have e : bn - 1 + s.toNat = bd + (-s).toNat + 52 := by omega
  have f : bn + s.toNat = bd - 1 + (-s).toNat + 54 := by omega
  constructor
  · calc B * 2 ^ (-s).toNat * 2 ^ 52 < 2 ^ bd * 2 ^ (-s).toNat * 2 ^ 52 := Nat.mul_lt_mul_of_pos_right (Nat.mul_lt_mul_of_pos_right d2 (Nat.two_pow_pos _)) (by decide)
      _ = 2 ^ (bn - 1) * 2 ^ s.toNat := by rw [← Nat.pow_add, ← Nat.pow_add, ← Nat.pow_add, e]
      _ ≤ A * 2 ^ s.toNat := Nat.mul_le_mul_right _ n1
  · calc A * 2 ^ s.toNat < 2 ^ bn * 2 ^ s.toNat := Nat.mul_lt_mul_of_pos_right n2 (Nat.two_pow_pos _)
      _ = 2 ^ (bd - 1) * 2 ^ (-s).toNat * 2 ^ 54 := by rw [← Nat.pow_add, ← Nat.pow_add, ← Nat.pow_add, f]
      _ ≤ B * 2 ^ (-s).toNat * 2 ^ 54 := Nat.mul_le_mul_right _ (Nat.mul_le_mul_right _ d1)

theorem near_2 {n d s a b : Int} (h0 : 0 < d) (hn0 : n ≠ 0) (hn : intBits n ≤ 400) (hd : intBits d ≤ 400) (hs : s = 53 - intBits n + intBits d)
    (h : ¬ d * 2 ^ ((-s).toNat + 53) ≤ n.natAbs * 2 ^ s.toNat) (ha : a = rnd (n * 2 ^ s.toNat) (d * 2 ^ (-s).toNat) * 2 ^ (-s).toNat) (hb : b = 2 ^ s.toNat) : IsNear n d a b := by
  refine ⟨s, by omega, by omega, ?_, ?_, ha, hb⟩
  · have := (near_bounds h0 hn0 hs).1
    have e : d = (d.natAbs : Int) := by omega
    rw [e]
    simp only [pow_cast, ← Int.natCast_mul]
    omega
  · rw [Int.pow_add] at h
    rw [Int.mul_assoc]
    omega

theorem near_1 {n d s r a b : Int} (h0 : 0 < d) (hn0 : n ≠ 0) (hn : intBits n ≤ 400) (hd : intBits d ≤ 400) (hs : s = 53 - intBits n + intBits d) (hr : r = s - 1)
    (h : d * 2 ^ ((-s).toNat + 53) ≤ n.natAbs * 2 ^ s.toNat) (ha : a = rnd (n * 2 ^ r.toNat) (d * 2 ^ (-r).toNat) * 2 ^ (-r).toNat) (hb : b = 2 ^ r.toNat) : IsNear n d a b := by
  have k := (near_bounds h0 hn0 hs).2
  have e : d = (d.natAbs : Int) := by omega
  have k' : (n.natAbs : Int) * 2 ^ s.toNat < d * 2 ^ (-s).toNat * 2 ^ 54 := by
    rw [e]
    simp only [pow_cast, ← Int.natCast_mul]
    omega
  rw [Int.pow_add] at h
  have h' : d * 2 ^ (-s).toNat * 2 ^ 53 ≤ n.natAbs * 2 ^ s.toNat := by rw [Int.mul_assoc]; exact h
  clear h k
  refine ⟨r, by omega, by omega, ?_, ?_, ha, hb⟩
  all_goals
    by_cases q : 0 < s
    · have e1 : s.toNat = r.toNat + 1 := by omega
      have e2 : (-s).toNat = 0 := by omega
      have e3 : (-r).toNat = 0 := by omega
      rw [e3]
      rw [e1, e2, Int.pow_succ 2 r.toNat, ← Int.mul_assoc] at h' k'
      generalize (n.natAbs : Int) * 2 ^ r.toNat = x at *
      omega
    · have e1 : s.toNat = 0 := by omega
      have e2 : r.toNat = 0 := by omega
      have e3 : (-r).toNat = (-s).toNat + 1 := by omega
      rw [e2, e3, Int.pow_succ 2 (-s).toNat, ← Int.mul_assoc]
      rw [e1] at h' k'
      generalize d * 2 ^ (-s).toNat = x at *
      omega
theorem rnd_abs {n d k : Int} (h0 : 0 < d) (hk : 0 ≤ k) (h1 : n < d * k) (h2 : -(d * k) < n) : (rnd n d).natAbs ≤ k.natAbs := by
  have f := fdiv_fmod_facts n d
  have f1 := f.1
  have f2 := f.2.2.1 h0
  have u : n.fdiv d < k := by
    rcases Int.lt_or_le (n.fdiv d) k with q | q
    · exact q
    · have : d * k ≤ d * n.fdiv d := Int.mul_le_mul_of_nonneg_left q (by omega)
      rw [Int.mul_comm d (n.fdiv d)] at this
      omega
  have l : -k ≤ n.fdiv d := by
    rcases Int.lt_or_le (n.fdiv d) (-k) with q | q
    · have : d * n.fdiv d ≤ d * (-k - 1) := Int.mul_le_mul_of_nonneg_left (by omega) (by omega)
      rw [Int.mul_sub, Int.mul_neg, Int.mul_one, Int.mul_comm d (n.fdiv d)] at this
      omega
    · exact q
  unfold rnd
  split <;> omega
/-- what is known of a Double's two numbers -/
def DblP (n d a b : Int) : Prop := IsDbl n d a b ∧ 0 < b ∧ intBits a ≤ 54 + intBits n ∧ intBits b ≤ 54 + intBits d
theorem dblP {n d a b : Int} (h0 : 0 < d) (h : IsDbl n d a b) : DblP n d a b := by
  refine ⟨h, ?_⟩
  rcases h with ⟨rfl, rfl, rfl⟩ | ⟨hn0, s, s1, s2, l, u, rfl, rfl⟩
  · exact ⟨h0, by omega, by omega⟩
  · have hd0 : d ≠ 0 := by omega
    have d2 := bits_hi d
    have n2 := bits_hi n
    have eD : d = (d.natAbs : Int) := by omega
    rw [eD] at l u
    simp only [pow_cast, ← Int.natCast_mul] at l u
    have l' : d.natAbs * 2 ^ (-s).toNat * 2 ^ 52 ≤ n.natAbs * 2 ^ s.toNat := by omega
    have u' : n.natAbs * 2 ^ s.toNat < d.natAbs * 2 ^ (-s).toNat * 2 ^ 53 := by omega
    refine ⟨Int.pow_pos (by decide), ?_, ?_⟩
    · have W : (rnd (n * 2 ^ s.toNat) (d * 2 ^ (-s).toNat)).natAbs ≤ (2 ^ 53 : Int).natAbs := by
        have e1 : ((n * 2 ^ s.toNat).natAbs : Int) < d * 2 ^ (-s).toNat * 2 ^ 53 := by
          rw [Int.natAbs_mul, Int.natAbs_pow, eD]
          simp only [pow_cast, ← Int.natCast_mul]
          exact Int.ofNat_lt.mpr u'
        refine rnd_abs (Int.mul_pos h0 (Int.pow_pos (by decide))) (by decide) ?_ ?_ <;> omega
      have k1 : (-s).toNat ≤ intBits n := by
        rcases Int.lt_or_le s 0 with q | q
        · have e : s.toNat = 0 := by omega
          rw [e, Nat.pow_zero, Nat.mul_one] at l'
          have a1 : 2 ^ (-s).toNat ≤ d.natAbs * 2 ^ (-s).toNat * 2 ^ 52 := by
            have : 1 ≤ d.natAbs := by omega
            calc 2 ^ (-s).toNat = 1 * 2 ^ (-s).toNat * 1 := by omega
              _ ≤ d.natAbs * 2 ^ (-s).toNat * 2 ^ 52 := Nat.mul_le_mul (Nat.mul_le_mul_right _ this) (by decide)
          have a2 : 2 ^ (-s).toNat < 2 ^ intBits n := by omega
          exact Nat.le_of_lt ((Nat.pow_lt_pow_iff_right (by decide)).mp a2)
        · omega
      have k2 : intBits (rnd (n * 2 ^ s.toNat) (d * 2 ^ (-s).toNat)) ≤ 54 := intBits_le_iff.mpr (Nat.lt_of_le_of_lt W (by decide))
      have := bits_shl (rnd (n * 2 ^ s.toNat) (d * 2 ^ (-s).toNat)) (-s).toNat
      omega
    · have k1 : s.toNat ≤ 53 + intBits d := by
        rcases Int.lt_or_le 0 s with q | q
        · have e : (-s).toNat = 0 := by omega
          rw [e, Nat.pow_zero, Nat.mul_one] at u'
          have a1 : 2 ^ s.toNat ≤ n.natAbs * 2 ^ s.toNat := by
            have : 1 ≤ n.natAbs := by omega
            calc 2 ^ s.toNat = 1 * 2 ^ s.toNat := by omega
              _ ≤ _ := Nat.mul_le_mul_right _ this
          have a3 : d.natAbs * 2 ^ 53 < 2 ^ (53 + intBits d) := by
            rw [Nat.add_comm, Nat.pow_add]
            exact Nat.mul_lt_mul_of_pos_right d2 (by decide)
          have a2 : 2 ^ s.toNat < 2 ^ (53 + intBits d) := by omega
          exact Nat.le_of_lt ((Nat.pow_lt_pow_iff_right (by decide)).mp a2)
        · omega
      have k3 := bits_shl 1 s.toNat
      have b1 : intBits 1 = 1 := by decide
      rw [Int.one_mul] at k3
      have k4 : (2 ^ s.toNat : Int).natAbs < 2 ^ (s.toNat + 1) := by
        rw [Int.natAbs_pow, Nat.pow_succ]
        have := Nat.two_pow_pos s.toNat
        show 2 ^ s.toNat < 2 ^ s.toNat * 2
        omega
      have := intBits_le_iff.mpr k4
      omega
end Mine
end
section
namespace Mine
theorem absEq {v n a : Int} (h : AbsOf v a) (hn : AbsOf n a) : n = v := hn.trans h.symm
/-- between turns: p/q ≤ n/d < r/s, neighbours -/
def NFI (n d M p q r s : Int) : Prop := 1 ≤ q ∧ 1 ≤ s ∧ q ≤ M ∧ s ≤ M ∧ r * q - p * s = 1 ∧ p * d ≤ n * q ∧ n * s < r * d ∧ 0 ≤ p ∧ 0 ≤ r ∧ p ≤ q ∧ r ≤ s
theorem fdiv_le {x y k : Int} (hy : 0 < y) (h : k ≤ x.fdiv y) : k * y ≤ x := by
  have f := fdiv_fmod_facts x y
  have f2 := f.2.2.1 hy
  have : k * y ≤ x.fdiv y * y := Int.mul_le_mul_of_nonneg_right h (by omega)
  omega
theorem fdiv_nn {x y : Int} (hy : 0 < y) (h : 0 ≤ x) : 0 ≤ x.fdiv y := Int.fdiv_nonneg h (by omega)
theorem fdiv_lt1 {x y : Int} (hy : 0 < y) (h : x.fdiv y = 0) : x < y := by
  have f := fdiv_fmod_facts x y
  have f2 := f.2.2.1 hy
  rw [h] at f
  omega
theorem nfi_0 {n d p r : Int} (hn0 : 0 ≤ n) (hnd : n < d) (hp : p = n.fdiv d) (hr : r = n.fdiv d + 1) : NFI n d 1000 p 1 r 1 := by
  have h : n.fdiv d = 0 := by
    have f := fdiv_fmod_facts n d
    have f2 := f.2.2.1 (by omega : 0 < d)
    have l : ¬ 1 ≤ n.fdiv d := fun h1 => by
      have := fdiv_le (by omega : 0 < d) h1
      omega
    have := fdiv_nn (by omega : 0 < d) hn0
    omega
  rw [h] at hp hr
  subst hp
  have hr : r = 1 := by omega
  subst hr
  refine ⟨by omega, by omega, by omega, by omega, by omega, by omega, by omega, by omega, by omega, by omega, by omega⟩
theorem nfi_1 {n d p q r s k p' q' : Int} (ep : p' = p + k * r) (I : NFI n d 1000 p q r s) (eq : q' = q + k * s) (k1 : k ≤ (n * q - p * d).fdiv (r * d - n * s)) (k2 : k ≤ (1000 - q).fdiv s)
    (k3 : k = (n * q - p * d).fdiv (r * d - n * s) ∨ k = (1000 - q).fdiv s) (hlt : q + s ≤ 1000) :
    NFI n d 1000 p' q' r s ∧ (q < q' ∨ (q' = q ∧ p' * d = p * d ∧ n * q' = n * q ∧ n * q - p * d < r * d - n * s)) := by
  obtain ⟨i1, i2, i3, i4, i5, i6, i7, i8, i9, i10, i11⟩ := I
  have hD : 0 < r * d - n * s := by omega
  have hk0 : 0 ≤ k := by
    rcases k3 with e | e
    · rw [e]; exact fdiv_nn hD (by omega)
    · rw [e]; exact fdiv_nn (by omega) (by omega)
  have a1 := fdiv_le hD k1
  have a2 := fdiv_le (by omega) k2
  have a3 : 0 ≤ k * s := Int.mul_nonneg hk0 (by omega)
  have a4 : 0 ≤ k * r := Int.mul_nonneg hk0 i9
  have a5 : k * r ≤ k * s := Int.mul_le_mul_of_nonneg_left i11 hk0
  have e1 : k * (r * d - n * s) = k * r * d - n * (k * s) := by grind
  have e2 : p' * d = p * d + k * r * d := by rw [ep, Int.add_mul]
  have e3 : n * q' = n * q + n * (k * s) := by rw [eq, Int.mul_add]
  have e4 : r * q' = r * q + r * (k * s) := by rw [eq, Int.mul_add]
  have e5 : p' * s = p * s + k * r * s := by rw [ep, Int.add_mul]
  have e6 : r * (k * s) = k * r * s := by grind
  refine ⟨⟨by omega, i2, by omega, i4, by omega, by omega, i7, by omega, i9, by omega, i11⟩, ?_⟩
  rcases Int.lt_or_le 0 k with z | z
  · left
    have : 1 * s ≤ k * s := Int.mul_le_mul_of_nonneg_right (by omega) (by omega)
    omega
  · right
    have hk : k = 0 := by omega
    subst hk
    rw [Int.zero_mul] at ep eq
    have ep' : p' = p := by omega
    have eq' : q' = q := by omega
    subst ep' eq'
    refine ⟨rfl, rfl, rfl, ?_⟩
    rcases k3 with e | e
    · exact fdiv_lt1 hD e.symm
    · have := fdiv_lt1 (by omega) e.symm
      omega
theorem nfi_2 {n d p q r s k r' s' : Int} (er : r' = r + k * p) (I : NFI n d 1000 p q r s) (es : s' = s + k * q) (k1 : k ≤ (r * d - n * s - 1).fdiv (n * q - p * d)) (k2 : k ≤ (1000 - s).fdiv q)
    (k3 : k = (r * d - n * s - 1).fdiv (n * q - p * d) ∨ k = (1000 - s).fdiv q) (hne : p * d ≠ n * q) :
    NFI n d 1000 p q r' s' ∧ s ≤ s' ∧ (q + s ≤ 1000 → n * q - p * d < r * d - n * s → s < s') := by
  obtain ⟨i1, i2, i3, i4, i5, i6, i7, i8, i9, i10, i11⟩ := I
  have hD : 0 < n * q - p * d := by omega
  have hk0 : 0 ≤ k := by
    rcases k3 with e | e
    · rw [e]; exact fdiv_nn hD (by omega)
    · rw [e]; exact fdiv_nn (by omega) (by omega)
  have a1 := fdiv_le hD k1
  have a2 := fdiv_le (by omega) k2
  have a3 : 0 ≤ k * q := Int.mul_nonneg hk0 (by omega)
  have a4 : 0 ≤ k * p := Int.mul_nonneg hk0 i8
  have a5 : k * p ≤ k * q := Int.mul_le_mul_of_nonneg_left i10 hk0
  have e1 : k * (n * q - p * d) = n * (k * q) - k * p * d := by grind
  have e2 : r' * d = r * d + k * p * d := by rw [er, Int.add_mul]
  have e3 : n * s' = n * s + n * (k * q) := by rw [es, Int.mul_add]
  have e4 : r' * q = r * q + k * p * q := by rw [er, Int.add_mul]
  have e5 : p * s' = p * s + p * (k * q) := by rw [es, Int.mul_add]
  have e6 : p * (k * q) = k * p * q := by grind
  refine ⟨⟨i1, by omega, i3, by omega, by omega, i6, by omega, i8, by omega, i10, by omega⟩, by omega, fun h1 h2 => ?_⟩
  rcases Int.lt_or_le 0 k with z | z
  · have : 1 * q ≤ k * q := Int.mul_le_mul_of_nonneg_right (by omega) (by omega)
    omega
  · have hk : k = 0 := by omega
    subst hk
    rcases k3 with e | e
    · have := fdiv_lt1 hD e.symm
      omega
    · have := fdiv_lt1 (by omega) e.symm
      omega
/-- what the walk hands back for n/d: one of two neighbours -/
def NFRes (n d p q : Int) : Prop := ∃ p' q' r s, NFI n d 1000 p' q' r s ∧ (1000 < q' + s ∨ p' * d = n * q') ∧
  ((((r * d - n * s) * q' < (n * q' - p' * d) * s ∨ ((n * q' - p' * d) * s = (r * d - n * s) * q' ∧ s < q')) ∧ p = r ∧ q = s) ∨
   (¬ ((r * d - n * s) * q' < (n * q' - p' * d) * s ∨ ((n * q' - p' * d) * s = (r * d - n * s) * q' ∧ s < q')) ∧ p = p' ∧ q = q'))
theorem nfres_hi {n d p q r s lo hi : Int} (I : NFI n d 1000 p q r s) (ehi : hi = (r * d - n * s) * q) (elo : lo = (n * q - p * d) * s) (hex : 1000 < q + s ∨ p * d = n * q)
    (c : hi < lo ∨ (lo = hi ∧ s < q)) : NFRes n d r s := by subst ehi elo; exact ⟨p, q, r, s, I, hex, .inl ⟨c, rfl, rfl⟩⟩
theorem nfres_lo {n d p q r s lo hi : Int} (I : NFI n d 1000 p q r s) (ehi : hi = (r * d - n * s) * q) (elo : lo = (n * q - p * d) * s) (hex : 1000 < q + s ∨ p * d = n * q)
    (c : ¬ (hi < lo ∨ (lo = hi ∧ s < q))) : NFRes n d p q := by subst ehi elo; exact ⟨p, q, r, s, I, hex, .inr ⟨c, rfl, rfl⟩⟩
theorem nfres_bd {n d p q x a : Int} (h : NFRes n d p q) (e : x = if 0 ≤ a then p else -p) : 0 ≤ p ∧ p ≤ q ∧ 1 ≤ q ∧ q ≤ 1000 ∧ x.natAbs ≤ 1000 := by
  obtain ⟨p', q', r, s, ⟨i1, i2, i3, i4, i5, i6, i7, i8, i9, i10, i11⟩, hex, c⟩ := h
  rcases c with ⟨_, rfl, rfl⟩ | ⟨_, rfl, rfl⟩ <;> (split at e <;> omega)
end Mine
end
section
namespace Mine
def trn (a b : Int) : Int := if 0 ≤ a then a.fdiv b else -((-a).fdiv b)
theorem rnd_mul {c d : Int} (h : 0 < d) : rnd (c * d) d = c := by
  have e1 : (c * d).fdiv d = c := Int.mul_fdiv_cancel _ (by omega)
  have f := fdiv_fmod_facts (c * d) d
  rw [e1] at f
  have e2 : (c * d).fmod d = 0 := by have := f.1; omega
  unfold rnd
  rw [e1, e2, if_neg (by omega)]
theorem near_exact {n d a b m : Int} {k : Nat} (h0 : 0 < d) (h : IsNear n d a b) (hm : m.natAbs ≤ 2 ^ 53) (e : n * 2 ^ k = m * d) : a * d = n * b := by
  obtain ⟨s, s1, s2, l, u, rfl, rfl⟩ := h
  have hd : 0 < d * 2 ^ (-s).toNat := Int.mul_pos h0 (Int.pow_pos (by decide))
  have key : ∃ c, n * 2 ^ s.toNat = c * (d * 2 ^ (-s).toNat) := by
    by_cases hk : k + (-s).toNat ≤ s.toNat
    · obtain ⟨j, hj⟩ : ∃ j, s.toNat = k + (-s).toNat + j := ⟨s.toNat - (k + (-s).toNat), by omega⟩
      refine ⟨m * 2 ^ j, ?_⟩
      rw [hj, Int.pow_add, Int.pow_add]
      have : n * (2 ^ k * 2 ^ (-s).toNat * 2 ^ j) = n * 2 ^ k * (2 ^ (-s).toNat * 2 ^ j) := by grind
      rw [this, e]
      grind
    · obtain ⟨j, hj⟩ : ∃ j, k + (-s).toNat = s.toNat + (j + 1) := ⟨k + (-s).toNat - s.toNat - 1, by omega⟩
      have eD : d = (d.natAbs : Int) := by omega
      have e' : n.natAbs * 2 ^ k = m.natAbs * d.natAbs := by
        have := congrArg Int.natAbs e
        rw [Int.natAbs_mul, Int.natAbs_mul, Int.natAbs_pow] at this
        exact this
      have l' : d.natAbs * 2 ^ (-s).toNat * 2 ^ 52 ≤ n.natAbs * 2 ^ s.toNat := by
        rw [eD] at l
        simp only [pow_cast, ← Int.natCast_mul] at l
        omega
      have a1 : d.natAbs * 2 ^ s.toNat * (2 ^ 52 * 2 ^ (j + 1)) ≤ d.natAbs * 2 ^ s.toNat * m.natAbs := by
        have c1 : d.natAbs * 2 ^ (-s).toNat * 2 ^ 52 * 2 ^ k ≤ n.natAbs * 2 ^ s.toNat * 2 ^ k := Nat.mul_le_mul_right _ l'
        have c2 : d.natAbs * 2 ^ (-s).toNat * 2 ^ 52 * 2 ^ k = d.natAbs * 2 ^ 52 * 2 ^ (k + (-s).toNat) := by rw [Nat.pow_add]; grind
        rw [c2, hj, Nat.pow_add] at c1
        have c3 : n.natAbs * 2 ^ s.toNat * 2 ^ k = n.natAbs * 2 ^ k * 2 ^ s.toNat := by grind
        rw [c3, e'] at c1
        have c4 : d.natAbs * 2 ^ 52 * (2 ^ s.toNat * 2 ^ (j + 1)) = d.natAbs * 2 ^ s.toNat * (2 ^ 52 * 2 ^ (j + 1)) := by grind
        have c5 : m.natAbs * d.natAbs * 2 ^ s.toNat = d.natAbs * 2 ^ s.toNat * m.natAbs := by grind
        rw [c4, c5] at c1
        exact c1
      have a2 : 2 ^ 52 * 2 ^ (j + 1) ≤ m.natAbs := Nat.le_of_mul_le_mul_left a1 (Nat.mul_pos (by omega) (Nat.two_pow_pos _))
      have a3 : 2 ^ (j + 1) ≤ 2 := by
        generalize 2 ^ (j + 1) = z at a2
        omega
      have hj0 : j = 0 := by
        rcases Nat.eq_zero_or_pos j with z | z
        · exact z
        · have : 2 ^ 2 ≤ 2 ^ (j + 1) := Nat.pow_le_pow_right (by decide) (by omega)
          omega
      subst hj0
      have a4 : m.natAbs = 2 ^ 53 := by omega
      obtain ⟨c, hc⟩ : ∃ c, m = 2 * c := by
        rcases Int.natAbs_eq m with z | z
        · exact ⟨2 ^ 52, by omega⟩
        · exact ⟨-2 ^ 52, by omega⟩
      refine ⟨c, ?_⟩
      have b1 : n * 2 ^ (k + (-s).toNat) = m * d * 2 ^ (-s).toNat := by rw [Int.pow_add, ← Int.mul_assoc, e]
      rw [hj, Int.pow_add, hc] at b1
      have b2 : n * (2 ^ s.toNat * 2 ^ (0 + 1)) = 2 * (n * 2 ^ s.toNat) := by grind
      have b3 : 2 * c * d * 2 ^ (-s).toNat = 2 * (c * (d * 2 ^ (-s).toNat)) := by grind
      rw [b2, b3] at b1
      omega
  obtain ⟨c, hc⟩ := key
  rw [hc, rnd_mul hd]
  have : c * 2 ^ (-s).toNat * d = c * (d * 2 ^ (-s).toNat) := by grind
  rw [this, ← hc]
theorem dbl_exact {n d a b m : Int} {k : Nat} (h0 : 0 < d) (h : DblP n d a b) (hm : m.natAbs ≤ 2 ^ 53) (e : n * 2 ^ k = m * d) : a * d = n * b := by
  rcases h.1 with ⟨rfl, rfl, rfl⟩ | ⟨hn0, h⟩
  · simp
  · exact near_exact h0 h hm e
theorem trn_frac {a b : Int} (h : 0 < b) : (a - trn a b * b).natAbs < b.natAbs ∧ (0 ≤ a → 0 ≤ a - trn a b * b) ∧ (a < 0 → a - trn a b * b ≤ 0) ∧ (trn a b).natAbs ≤ a.natAbs := by
  unfold trn
  split
  · have f := fdiv_fmod_facts a b
    have f2 := f.2.2.1 h
    have g := natAbs_fdiv_le a b
    refine ⟨by omega, by omega, by omega, g⟩
  · have f := fdiv_fmod_facts (-a) b
    have f2 := f.2.2.1 h
    have g := natAbs_fdiv_le (-a) b
    have e : -((-a).fdiv b) * b = -((-a).fdiv b * b) := Int.neg_mul _ _
    rw [e]
    refine ⟨by omega, by omega, by omega, by omega⟩
/-- what is left of a/b behind its whole part is a double -/
def FDy (a b : Int) : Prop := ∃ (m : Int) (k : Nat), m.natAbs ≤ 2 ^ 53 ∧ (a - trn a b * b) * 2 ^ k = m * b
/-- what fractional asks of a double's two numbers -/
def NumP (a b : Int) : Prop := 0 < b ∧ intBits a ≤ 130 ∧ intBits b ≤ 130 ∧ intBits (trn a b) ≤ 50 ∧ FDy a b
/-- what is left behind the whole part, as it is handed on -/
def FP (a b a' b' : Int) : Prop := 0 < b' ∧ a' * b = (a - trn a b * b) * b' ∧ a'.natAbs < b' ∧ intBits b' ≤ 7000
theorem frac_part {a b a' b' W : Int} (hP : NumP a b) (hW : W = trn a b) (h : ∃ p q, DblP W 1 p q ∧ DblP (a * q - p * b) (b * q) a' b') : FP a b a' b' := by
  obtain ⟨hb, ba, bb, bW, m, k, hm, hk⟩ := hP
  obtain ⟨p, q, h1, h2⟩ := h
  subst hW
  have hq : 0 < q := h1.2.1
  have e1 : p = trn a b * q := by
    have := dbl_exact (m := trn a b) (k := 0) (by decide) h1 (by have := intBits_le_iff.mp bW; omega) (by omega)
    omega
  subst e1
  have hd : 0 < b * q := Int.mul_pos hb hq
  have e2 : a * q - trn a b * q * b = (a - trn a b * b) * q := by grind
  rw [e2] at h2
  have e3 := dbl_exact (m := m) (k := k) hd h2 hm (by
    have : (a - trn a b * b) * q * 2 ^ k = (a - trn a b * b) * 2 ^ k * q := by grind
    rw [this, hk]; grind)
  have e4 : a' * b = (a - trn a b * b) * b' := by
    have x1 : a' * b * q = (a - trn a b * b) * b' * q := by grind
    exact Int.eq_of_mul_eq_mul_right (by omega) x1
  refine ⟨h2.2.1, e4, ?_, ?_⟩
  · have f := (trn_frac (a := a) hb).1
    have g := congrArg Int.natAbs e4
    rw [Int.natAbs_mul, Int.natAbs_mul] at g
    have hb' : 0 < b' := h2.2.1
    have l : a'.natAbs * b.natAbs < b'.natAbs * b.natAbs := by
      rw [g, Nat.mul_comm b'.natAbs]
      exact Nat.mul_lt_mul_of_pos_right f (by omega)
    have := Nat.lt_of_mul_lt_mul_right l
    omega
  · have c1 := h2.2.2.2
    have c2 := intBits_mul_le bb h1.2.2.2
    have c3 : intBits (1 : Int) = 1 := by decide
    omega
/-- the walk's answer hangs on the quotient alone -/
theorem nfres_scale {n d n2 d2 p q : Int} (hd : 0 < d) (hd2 : 0 < d2) (e : n * d2 = n2 * d) (h : NFRes n d p q) : NFRes n2 d2 p q := by
  obtain ⟨p', q', r, s, ⟨i1, i2, i3, i4, i5, i6, i7, i8, i9, i10, i11⟩, hex, c⟩ := h
  have L : ∀ x y : Int, d2 * (x * d - n * y) = d * (x * d2 - n2 * y) := fun x y => by grind
  have L' : ∀ x y : Int, d2 * (n * y - x * d) = d * (n2 * y - x * d2) := fun x y => by grind
  have j6 : p' * d2 ≤ n2 * q' := by
    have := L' p' q'
    rcases Int.lt_or_le (n2 * q' - p' * d2) 0 with z | z
    · have z1 := Int.mul_neg_of_pos_of_neg hd z
      have z2 : 0 ≤ d2 * (n * q' - p' * d) := Int.mul_nonneg (by omega) (by omega)
      omega
    · omega
  have j7 : n2 * s < r * d2 := by
    have := L r s
    have z2 : 0 < d2 * (r * d - n * s) := Int.mul_pos hd2 (by omega)
    rcases Int.lt_or_le 0 (r * d2 - n2 * s) with z | z
    · omega
    · have : d * (r * d2 - n2 * s) ≤ 0 := by
        have := Int.mul_nonneg (a := d) (b := -(r * d2 - n2 * s)) (by omega) (by omega)
        rw [Int.mul_neg] at this
        omega
      omega
  have M1 : d2 * ((r * d - n * s) * q') = d * ((r * d2 - n2 * s) * q') := by rw [← Int.mul_assoc, L, Int.mul_assoc]
  have M2 : d2 * ((n * q' - p' * d) * s) = d * ((n2 * q' - p' * d2) * s) := by rw [← Int.mul_assoc, L', Int.mul_assoc]
  have lt1 : ∀ x y x2 y2 : Int, d2 * x = d * x2 → d2 * y = d * y2 → (x < y ↔ x2 < y2) := fun x y x2 y2 e1 e2 => by
    constructor
    · intro h
      have := Int.mul_lt_mul_of_pos_left h hd2
      rw [e1, e2] at this
      exact Int.lt_of_mul_lt_mul_left this (by omega)
    · intro h
      have := Int.mul_lt_mul_of_pos_left h hd
      rw [← e1, ← e2] at this
      exact Int.lt_of_mul_lt_mul_left this (by omega)
  have A := lt1 _ _ _ _ M1 M2
  have B := lt1 _ _ _ _ M2 M1
  refine ⟨p', q', r, s, ⟨i1, i2, i3, i4, i5, j6, j7, i8, i9, i10, i11⟩, ?_, ?_⟩
  · rcases hex with z | z
    · exact .inl z
    · right
      have := L' p' q'
      have z1 : n * q' - p' * d = 0 := by omega
      rw [z1, Int.mul_zero] at this
      rcases Int.mul_eq_zero.mp this.symm with z2 | z2 <;> omega
  · rcases c with ⟨c, c1, c2⟩ | ⟨c, c1, c2⟩
    · exact .inl ⟨by omega, c1, c2⟩
    · exact .inr ⟨by omega, c1, c2⟩
end Mine
end
section
namespace Mine
theorem rnd_le {n d k : Int} (h0 : 0 < d) (h : (n.natAbs : Int) < d * k) : ((rnd n d).natAbs : Int) ≤ k := by
  have hk : 0 ≤ k := by
    rcases Int.lt_or_le k 0 with z | z
    · have := Int.mul_neg_of_pos_of_neg h0 z
      omega
    · exact z
  have := rnd_abs (n := n) (d := d) (k := k) h0 hk (by omega) (by omega)
  omega
theorem fdy_of {n d a b : Int} (h0 : 0 < d) (h : IsDbl n d a b) : FDy a b := by
  rcases h with ⟨rfl, rfl, rfl⟩ | ⟨hn0, s, s1, s2, l, u, rfl, rfl⟩
  · refine ⟨0, 0, by decide, ?_⟩
    have : trn 0 b = 0 := by unfold trn; simp
    rw [this]; simp
  · generalize hW : rnd (n * 2 ^ s.toNat) (d * 2 ^ (-s).toNat) = W at *
    have hWb : (W.natAbs : Int) ≤ 2 ^ 53 := by
      rw [← hW]
      refine rnd_le (Int.mul_pos h0 (Int.pow_pos (by decide))) ?_
      rw [Int.natAbs_mul, Int.natAbs_pow]
      simp only [Int.natCast_mul, Int.natCast_pow]
      exact u
    have hb : (0 : Int) < 2 ^ s.toNat := Int.pow_pos (by decide)
    have t := trn_frac (a := W * 2 ^ (-s).toNat) hb
    refine ⟨W * 2 ^ (-s).toNat - trn (W * 2 ^ (-s).toNat) (2 ^ s.toNat) * 2 ^ s.toNat, s.toNat, ?_, rfl⟩
    rcases Int.lt_or_le s 0 with z | z
    · have e : s.toNat = 0 := by omega
      rw [e] at t ⊢
      have := t.1
      have e1 : ((2 : Int) ^ 0).natAbs = 1 := by decide
      omega
    · have e : (-s).toNat = 0 := by omega
      rw [e, Int.pow_zero, Int.mul_one] at t ⊢
      by_cases hw : 0 ≤ W
      · have := t.2.1 hw
        have h1 : 0 ≤ trn W (2 ^ s.toNat) * 2 ^ s.toNat := by
          refine Int.mul_nonneg ?_ (by omega)
          unfold trn; rw [if_pos hw]; exact Int.fdiv_nonneg hw (by omega)
        omega
      · have := t.2.2.1 (by omega)
        have h1 : trn W (2 ^ s.toNat) * 2 ^ s.toNat ≤ 0 := by
          have h2 : trn W (2 ^ s.toNat) = -((-W).fdiv (2 ^ s.toNat)) := by unfold trn; rw [if_neg hw]
          rw [h2, Int.neg_mul]
          have := Int.mul_nonneg (Int.fdiv_nonneg (a := -W) (b := 2 ^ s.toNat) (by omega) (by omega)) (by omega : (0 : Int) ≤ 2 ^ s.toNat)
          omega
        omega
theorem trn_lt {a b k : Int} (h : 0 < b) (hk : (a.natAbs : Int) < k * b) : ((trn a b).natAbs : Int) < k := by
  have key : ∀ x : Int, 0 ≤ x → x < k * b → 0 ≤ x.fdiv b ∧ x.fdiv b < k := fun x h0 h1 => by
    have f := fdiv_fmod_facts x b
    have f2 := f.2.2.1 h
    refine ⟨Int.fdiv_nonneg h0 (by omega), ?_⟩
    have : x.fdiv b * b < k * b := by omega
    exact Int.lt_of_mul_lt_mul_right this (by omega)
  unfold trn
  split
  · have := key a (by omega) (by omega)
    omega
  · have := key (-a) (by omega) (by omega)
    omega
theorem dbl_size {n d a b : Int} (h0 : 0 < d) (hs : (n.natAbs : Int) < 2 ^ 49 * d) (h : IsDbl n d a b) : (a.natAbs : Int) < 2 ^ 50 * b := by
  rcases h with ⟨rfl, rfl, rfl⟩ | ⟨hn0, s, s1, s2, l, u, rfl, rfl⟩
  · simp; omega
  · have z : 0 ≤ s := by
      rcases Int.lt_or_le s 0 with z | z
      · have e : s.toNat = 0 := by omega
        rw [e, Int.pow_zero, Int.mul_one] at l
        have p1 : (1 : Int) ≤ 2 ^ (-s).toNat := by
          have p0 : (0 : Int) < 2 ^ (-s).toNat := Int.pow_pos (by decide)
          omega
        have p2 : d * 1 ≤ d * 2 ^ (-s).toNat := Int.mul_le_mul_of_nonneg_left p1 (by omega)
        omega
      · exact z
    have e : (-s).toNat = 0 := by omega
    rw [e, Int.pow_zero, Int.mul_one, Int.mul_one]
    have hb : (0 : Int) < 2 ^ s.toNat := Int.pow_pos (by decide)
    have r := rnd_le (n := n * 2 ^ s.toNat) (d := d) (k := 2 ^ 49 * 2 ^ s.toNat) h0 (by
      rw [Int.natAbs_mul, Int.natAbs_pow]
      simp only [Int.natCast_mul, Int.natCast_pow]
      have := Int.mul_lt_mul_of_pos_right hs hb
      have e2 : 2 ^ 49 * d * 2 ^ s.toNat = d * (2 ^ 49 * 2 ^ s.toNat) := by grind
      rw [e2] at this
      exact this)
    omega
theorem numP_of {n d a b : Int} (h0 : 0 < d) (bn : intBits n ≤ 60) (bd : intBits d ≤ 60) (hs : (n.natAbs : Int) < 2 ^ 49 * d) (h : DblP n d a b) : NumP a b := by
  have t := trn_lt h.2.1 (dbl_size h0 hs h.1)
  refine ⟨h.2.1, by have := h.2.2.1; omega, by have := h.2.2.2; omega, intBits_le_iff.mpr (by omega), fdy_of h0 h.1⟩
end Mine
end
section
namespace Mine
theorem mul_ge1 {k q z : Int} (e : k = q * z) (k1 : 1 ≤ k) (q1 : 1 ≤ q) : q ≤ k := by
  rcases Int.lt_or_le z 1 with y | y
  · have := Int.mul_nonneg (a := q) (b := -z) (by omega) (by omega)
    rw [Int.mul_neg] at this
    omega
  · have := Int.mul_le_mul_of_nonneg_left y (by omega : 0 ≤ q)
    omega
theorem cop_le {p q r s h k : Int} (e : r * q - p * s = 1 ∨ p * s - r * q = 1) (q1 : 1 ≤ q) (k1 : 1 ≤ k) (hk : h * q = p * k) : q ≤ k := by
  have e1 : k = q * (r * k - s * h) ∨ k = q * (s * h - r * k) := by
    rcases e with e | e
    · left
      have : q * (r * k - s * h) = (r * q) * k - s * (h * q) := by grind
      rw [this, hk]
      have : (r * q) * k - s * (p * k) = (r * q - p * s) * k := by grind
      rw [this, e]; omega
    · right
      have : q * (s * h - r * k) = s * (h * q) - (r * q) * k := by grind
      rw [this, hk]
      have : s * (p * k) - (r * q) * k = (p * s - r * q) * k := by grind
      rw [this, e]; omega
  rcases e1 with e1 | e1
  · exact mul_ge1 e1 k1 q1
  · exact mul_ge1 e1 k1 q1
theorem nfres_low {n d p q : Int} (h : NFRes n d p q) : (∃ r s : Int, r * q - p * s = 1 ∨ p * s - r * q = 1) ∧ 0 ≤ p ∧ p ≤ q ∧ 1 ≤ q ∧ q ≤ 1000 ∧ (q ≠ 1 → 0 < p ∧ p < q) := by
  obtain ⟨p', q', r, s, ⟨i1, i2, i3, i4, i5, i6, i7, i8, i9, i10, i11⟩, hex, c⟩ := h
  rcases c with ⟨_, rfl, rfl⟩ | ⟨_, rfl, rfl⟩
  · refine ⟨⟨p', q', .inr (by omega)⟩, by omega, by omega, by omega, by omega, fun hq => ⟨?_, ?_⟩⟩
    · rcases Int.lt_or_le 0 p with z | z
      · exact z
      · have : p = 0 := by omega
        subst this
        have := Int.mul_nonneg i8 (by omega : 0 ≤ q)
        omega
    · rcases Int.lt_or_le p q with z | z
      · exact z
      · have : p = q := by omega
        subst this
        have e : p * (q' - p') = 1 := by rw [Int.mul_sub, Int.mul_comm p p']; exact i5
        rcases Int.lt_or_le 1 p with y | y
        · rcases Int.lt_or_le (q' - p') 1 with x | x
          · have := Int.mul_nonneg (a := p) (b := -(q' - p')) (by omega) (by omega)
            rw [Int.mul_neg] at this
            omega
          · have := Int.mul_le_mul_of_nonneg_left x (by omega : 0 ≤ p)
            omega
        · omega
  · refine ⟨⟨r, s, .inl i5⟩, by omega, by omega, by omega, by omega, fun hq => ⟨?_, ?_⟩⟩
    · rcases Int.lt_or_le 0 p with z | z
      · exact z
      · have : p = 0 := by omega
        subst this
        rw [Int.zero_mul, Int.sub_zero] at i5
        rcases Int.lt_or_le r 1 with y | y
        · have := Int.mul_nonneg (a := -r) (b := q) (by omega) (by omega)
          rw [Int.neg_mul] at this
          omega
        · have := Int.mul_le_mul_of_nonneg_right y (by omega : 0 ≤ q)
          omega
    · rcases Int.lt_or_le p q with z | z
      · exact z
      · have : p = q := by omega
        subst this
        have e : p * (r - s) = 1 := by rw [Int.mul_sub, Int.mul_comm p r]; exact i5
        rcases Int.lt_or_le 1 p with y | y
        · rcases Int.lt_or_le (r - s) 1 with x | x
          · have := Int.mul_nonneg (a := p) (b := -(r - s)) (by omega) (by omega)
            rw [Int.mul_neg] at this
            omega
          · have := Int.mul_le_mul_of_nonneg_left x (by omega : 0 ≤ p)
            omega
        · omega
/-- a neighbour's distance, on the one side: X is h/k's, g is p/q's -/
theorem nfres_best {n d p q h k : Int} (hd : 0 < d) (N : NFRes n d p q) (k1 : 1 ≤ k) (k2 : k ≤ 1000) :
    ((n * q - p * d).natAbs : Int) * k ≤ ((n * k - h * d).natAbs : Int) * q ∧ (((n * k - h * d).natAbs : Int) * q = ((n * q - p * d).natAbs : Int) * k → q ≤ k) := by
  obtain ⟨p', q', r, s, ⟨i1, i2, i3, i4, i5, i6, i7, i8, i9, i10, i11⟩, hex, c⟩ := N
  -- where h/k lies
  have side : h * q' ≤ p' * k ∨ r * k ≤ h * s ∨ p' * d = n * q' := by
    rcases hex with z | z
    · rcases Int.lt_or_le (p' * k) (h * q') with y | y
      · rcases Int.lt_or_le (h * s) (r * k) with x | x
        · have e : k = q' * (r * k - h * s) + s * (h * q' - p' * k) := by
            have : q' * (r * k - h * s) + s * (h * q' - p' * k) = (r * q' - p' * s) * k := by grind
            rw [this, i5]; omega
          have a1 := Int.mul_le_mul_of_nonneg_left (show 1 ≤ r * k - h * s by omega) (show 0 ≤ q' by omega)
          have a2 := Int.mul_le_mul_of_nonneg_left (show 1 ≤ h * q' - p' * k by omega) (show 0 ≤ s by omega)
          omega
        · exact .inr (.inl x)
      · exact .inl y
    · exact .inr (.inr z)
  have elo : ((n * q' - p' * d).natAbs : Int) = n * q' - p' * d := by omega
  have ehi : ((n * s - r * d).natAbs : Int) = r * d - n * s := by omega
  -- the least distance
  have can : ∀ x y z : Int, 0 < z → x * z ≤ y * z → x ≤ y := fun x y z hz h => Int.le_of_mul_le_mul_right h hz
  rcases side with sd | sd | sd
  · -- below
    have g0 : (n * q' - p' * d) * k ≤ (n * k - h * d) * q' := by
      have := Int.mul_le_mul_of_nonneg_right sd (show 0 ≤ d by omega)
      have e1 : (n * q' - p' * d) * k = n * q' * k - p' * k * d := by grind
      have e2 : (n * k - h * d) * q' = n * q' * k - h * q' * d := by grind
      omega
    have gp : 0 ≤ n * k - h * d := by
      refine can 0 _ q' (by omega) ?_
      have := Int.mul_nonneg (a := n * q' - p' * d) (b := k) (by omega) (by omega)
      omega
    have egap : ((n * k - h * d).natAbs : Int) = n * k - h * d := by omega
    have eq0 : (n * k - h * d) * q' = (n * q' - p' * d) * k → q' ≤ k := fun e => by
      have e1 : (n * q' - p' * d) * k = n * q' * k - p' * k * d := by grind
      have e2 : (n * k - h * d) * q' = n * q' * k - h * q' * d := by grind
      have e3 : h * q' * d = p' * k * d := by omega
      exact cop_le (.inl i5) i1 k1 (Int.eq_of_mul_eq_mul_right (by omega) e3)
    rcases c with ⟨c, rfl, rfl⟩ | ⟨c, rfl, rfl⟩
    · rw [egap, ehi]
      have lohi : (p * d - n * q) * q' ≤ (n * q' - p' * d) * q := by omega
      have t1 : (n * q' - p' * d) * k * q ≤ (n * k - h * d) * q' * q := Int.mul_le_mul_of_nonneg_right g0 (by omega)
      have t2 := Int.mul_le_mul_of_nonneg_right lohi (show 0 ≤ k by omega)
      have t3 : (n * q' - p' * d) * k * q = (n * q' - p' * d) * q * k := by grind
      have t4 : (n * k - h * d) * q' * q = (n * k - h * d) * q * q' := by grind
      have t5 : (p * d - n * q) * q' * k = (p * d - n * q) * k * q' := by grind
      refine ⟨can _ _ q' (by omega) (by omega), fun e => ?_⟩
      have t6 := congrArg (· * q') e
      have u1 : (n * q' - p' * d) * k * q = (n * k - h * d) * q' * q := by omega
      have u2 := eq0 (Int.eq_of_mul_eq_mul_right (by omega) u1).symm
      have u3 : (p * d - n * q) * q' * k = (n * q' - p' * d) * q * k := by omega
      have u4 := Int.eq_of_mul_eq_mul_right (by omega) u3
      omega
    · rw [egap, elo]
      exact ⟨g0, eq0⟩
  · -- above
    have g0 : (r * d - n * s) * k ≤ (h * d - n * k) * s := by
      have := Int.mul_le_mul_of_nonneg_right sd (show 0 ≤ d by omega)
      have e1 : (r * d - n * s) * k = r * k * d - n * s * k := by grind
      have e2 : (h * d - n * k) * s = h * s * d - n * s * k := by grind
      omega
    have gp : 0 ≤ h * d - n * k := by
      refine can 0 _ s (by omega) ?_
      have := Int.mul_nonneg (a := r * d - n * s) (b := k) (by omega) (by omega)
      omega
    have egap : ((n * k - h * d).natAbs : Int) = h * d - n * k := by omega
    have eq0 : (h * d - n * k) * s = (r * d - n * s) * k → s ≤ k := fun e => by
      have e1 : (r * d - n * s) * k = r * k * d - n * s * k := by grind
      have e2 : (h * d - n * k) * s = h * s * d - n * s * k := by grind
      have e3 : h * s * d = r * k * d := by omega
      exact cop_le (r := p') (s := q') (.inr (by omega)) i2 k1 (Int.eq_of_mul_eq_mul_right (by omega) e3)
    rcases c with ⟨c, rfl, rfl⟩ | ⟨c, rfl, rfl⟩
    · rw [egap, ehi]
      exact ⟨g0, eq0⟩
    · rw [egap, elo]
      have lohi : (n * q - p * d) * s ≤ (r * d - n * s) * q := by omega
      have t1 : (r * d - n * s) * k * q ≤ (h * d - n * k) * s * q := Int.mul_le_mul_of_nonneg_right g0 (by omega)
      have t2 := Int.mul_le_mul_of_nonneg_right lohi (show 0 ≤ k by omega)
      have t3 : (r * d - n * s) * k * q = (r * d - n * s) * q * k := by grind
      have t4 : (h * d - n * k) * s * q = (h * d - n * k) * q * s := by grind
      have t5 : (n * q - p * d) * s * k = (n * q - p * d) * k * s := by grind
      refine ⟨can _ _ s (by omega) (by omega), fun e => ?_⟩
      have t6 := congrArg (· * s) e
      have u1 : (r * d - n * s) * k * q = (h * d - n * k) * s * q := by omega
      have u2 := eq0 (Int.eq_of_mul_eq_mul_right (by omega) u1).symm
      have u3 : (n * q - p * d) * s * k = (r * d - n * s) * q * k := by omega
      have u4 := Int.eq_of_mul_eq_mul_right (by omega) u3
      omega
  · -- the quotient itself
    have z1 : (n * q' - p' * d) = 0 := by omega
    rcases c with ⟨c, rfl, rfl⟩ | ⟨c, rfl, rfl⟩
    · exfalso
      rw [z1, Int.zero_mul] at c
      have := Int.mul_pos (show 0 < p * d - n * q by omega) (show 0 < q' by omega)
      omega
    · rw [elo, z1, Int.zero_mul]
      refine ⟨Int.mul_nonneg (by omega) (by omega), fun e => ?_⟩
      have e0 : ((n * k - h * d).natAbs : Int) = 0 := by
        rcases Int.mul_eq_zero.mp e with y | y
        · exact y
        · omega
      have e1 : n * k = h * d := by omega
      refine cop_le (.inl i5) i1 k1 (h := h) ?_
      have e2 : p * d * k = n * q * k := by rw [sd]
      have e3 : h * q * d = p * k * d := by
        have : h * q * d = h * d * q := by grind
        rw [this, ← e1]; grind
      exact Int.eq_of_mul_eq_mul_right (by omega) e3
theorem rnd_err {n d : Int} (h0 : 0 < d) : 2 * ((rnd n d * d - n).natAbs : Int) ≤ d := by
  have f := fdiv_fmod_facts n d
  have f2 := f.2.2.1 h0
  unfold rnd
  split
  · rw [Int.add_mul]; omega
  · omega
/-- how far the double lies from the quotient -/
theorem dbl_err {n d a b : Int} (h0 : 0 < d) (h : DblP n d a b) : ((n * b - a * d).natAbs : Int) * 2 ^ 53 ≤ (n.natAbs : Int) * b := by
  rcases h.1 with ⟨rfl, rfl, rfl⟩ | ⟨hn0, s, s1, s2, l, u, rfl, rfl⟩
  · simp
  · have hd : 0 < d * 2 ^ (-s).toNat := Int.mul_pos h0 (Int.pow_pos (by decide))
    have r := rnd_err (n := n * 2 ^ s.toNat) hd
    have e : rnd (n * 2 ^ s.toNat) (d * 2 ^ (-s).toNat) * 2 ^ (-s).toNat * d = rnd (n * 2 ^ s.toNat) (d * 2 ^ (-s).toNat) * (d * 2 ^ (-s).toNat) := by grind
    rw [e]
    omega
end Mine
end
section
namespace Mine
/-- what the law's own rounding hands back -/
def LNear (n d a b : Int) : Prop := ∃ (pl H k : Int), pl = (n * 2 ^ 200).fdiv d ∧ k = intBits pl - 53 ∧ 1 ≤ k ∧ b = 2 ^ 200 ∧ a = H * 2 ^ k.toNat ∧
  (((2 ^ k.toNat < 2 * pl.fmod (2 ^ k.toNat) ∨ (2 * pl.fmod (2 ^ k.toNat) = 2 ^ k.toNat ∧ (0 < (n * 2 ^ 200).fmod d ∨ (pl.fdiv (2 ^ k.toNat)).fmod 2 = 1))) ∧ H = pl.fdiv (2 ^ k.toNat) + 1) ∨
   (¬ (2 ^ k.toNat < 2 * pl.fmod (2 ^ k.toNat) ∨ (2 * pl.fmod (2 ^ k.toNat) = 2 ^ k.toNat ∧ (0 < (n * 2 ^ 200).fmod d ∨ (pl.fdiv (2 ^ k.toNat)).fmod 2 = 1))) ∧ H = pl.fdiv (2 ^ k.toNat)))
theorem fdiv_uni {x y q r : Int} (h0 : 0 ≤ r) (h1 : r < y) (e : x = q * y + r) : x.fdiv y = q ∧ x.fmod y = r := by
  have f := fdiv_fmod_facts x y
  have f2 := f.2.2.1 (by omega)
  have e1 : (x.fdiv y - q) * y = r - x.fmod y := by rw [Int.sub_mul]; omega
  have e2 : x.fdiv y - q = 0 := by
    rcases Int.lt_or_le (x.fdiv y - q) 0 with z | z
    · have := Int.mul_le_mul_of_nonneg_right (show x.fdiv y - q ≤ -1 by omega) (show 0 ≤ y by omega)
      omega
    · rcases Int.lt_or_le 0 (x.fdiv y - q) with w | w
      · have := Int.mul_le_mul_of_nonneg_right (show 1 ≤ x.fdiv y - q by omega) (show 0 ≤ y by omega)
        omega
      · omega
  rw [e2] at e1
  omega
theorem rnd_scale {x y c : Int} (hy : 0 < y) (hc : 0 < c) : rnd (x * c) (y * c) = rnd x y := by
  have f := fdiv_fmod_facts x y
  have f2 := f.2.2.1 hy
  have a1 : 0 ≤ x.fmod y * c := Int.mul_nonneg f2.1 (by omega)
  have a2 := Int.mul_lt_mul_of_pos_right f2.2 hc
  have g := fdiv_uni (x := x * c) (y := y * c) (q := x.fdiv y) (r := x.fmod y * c) a1 a2 (by
    have := congrArg (· * c) f.1
    simp only [Int.add_mul] at this
    rw [← this, Int.mul_assoc])
  unfold rnd
  rw [g.1, g.2]
  generalize hm : x.fmod y = m at *
  have c1 : 2 * (m * c) > y * c ↔ 2 * m > y := by
    constructor
    · intro h
      refine Int.lt_of_mul_lt_mul_right (a := c) ?_ (by omega)
      have : 2 * m * c = 2 * (m * c) := by grind
      omega
    · intro h
      have := Int.mul_lt_mul_of_pos_right h hc
      have e : 2 * m * c = 2 * (m * c) := by grind
      omega
  have c2 : 2 * (m * c) = y * c ↔ 2 * m = y := by
    constructor
    · intro h
      refine Int.eq_of_mul_eq_mul_right (a := c) (by omega) ?_
      have : 2 * m * c = 2 * (m * c) := by grind
      omega
    · intro h
      rw [← h]; grind
  simp only [c1, c2]
theorem rnd_same {x y x2 y2 : Int} (hy : 0 < y) (hy2 : 0 < y2) (e : x * y2 = x2 * y) : rnd x y = rnd x2 y2 := by
  rw [← rnd_scale hy hy2, ← rnd_scale hy2 hy, e, Int.mul_comm y y2]
theorem rnd_neg {x y : Int} (hy : 0 < y) : rnd (-x) y = -rnd x y := by
  have f := fdiv_fmod_facts x y
  have f2 := f.2.2.1 hy
  by_cases h0 : x.fmod y = 0
  · have g := fdiv_uni (x := -x) (y := y) (q := -x.fdiv y) (r := 0) (by omega) (by omega) (by rw [Int.neg_mul]; omega)
    unfold rnd
    rw [g.1, g.2, h0, if_neg (by omega), if_neg (by omega)]
  · have g := fdiv_uni (x := -x) (y := y) (q := -x.fdiv y - 1) (r := y - x.fmod y) (by omega) (by omega) (by rw [Int.sub_mul, Int.neg_mul]; omega)
    unfold rnd
    rw [g.1, g.2]
    have p := fdiv_fmod_facts (x.fdiv y) 2
    have p2 := p.2.2.1 (by decide)
    have q := fdiv_fmod_facts (-x.fdiv y - 1) 2
    have q2 := q.2.2.1 (by decide)
    split <;> split <;> omega
theorem bits_neg (a : Int) : intBits (-a) = intBits a := by
  refine Nat.le_antisymm (intBits_le_iff.mpr ?_) (intBits_le_iff.mpr ?_)
  · rw [Int.natAbs_neg]; exact bits_hi a
  · rw [← Int.natAbs_neg]; exact bits_hi (-a)
theorem dbl_neg {n d a b : Int} (h0 : 0 < d) (h : DblP (-n) d a b) : DblP n d (-a) b := by
  obtain ⟨h1, h2, h3, h4⟩ := h
  rw [bits_neg] at h3
  refine ⟨?_, h2, by rw [bits_neg]; exact h3, h4⟩
  rcases h1 with ⟨e1, e2, e3⟩ | ⟨hn0, s, s1, s2, l, u, e1, e2⟩
  · exact .inl ⟨by omega, by omega, e3⟩
  · refine .inr ⟨by omega, s, s1, s2, ?_, ?_, ?_, e2⟩
    · rw [Int.natAbs_neg] at l; exact l
    · rw [Int.natAbs_neg] at u; exact u
    · rw [e1, Int.neg_mul, rnd_neg (Int.mul_pos h0 (Int.pow_pos (by decide))), Int.neg_mul, Int.neg_neg]
theorem dbl_pos {n d a b : Int} (h0 : 0 < d) (hn : 0 < n) (h : DblP n d a b) : 0 < a := by
  rcases h.1 with ⟨rfl, _, _⟩ | ⟨hn0, s, s1, s2, l, u, e1, e2⟩
  · omega
  · have en : (n.natAbs : Int) = n := by omega
    rw [en] at l
    have hD : 0 < d * 2 ^ (-s).toNat := Int.mul_pos h0 (Int.pow_pos (by decide))
    have f := fdiv_fmod_facts (n * 2 ^ s.toNat) (d * 2 ^ (-s).toNat)
    have f2 := f.2.2.1 hD
    have : 1 ≤ (n * 2 ^ s.toNat).fdiv (d * 2 ^ (-s).toNat) := by
      rcases Int.lt_or_le ((n * 2 ^ s.toNat).fdiv (d * 2 ^ (-s).toNat)) 1 with z | z
      · have := Int.mul_le_mul_of_nonneg_right (show (n * 2 ^ s.toNat).fdiv (d * 2 ^ (-s).toNat) ≤ 0 by omega) (show 0 ≤ d * 2 ^ (-s).toNat by omega)
        omega
      · exact z
    rw [e1]
    refine Int.mul_pos ?_ (Int.pow_pos (by decide))
    unfold rnd
    split <;> omega
theorem lnear_rnd {X d pl k : Int} (h0 : 0 < d) (e : pl = X.fdiv d) (k1 : 1 ≤ k) {H : Int}
    (c : ((2 ^ k.toNat < 2 * pl.fmod (2 ^ k.toNat) ∨ (2 * pl.fmod (2 ^ k.toNat) = 2 ^ k.toNat ∧ (0 < X.fmod d ∨ (pl.fdiv (2 ^ k.toNat)).fmod 2 = 1))) ∧ H = pl.fdiv (2 ^ k.toNat) + 1) ∨
   (¬ (2 ^ k.toNat < 2 * pl.fmod (2 ^ k.toNat) ∨ (2 * pl.fmod (2 ^ k.toNat) = 2 ^ k.toNat ∧ (0 < X.fmod d ∨ (pl.fdiv (2 ^ k.toNat)).fmod 2 = 1))) ∧ H = pl.fdiv (2 ^ k.toNat))) : rnd X (d * 2 ^ k.toNat) = H := by
  obtain ⟨m, hm⟩ : ∃ m, (2 : Int) ^ k.toNat = 2 * m ∧ 0 < m := by
    refine ⟨2 ^ (k.toNat - 1), ?_, Int.pow_pos (by decide)⟩
    have : k.toNat = (k.toNat - 1) + 1 := by omega
    rw [this, Int.pow_succ, Nat.add_sub_cancel, Int.mul_comm]
  obtain ⟨hm, m0⟩ := hm
  rw [hm] at c ⊢
  have f := fdiv_fmod_facts X d
  have f2 := f.2.2.1 h0
  have g := fdiv_fmod_facts pl (2 * m)
  have g2 := g.2.2.1 (by omega)
  rw [← e] at f
  generalize X.fmod d = rest at *
  generalize pl.fmod (2 * m) = tl at *
  generalize hh : pl.fdiv (2 * m) = hd at *
  have t1 : tl * d ≤ (2 * m - 1) * d := Int.mul_le_mul_of_nonneg_right (by omega) (by omega)
  have t0 : 0 ≤ tl * d := Int.mul_nonneg g2.1 (by omega)
  have e1 : (2 * m - 1) * d = d * (2 * m) - d := by grind
  have u := fdiv_uni (x := X) (y := d * (2 * m)) (q := hd) (r := tl * d + rest) (by omega) (by omega) (by
    have : pl * d = hd * (d * (2 * m)) + tl * d := by rw [← g.1]; grind
    omega)
  unfold rnd
  rw [u.1, u.2]
  have big : 2 * m < 2 * tl → 2 * (tl * d + rest) > d * (2 * m) := fun h => by
    have := Int.mul_le_mul_of_nonneg_right (show m + 1 ≤ tl by omega) (show 0 ≤ d by omega)
    have e2 : (m + 1) * d = m * d + d := by grind
    have e3 : d * (2 * m) = 2 * (m * d) := by grind
    omega
  have small : 2 * tl < 2 * m → 2 * (tl * d + rest) < d * (2 * m) := fun h => by
    have := Int.mul_le_mul_of_nonneg_right (show tl ≤ m - 1 by omega) (show 0 ≤ d by omega)
    have e2 : (m - 1) * d = m * d - d := by grind
    have e3 : d * (2 * m) = 2 * (m * d) := by grind
    omega
  have mid : 2 * tl = 2 * m → 2 * (tl * d + rest) = d * (2 * m) + 2 * rest := fun h => by
    have : tl = m := by omega
    subst this
    have e3 : d * (2 * tl) = 2 * (tl * d) := by grind
    omega
  rcases Int.lt_or_le (2 * m) (2 * tl) with z | z
  · have := big z
    rw [if_pos (by omega)]
    omega
  · rcases Int.lt_or_le (2 * tl) (2 * m) with y | y
    · have := small y
      rw [if_neg (by omega)]
      omega
    · have := mid (by omega)
      split <;> omega
theorem lnear_eq {n d A B a b : Int} (h0 : 0 < d) (hn : 0 < n) (L : LNear n d A B) (h : DblP n d a b) : A * b = a * B ∧ 0 < B := by
  obtain ⟨pl, H, k, e1, e2, k1, rfl, rfl, c⟩ := L
  refine ⟨?_, by decide⟩
  have R := lnear_rnd h0 e1 k1 c
  rcases h.1 with ⟨rfl, _, _⟩ | ⟨hn0, s, s1, s2, l, u, ea, eb⟩
  · omega
  have en : (n.natAbs : Int) = n := by omega
  rw [en] at l u
  -- pl's size
  have f := fdiv_fmod_facts (n * 2 ^ 200) d
  have f2 := f.2.2.1 h0
  rw [← e1] at f
  have hpl : pl ≠ 0 := by
    intro h
    rw [h] at e2
    have : intBits (0 : Int) = 0 := by decide
    omega
  have pl0 : 0 < pl := by
    have := Int.fdiv_nonneg (a := n * 2 ^ 200) (b := d) (Int.mul_nonneg (by omega) (by decide)) (by omega)
    omega
  have q1 := bits_lo hpl
  have q2 := bits_hi pl
  have q3 : intBits pl = k.toNat + 53 := by omega
  rw [q3] at q1 q2
  have q1' : (2 : Int) ^ k.toNat * 2 ^ 52 ≤ pl := by
    have : (2 : Int) ^ k.toNat * 2 ^ 52 = ((2 ^ (k.toNat + 53 - 1) : Nat) : Int) := by
      rw [← Int.pow_add, ← pow_cast]; rfl
    rw [this]; omega
  have q2' : pl < (2 : Int) ^ k.toNat * 2 ^ 53 := by
    have : (2 : Int) ^ k.toNat * 2 ^ 53 = ((2 ^ (k.toNat + 53) : Nat) : Int) := by
      rw [← Int.pow_add, ← pow_cast]
    rw [this]; omega
  have r1 : d * 2 ^ k.toNat * 2 ^ 52 ≤ n * 2 ^ 200 := by
    have := Int.mul_le_mul_of_nonneg_right q1' (show 0 ≤ d by omega)
    have e : d * 2 ^ k.toNat * 2 ^ 52 = 2 ^ k.toNat * 2 ^ 52 * d := by grind
    omega
  have r2 : n * 2 ^ 200 < d * 2 ^ k.toNat * 2 ^ 53 := by
    have := Int.mul_le_mul_of_nonneg_right (show pl + 1 ≤ 2 ^ k.toNat * 2 ^ 53 by omega) (show 0 ≤ d by omega)
    have e : d * 2 ^ k.toNat * 2 ^ 53 = 2 ^ k.toNat * 2 ^ 53 * d := by grind
    rw [Int.add_mul] at this
    omega
  -- the same shift
  have hp : ∀ j : Nat, (0 : Int) < 2 ^ j := fun j => Int.pow_pos (by decide)
  have le_of : ∀ i j : Nat, (2 : Int) ^ i < 2 ^ j → i < j := fun i j h => by
    rw [pow_cast, pow_cast] at h
    exact (Nat.pow_lt_pow_iff_right (by decide : 1 < 2)).mp (Int.ofNat_lt.mp h)
  have sk : s.toNat + k.toNat = 200 + (-s).toNat := by
    have w1 : (2 : Int) ^ (s.toNat + k.toNat) < 2 ^ (200 + (-s).toNat + 1) := by
      have a1 := Int.mul_le_mul_of_nonneg_right r1 (Int.le_of_lt (hp s.toNat))
      have a2 := Int.mul_lt_mul_of_pos_right u (hp 200)
      have a3 : n * 2 ^ 200 * 2 ^ s.toNat = n * 2 ^ s.toNat * 2 ^ 200 := by grind
      have a4 : d * 2 ^ k.toNat * 2 ^ 52 * 2 ^ s.toNat = 2 ^ (s.toNat + k.toNat) * (d * 2 ^ 52) := by rw [Int.pow_add]; grind
      have a5 : d * 2 ^ (-s).toNat * 2 ^ 53 * 2 ^ 200 = 2 ^ (200 + (-s).toNat + 1) * (d * 2 ^ 52) := by rw [Int.pow_add, Int.pow_add]; grind
      exact Int.lt_of_mul_lt_mul_right (a := d * 2 ^ 52) (by omega) (by omega)
    have w2 : (2 : Int) ^ (200 + (-s).toNat) < 2 ^ (s.toNat + k.toNat + 1) := by
      have a1 := Int.mul_le_mul_of_nonneg_right l (Int.le_of_lt (hp 200))
      have a2 := Int.mul_lt_mul_of_pos_right r2 (hp s.toNat)
      have a3 : n * 2 ^ 200 * 2 ^ s.toNat = n * 2 ^ s.toNat * 2 ^ 200 := by grind
      have a4 : d * 2 ^ k.toNat * 2 ^ 53 * 2 ^ s.toNat = 2 ^ (s.toNat + k.toNat + 1) * (d * 2 ^ 52) := by rw [Int.pow_add, Int.pow_add]; grind
      have a5 : d * 2 ^ (-s).toNat * 2 ^ 52 * 2 ^ 200 = 2 ^ (200 + (-s).toNat) * (d * 2 ^ 52) := by rw [Int.pow_add]; grind
      exact Int.lt_of_mul_lt_mul_right (a := d * 2 ^ 52) (by omega) (by omega)
    have := le_of _ _ w1
    have := le_of _ _ w2
    omega
  have e3 : (2 : Int) ^ s.toNat * 2 ^ k.toNat = 2 ^ 200 * 2 ^ (-s).toNat := by rw [← Int.pow_add, ← Int.pow_add, sk]
  have R2 : rnd (n * 2 ^ s.toNat) (d * 2 ^ (-s).toNat) = H := by
    rw [← R]
    refine rnd_same (Int.mul_pos h0 (hp _)) (Int.mul_pos h0 (hp _)) ?_
    have x1 : n * 2 ^ s.toNat * (d * 2 ^ k.toNat) = n * d * (2 ^ s.toNat * 2 ^ k.toNat) := by grind
    have x2 : n * 2 ^ 200 * (d * 2 ^ (-s).toNat) = n * d * (2 ^ 200 * 2 ^ (-s).toNat) := by grind
    rw [x1, x2, e3]
  rw [ea, eb, R2]
  have x1 : H * 2 ^ k.toNat * 2 ^ s.toNat = H * (2 ^ s.toNat * 2 ^ k.toNat) := by grind
  have x2 : H * 2 ^ (-s).toNat * 2 ^ 200 = H * (2 ^ 200 * 2 ^ (-s).toNat) := by grind
  rw [x1, x2, e3]
/-- c/q is what is said of a/b (not below 0) -/
def Tell (a b c q : Int) : Prop := ∃ p, NFRes (a - a.fdiv b * b) b p q ∧ c = a.fdiv b * q + p
theorem tell_best {a b c q h k : Int} (hb : 0 < b) (T : Tell a b c q) (k1 : 1 ≤ k) (k2 : k ≤ 1000) :
    ((a * q - c * b).natAbs : Int) * k ≤ ((a * k - h * b).natAbs : Int) * q ∧ (((a * k - h * b).natAbs : Int) * q = ((a * q - c * b).natAbs : Int) * k → q ≤ k) := by
  obtain ⟨p, N, rfl⟩ := T
  have := nfres_best (h := h - a.fdiv b * k) hb N k1 k2
  have e1 : (a - a.fdiv b * b) * q - p * b = a * q - (a.fdiv b * q + p) * b := by grind
  have e2 : (a - a.fdiv b * b) * k - (h - a.fdiv b * k) * b = a * k - h * b := by grind
  rw [e1, e2] at this
  exact this
theorem tell_q {a b c q : Int} (T : Tell a b c q) : 1 ≤ q ∧ q ≤ 1000 := by
  obtain ⟨p, N, rfl⟩ := T
  have := nfres_low N
  exact ⟨this.2.2.2.1, this.2.2.2.2.1⟩
theorem tell_back {p0 q0 a b c q : Int} (h1 : 1 ≤ q0) (h2 : q0 ≤ 1000) (h3 : 0 ≤ p0) (h4 : p0 < 1000 * q0) (D : DblP p0 q0 a b) (T : Tell a b c q) : c * q0 = p0 * q := by
  have hb := D.2.1
  have B := (tell_best (h := p0) hb T h1 h2).1
  have E := dbl_err (by omega) D
  have Q := tell_q T
  have en : (p0.natAbs : Int) = p0 := by omega
  have e0 : ((p0 * b - a * q0).natAbs : Int) = ((a * q0 - p0 * b).natAbs : Int) := by omega
  rw [en, e0] at E
  have e1 : p0 * b ≤ 1000000 * b := Int.mul_le_mul_of_nonneg_right (by omega) (by omega)
  have g1 : ((a * q0 - p0 * b).natAbs : Int) * 2 ^ 53 ≤ 1000000 * b := by omega
  generalize hG : ((a * q0 - p0 * b).natAbs : Int) = G at *
  generalize hO : ((a * q - c * b).natAbs : Int) = O at *
  have G0 : 0 ≤ G := by omega
  have O0 : 0 ≤ O := by omega
  have gq : G * q ≤ G * 1000 := Int.mul_le_mul_of_nonneg_left Q.2 G0
  have id : (c * q0 - p0 * q) * b = (a * q0 - p0 * b) * q - (a * q - c * b) * q0 := by grind
  have x1 : (((a * q0 - p0 * b) * q).natAbs : Int) = G * q := by
    rw [Int.natAbs_mul, Int.natCast_mul, hG]
    have : (q.natAbs : Int) = q := by omega
    rw [this]
  have x2 : (((a * q - c * b) * q0).natAbs : Int) = O * q0 := by
    rw [Int.natAbs_mul, Int.natCast_mul, hO]
    have : (q0.natAbs : Int) = q0 := by omega
    rw [this]
  generalize hz : c * q0 - p0 * q = z at id
  have z0 : z = 0 := by
    have y1 : ((z * b).natAbs : Int) ≤ 2 * (G * 1000) := by omega
    rw [Int.natAbs_mul, Int.natCast_mul] at y1
    have eb : (b.natAbs : Int) = b := by omega
    rw [eb] at y1
    rcases Int.lt_or_le (z.natAbs : Int) 1 with w | w
    · omega
    · have := Int.mul_le_mul_of_nonneg_right w (show 0 ≤ b by omega)
      omega
  omega
theorem scale_gap {a b A B : Int} (hb : 0 < b) (hB : 0 < B) (e : A * b = a * B) (x k : Int) : ((A * k - x * B).natAbs : Int) * b = ((a * k - x * b).natAbs : Int) * B := by
  have : (A * k - x * B) * b = (a * k - x * b) * B := by
    have h1 : (A * k - x * B) * b = A * b * k - x * B * b := by grind
    rw [h1, e]; grind
  have := congrArg Int.natAbs this
  rw [Int.natAbs_mul, Int.natAbs_mul] at this
  have eb : (b.natAbs : Int) = b := by omega
  have eB : (B.natAbs : Int) = B := by omega
  rw [← eb, ← eB, ← Int.natCast_mul, ← Int.natCast_mul, eb, eB, this]
/-- no other is nearer -/
theorem tell_gap {a b A B c q h k : Int} (hb : 0 < b) (hB : 0 < B) (e : A * b = a * B) (T : Tell a b c q) (k1 : 1 ≤ k) (k2 : k ≤ 1000) :
    ((A * q - c * B).natAbs : Int) * k ≤ ((A * k - h * B).natAbs : Int) * q ∧ (((A * k - h * B).natAbs : Int) * q = ((A * q - c * B).natAbs : Int) * k → q ≤ k) := by
  have t := tell_best (h := h) hb T k1 k2
  have s1 := scale_gap hb hB e c q
  have s2 := scale_gap hb hB e h k
  generalize ((A * q - c * B).natAbs : Int) = O at *
  generalize ((A * k - h * B).natAbs : Int) = G at *
  generalize ((a * q - c * b).natAbs : Int) = o at *
  generalize ((a * k - h * b).natAbs : Int) = g at *
  have y1 : O * k * b = o * k * B := by
    have : O * k * b = O * b * k := by grind
    rw [this, s1]; grind
  have y2 : G * q * b = g * q * B := by
    have : G * q * b = G * b * q := by grind
    rw [this, s2]; grind
  constructor
  · have := Int.mul_le_mul_of_nonneg_right t.1 (show 0 ≤ B by omega)
    exact Int.le_of_mul_le_mul_right (a := b) (by omega) hb
  · intro h
    refine t.2 (Int.eq_of_mul_eq_mul_right (a := B) (by omega) ?_)
    rw [← y1, ← y2, h]
theorem tell_off {a b A B c q : Int} (hb : 0 < b) (hB : 0 < B) (e : A * b = a * B) (T : Tell a b c q) : ((A * q - c * B).natAbs : Int) * 2000 ≤ B * q := by
  have f := fdiv_fmod_facts (A * 2000 + B) (B * 2)
  have f2 := f.2.2.1 (by omega)
  have t := (tell_gap (h := (A * 2000 + B).fdiv (B * 2)) (k := 1000) hb hB e T (by decide) (by decide)).1
  have Q := tell_q T
  generalize (A * 2000 + B).fdiv (B * 2) = w at *
  have g : ((A * 1000 - w * B).natAbs : Int) * 2 ≤ B := by
    have : w * (B * 2) = w * B * 2 := by grind
    omega
  have := Int.mul_le_mul_of_nonneg_right g (show 0 ≤ q by omega)
  have e1 : ((A * 1000 - w * B).natAbs : Int) * 2 * q = ((A * 1000 - w * B).natAbs : Int) * q * 2 := by grind
  omega
end Mine
end
section
namespace Mine
section
variable {prog : Program} {w : World} {A : Around} {E : Value → Shared → Prop} {s : Shared} {K : Frag} {x C f : Addr} {ox : Obj} {od : Option Obj}
def IntBack (Q : Value → Shared → Prop) (v : Value) (s' : Shared) : Prop := match v with
  | .int n t => Q (.int n t) s'
  | _ => False
theorem int_inst {Q : Value → Shared → Prop} (X : K.In s.heap) (I : InstAt s.heap x ox C od) (hs : findIn K (.ref C) "__int__" = some (some (.ref f))) (hf : isFn K (.ref f) = true)
    (h : wpAny (model prog w) A.in1.in1 (call (.ref f) [.ref x]) (IntBack Q) E s) : wpAny (model prog w) A (call (.type "int") [.ref x]) Q E s := by
  refine callType_codes (T := "int") (Bi := Builtin.«object.__init__») (Q₁ := fun r s₁ => ∃ y u, r = .int y u ∧ Q r s₁) PySem.F.called_int (PySem.F.typeCall_int_1 _) PySem.F.entry_object_init ?_ ?_
  · refine codeAny_of_tree ?_
    show wpAny _ A.in1.in1 (do checkBuiltinCall "int.__new__" ⟨[.type "int", .ref x], []⟩; again (.builtin "int.__new__" ⟨[.type "int", .ref x], []⟩)) _ _ s
    refine wpAny_bind (wpAny_of_eq (PySem.F.newCall_int_1 _) (wpAny_pure ⟨PySem.plainId_quiet (by decide +kernel) _, codeAny_builtin PySem.F.entry_int_new ?_⟩))
    rw [Around.under_plainId (by decide +kernel) _]
    have h' : wpAny (model prog w) A.in1.in1 (callSpecial? (.ref x) (Str.ofString "__int__")) (fun r s₁ => ∃ y u, r = some (.int y u) ∧ Q (.int y u) s₁) E s :=
      special_fn X I hs (beq_iff_eq.mp hf) (wpAny_mono h (fun r s' hr => by cases r <;> first | exact hr.elim | exact ⟨_, _, rfl, hr⟩) fun _ _ y => y)
    clear h hs hf I X
    obtain ⟨hp, g, d, tk, os⟩ := s
    have f1 := F.conv_sub_int
    have f2 := F.madeHere_int
    repeat (any_goals (first | assumption | ((with_reducible show wpAny _ _ (callSpecial? _ _ _) _ _ _); refine wpAny_mono h' (fun r s₁ hr => ?_) (fun _ _ y => y); obtain ⟨y, u, rfl, hq⟩ := hr; (try dsimp only)) | wp_step))
    all_goals first | exact ⟨_, _, rfl, by assumption⟩ | skip
  · rintro obj s₁ ⟨y, u, rfl, hq⟩
    exact ⟨typeIs_int _ _ _, PySem.F.args_object_init_2 _ _, object_init_meets PySem.F.called_int.init.lookup PySem.F.called_int.made (by decide) prog w A.in1 _ s₁ ⟨typeIs_int _ _ _, rfl, hq⟩⟩
end
end Mine
end
section
local macro_rules | `(tactic| ktr_units) => `(tactic| ((simp only [Mine.units_make, units_in1, units_deeper, Around.mark_units, ktrTop]); (have hcL9 := cLine_is); omega))
local macro_rules | `(tactic| ktr_room) => `(tactic| ((simp only [depth_mark, depth_under_make, depth_under_kw, depth_in1, depth_deeper, ktrTop]); omega))
local macro_rules | `(tactic| bits_by_make) => `(tactic| with_reducible assumption)
local macro_rules | `(tactic| walk_at "call builtin:divmod") => `(tactic| (k_here; (with_reducible show wpAny _ _ (call (Value.builtin _) [Value.int _ _, Value.int _ _]) _ _ _); refine' divmod_N ?F ?N ?b ?_ (Or.inl (Mine.noPy ?hp)); (case F => k_asm); (case N => k_asm); (case b => omega); (case hp => omega); k_whole; intro h' F' N'; (try k_sweep)))
local macro_rules | `(tactic| walk_at "call builtin:max") => `(tactic| (k_here; (with_reducible show wpAny _ _ (call (Value.builtin _) [Value.int _ _, Value.int _ _]) _ _ _); k_dflt (refine' Mine.max_g ?hh ?F ?N ?_; (case hh => exact rfl); (case F => k_asm); (case N => k_asm); k_whole); intro v' r' h' tk' e1' e2' e3' F' N'; (first | (have e4' := Or.resolve_left e3' (by omega); clear e3') | (have e4' := Or.resolve_right e3' (by omega); clear e3') | skip); (try k_sweep)))
local macro_rules | `(tactic| walk_at "call builtin:min") => `(tactic| (k_here; (with_reducible show wpAny _ _ (call (Value.builtin _) [Value.int _ _, Value.int _ _]) _ _ _); k_dflt (refine' Mine.min_g ?hh ?F ?N ?_; (case hh => exact rfl); (case F => k_asm); (case N => k_asm); k_whole); intro v' r' h' tk' e1' e2' e3' F' N'; (first | (have e4' := Or.resolve_left e3' (by omega); clear e3') | (have e4' := Or.resolve_right e3' (by omega); clear e3') | skip); (try k_sweep)))
local macro_rules | `(tactic| walk_at "call builtin:abs") => `(tactic| (k_here; (with_reducible refine Mine.abs_g ?_); intro v' u' tk' e1' e2' e3'))
local macro_rules | `(tactic| walk_at "binaryOp LShift int int") => `(tactic| (k_here; (with_reducible refine Mine.lshift_g ?kbn ?kbs ?_); (case kbn => omega); (case kbs => omega); intro v' u' tk' e1' e2' e3'; (first | replace e2' := e2' (by omega) | clear e2')))
local macro_rules | `(tactic| walk_at "storeName") => `(tactic| (k_here; (with_reducible first | show wpAny _ _ (storeName _ _ (Value.int (HAdd.hAdd _ _) _)) _ _ _ | show wpAny _ _ (storeName _ _ (Value.int (HSub.hSub _ _) _)) _ _ _ | show wpAny _ _ (storeName _ _ (Value.int (HMul.hMul _ _) _)) _ _ _ | show wpAny _ _ (storeName _ _ (Value.int (Neg.neg _) _)) _ _ _ | show wpAny _ _ (storeName _ _ (Value.int (Int.fdiv _ _) _)) _ _ _ | show wpAny _ _ (storeName _ _ (Value.int (Int.fmod _ _) _)) _ _ _ | show wpAny _ _ (storeName _ _ (Value.int (ite _ _ _) _)) _ _ _); (refine Mine.store_g (fun v' e1' => ?_)); k_dflt (refine' storeX_L ?F ?N ?_ ?a ?b; (case F => k_asm); (case N => k_asm); (case a => rfl); (case b => rfl); k_whole; intro h' F' N'; (try k_sweep))))
local macro_rules | `(tactic| walk_at "call ref") => `(tactic| (k_here; (with_reducible show wpAny _ _ (call (Value.ref 116) _) _ _ _); k_dflt (refine' call_cls ?k1 ?k2 ?k3 ?k4 ?k5 ?k6 ?_; (case k1 => k_asm); (case k2 => k_asm); (case k3 => k_asm); (case k4 => k_is); (case k5 => k_is); (case k6 => k_is); k_whole; intro x' d' h' F' N' l1 l2; (try k_lt l1); (try k_lt2 l2); (try k_sweep); (refine' code_def ?k1 ?k2 ?k3 ?k4 ?k5 ?kA ?kF ?kK ?k6 ?k7 ?k8 ?k9 ?kB ?_ ?c2 ?c3 ?c4 ?c5; (case kA => exact rfl); (case kF => exact rfl); (case kK => first | exact rfl | assumption); (case k1 => k_asm); (case k2 => k_asm); (case k3 => k_asm); (case k4 => k_asm); (case k5 => k_asm); (case k6 => k_is); (case k7 => k_is); (case k8 => ktr_room); (case k9 => first | exact BindsTo.of_eq rfl | exact binds_K (by k_in) rfl (by k_is) rfl rfl rfl); (case c5 => decide); (case kB => exact locs rfl); (case c2 => exact rfl); (case c3 => exact rfl); (case c4 => exact rfl); k_whole; intro g' L' h' FG' F' N' B' X' T'; (try dsimp only); (try k_lift B'); (try k_fold)))))
local macro_rules | `(tactic| walk_at "binaryOp FloorDiv int int") => `(tactic| (k_here; (with_reducible refine floordiv_int ?kbn ?_ (Or.inl (Mine.noPy ?kbp))); (case kbn => omega); (case kbp => first | omega | (refine' Nat.le_trans ?ba ?bb; (case ba => bits_by_make); (case bb => omega)))))
local macro_rules | `(tactic| walk_at "binaryOp Mod int int") => `(tactic| (k_here; (with_reducible refine mod_int' ?kbn ?_); (case kbn => omega)))
local macro_rules | `(tactic| walk_at "binaryOp Mult int int") => `(tactic| (k_here; (with_reducible refine P.mul_int ?_ ?kbn); (case kbn => first | exact PySem.IntMulOk.of_left (PySem.intBits_le_64 (by omega) (by omega)) | exact PySem.IntMulOk.of_right (PySem.intBits_le_64 (by omega) (by omega)) | exact Mine.mulOk (by omega))))
local macro_rules | `(tactic| walk_at "call type:int") => `(tactic| (k_here; (with_reducible show wpAny _ _ (call (Value.type "int") [Value.ref _]) _ _ _); k_dflt (refine' Mine.int_inst ?k1 ?k2 ?k3 ?k4 ?_; (case k1 => k_in); (case k2 => k_inst); (case k3 => k_is); (case k4 => k_is); k_whole)))
local macro_rules | `(tactic| k_mem) => `(tactic| assumption)
local macro_rules | `(tactic| walk_at "formatField int") => `(tactic| (k_here; (with_reducible refine Mine.fmt_g ?kbn ?_); (case kbn => first | omega | exact Mine.absBd (by assumption) (by omega)); intro v' u' tk' e1' e2'))
namespace Mine
theorem andRnd {v n d : Int} (h : v = rnd n d) : v = rnd n d ∧ intBits v ≤ intBits n + 1 := ⟨h, h ▸ rnd_bits⟩
theorem rounded_T (w : World) (mean mg mb) (news) (n d : Int) (t u : Tok) (h0 : 0 < d) (hd : intBits d ≤ 8000) :
    Cx w mean mg mb 28 news 1 [.int n t, .int d u] (RetI news fun v => v = rnd n d ∧ intBits v ≤ intBits n + 1) := by
  dsimp only [Cx, PG, RetI]
  k_fill
  intros; rename_i hret
  refine wpAny_call ?_
  k_dflt cell_enter
  k_steps
  all_goals (refine hret _ _ _ _ ?e1 ?e2 ?e3; (case e2 => k_asm); (case e3 => (refine' cb_drop ?cbN ?cbS; (case cbN => assumption); (case cbS => repeat' (first | with_reducible exact sub_refl | with_reducible refine sub_cons ?_ | refine sub_skip ?_)))); (case e1 => (refine andRnd ?_; unfold rnd; subst_vars; split <;> omega)))
end Mine
end
section
local macro_rules | `(tactic| ktr_units) => `(tactic| ((simp only [Mine.units_make, units_in1, units_deeper, Around.mark_units, ktrTop]); (have hcL9 := cLine_is); omega))
local macro_rules | `(tactic| ktr_room) => `(tactic| ((simp only [depth_mark, depth_under_make, depth_under_kw, depth_in1, depth_deeper, ktrTop]); omega))
local macro_rules | `(tactic| bits_by_make) => `(tactic| with_reducible assumption)
local macro_rules | `(tactic| walk_at "call builtin:divmod") => `(tactic| (k_here; (with_reducible show wpAny _ _ (call (Value.builtin _) [Value.int _ _, Value.int _ _]) _ _ _); refine' divmod_N ?F ?N ?b ?_ (Or.inl (Mine.noPy ?hp)); (case F => k_asm); (case N => k_asm); (case b => omega); (case hp => omega); k_whole; intro h' F' N'; (try k_sweep)))
local macro_rules | `(tactic| walk_at "call builtin:max") => `(tactic| (k_here; (with_reducible show wpAny _ _ (call (Value.builtin _) [Value.int _ _, Value.int _ _]) _ _ _); k_dflt (refine' Mine.max_g ?hh ?F ?N ?_; (case hh => exact rfl); (case F => k_asm); (case N => k_asm); k_whole); intro v' r' h' tk' e1' e2' e3' F' N'; (first | (have e4' := Or.resolve_left e3' (by omega); clear e3') | (have e4' := Or.resolve_right e3' (by omega); clear e3') | skip); (try k_sweep)))
local macro_rules | `(tactic| walk_at "call builtin:min") => `(tactic| (k_here; (with_reducible show wpAny _ _ (call (Value.builtin _) [Value.int _ _, Value.int _ _]) _ _ _); k_dflt (refine' Mine.min_g ?hh ?F ?N ?_; (case hh => exact rfl); (case F => k_asm); (case N => k_asm); k_whole); intro v' r' h' tk' e1' e2' e3' F' N'; (first | (have e4' := Or.resolve_left e3' (by omega); clear e3') | (have e4' := Or.resolve_right e3' (by omega); clear e3') | skip); (try k_sweep)))
local macro_rules | `(tactic| walk_at "call builtin:abs") => `(tactic| (k_here; (with_reducible refine Mine.abs_g ?_); intro v' u' tk' e1' e2' e3'))
local macro_rules | `(tactic| walk_at "binaryOp LShift int int") => `(tactic| (k_here; (with_reducible refine Mine.lshift_g ?kbn ?kbs ?_); (case kbn => omega); (case kbs => omega); intro v' u' tk' e1' e2' e3'; (first | replace e2' := e2' (by omega) | clear e2')))
local macro_rules | `(tactic| walk_at "storeName") => `(tactic| (k_here; (with_reducible first | show wpAny _ _ (storeName _ _ (Value.int (HAdd.hAdd _ _) _)) _ _ _ | show wpAny _ _ (storeName _ _ (Value.int (HSub.hSub _ _) _)) _ _ _ | show wpAny _ _ (storeName _ _ (Value.int (HMul.hMul _ _) _)) _ _ _ | show wpAny _ _ (storeName _ _ (Value.int (Neg.neg _) _)) _ _ _ | show wpAny _ _ (storeName _ _ (Value.int (Int.fdiv _ _) _)) _ _ _ | show wpAny _ _ (storeName _ _ (Value.int (Int.fmod _ _) _)) _ _ _ | show wpAny _ _ (storeName _ _ (Value.int (ite _ _ _) _)) _ _ _); (refine Mine.store_g (fun v' e1' => ?_)); k_dflt (refine' storeX_L ?F ?N ?_ ?a ?b; (case F => k_asm); (case N => k_asm); (case a => rfl); (case b => rfl); k_whole; intro h' F' N'; (try k_sweep))))
local macro_rules | `(tactic| walk_at "call ref") => `(tactic| (k_here; (with_reducible show wpAny _ _ (call (Value.ref 116) _) _ _ _); k_dflt (refine' call_cls ?k1 ?k2 ?k3 ?k4 ?k5 ?k6 ?_; (case k1 => k_asm); (case k2 => k_asm); (case k3 => k_asm); (case k4 => k_is); (case k5 => k_is); (case k6 => k_is); k_whole; intro x' d' h' F' N' l1 l2; (try k_lt l1); (try k_lt2 l2); (try k_sweep); (refine' code_def ?k1 ?k2 ?k3 ?k4 ?k5 ?kA ?kF ?kK ?k6 ?k7 ?k8 ?k9 ?kB ?_ ?c2 ?c3 ?c4 ?c5; (case kA => exact rfl); (case kF => exact rfl); (case kK => first | exact rfl | assumption); (case k1 => k_asm); (case k2 => k_asm); (case k3 => k_asm); (case k4 => k_asm); (case k5 => k_asm); (case k6 => k_is); (case k7 => k_is); (case k8 => ktr_room); (case k9 => first | exact BindsTo.of_eq rfl | exact binds_K (by k_in) rfl (by k_is) rfl rfl rfl); (case c5 => decide); (case kB => exact locs rfl); (case c2 => exact rfl); (case c3 => exact rfl); (case c4 => exact rfl); k_whole; intro g' L' h' FG' F' N' B' X' T'; (try dsimp only); (try k_lift B'); (try k_fold)))))
local macro_rules | `(tactic| walk_at "binaryOp FloorDiv int int") => `(tactic| (k_here; (with_reducible refine floordiv_int ?kbn ?_ (Or.inl (Mine.noPy ?kbp))); (case kbn => omega); (case kbp => first | omega | (refine' Nat.le_trans ?ba ?bb; (case ba => bits_by_make); (case bb => omega)))))
local macro_rules | `(tactic| walk_at "binaryOp Mod int int") => `(tactic| (k_here; (with_reducible refine mod_int' ?kbn ?_); (case kbn => omega)))
local macro_rules | `(tactic| walk_at "binaryOp Mult int int") => `(tactic| (k_here; (with_reducible refine P.mul_int ?_ ?kbn); (case kbn => first | exact PySem.IntMulOk.of_left (PySem.intBits_le_64 (by omega) (by omega)) | exact PySem.IntMulOk.of_right (PySem.intBits_le_64 (by omega) (by omega)) | exact Mine.mulOk (by omega))))
local macro_rules | `(tactic| walk_at "call type:int") => `(tactic| (k_here; (with_reducible show wpAny _ _ (call (Value.type "int") [Value.ref _]) _ _ _); k_dflt (refine' Mine.int_inst ?k1 ?k2 ?k3 ?k4 ?_; (case k1 => k_in); (case k2 => k_inst); (case k3 => k_is); (case k4 => k_is); k_whole)))
local macro_rules | `(tactic| k_mem) => `(tactic| assumption)
local macro_rules | `(tactic| walk_at "formatField int") => `(tactic| (k_here; (with_reducible refine Mine.fmt_g ?kbn ?_); (case kbn => first | omega | exact Mine.absBd (by assumption) (by omega)); intro v' u' tk' e1' e2'))
local macro_rules | `(tactic| walk_at "call ref") => `(tactic| (k_here; (with_reducible show wpAny _ _ (call (Value.ref 28) [Value.int _ _, Value.int _ _]) _ _ _); k_dflt (refine' Mine.cx_use (Mine.rounded_T _ _ _ _ _ _ _ _ _ ?h0 ?hd) ?k1 ?k2 ?k3 ?k4 ?k5 ?kK ?kd ?ku ?_; (case k1 => first | k_asm | fail "cx: below"); (case k2 => first | k_asm | fail "cx: frame"); (case k3 => first | k_asm | fail "cx: part"); (case k4 => first | k_asm | fail "cx: news"); (case k5 => first | k_asm | fail "cx: top"); (case kK => first | exact rfl | assumption | fail "cx: kind"); (case kd => first | ktr_room | fail "cx: room"); (case ku => first | ktr_units | fail "cx: units"); (case h0 => first | assumption | omega); (case hd => first | assumption | omega)); k_dflt (intro v' t' h' tk' e1' F' N'; obtain ⟨e1', e2'⟩ := e1'; (try k_sweep); (try dsimp only); (try k_fold))))
namespace Mine
theorem absOf {v a : Int} (h : AbsOf v a) : v = (a.natAbs : Int) := h
theorem near_1w {n d s r a b v16 v14 v13 v12 v11 v10 W m1 m2 k1 k2 x y : Int} (h0 : 0 < d) (hn0 : n ≠ 0) (hn : intBits n ≤ 400) (hd : intBits d ≤ 400)
    (eb : b = 1 * 2 ^ k1.toNat) (rk1 : k1 = r ∨ k1 = 0) (pk1 : r ≤ k1) (qk1 : 0 ≤ k1)
    (ea : a = W * 2 ^ k2.toNat) (rk2 : k2 = -r ∨ k2 = 0) (pk2 : -r ≤ k2) (qk2 : 0 ≤ k2) (eW : W = rnd x y)
    (ex : x = n * 2 ^ m1.toNat) (rm1 : m1 = r ∨ m1 = 0) (pm1 : r ≤ m1) (qm1 : 0 ≤ m1) (ey : y = d * 2 ^ m2.toNat) (rm2 : m2 = -r ∨ m2 = 0) (pm2 : -r ≤ m2) (qm2 : 0 ≤ m2)
    (er : r = s - 1) (es : s = 53 - intBits v16 + intBits d) (e16 : intBits v16 = intBits n)
    (e10 : v10 = d * 2 ^ (v11 + 53).toNat) (r11 : v11 = -s ∨ v11 = 0) (p11 : -s ≤ v11) (q11 : 0 ≤ v11) (hle : v10 ≤ v12)
    (e12 : v12 = v14 * 2 ^ v13.toNat) (a14 : AbsOf v14 n) (r13 : v13 = s ∨ v13 = 0) (p13 : s ≤ v13) (q13 : 0 ≤ v13) : IsNear n d a b := by
  have t13 : v13.toNat = s.toNat := by omega
  have t11 : (v11 + 53).toNat = (-s).toNat + 53 := by omega
  have u1 : m1.toNat = r.toNat := by omega
  have u2 : m2.toNat = (-r).toNat := by omega
  have u3 : k1.toNat = r.toNat := by omega
  have u4 : k2.toNat = (-r).toNat := by omega
  rw [t13, absOf a14] at e12
  rw [t11] at e10
  rw [u1] at ex
  rw [u2] at ey
  rw [u3] at eb
  rw [u4] at ea
  refine near_1 (s := s) h0 hn0 hn hd (by omega) er (by rw [← e10, ← e12]; exact hle) (by rw [ea, eW, ex, ey]) (by omega)
theorem near_2w {n d s a b v16 v14 v13 v12 v11 v10 W m1 m2 k1 k2 x y : Int} (h0 : 0 < d) (hn0 : n ≠ 0) (hn : intBits n ≤ 400) (hd : intBits d ≤ 400)
    (eb : b = 1 * 2 ^ k1.toNat) (rk1 : k1 = s ∨ k1 = 0) (pk1 : s ≤ k1) (qk1 : 0 ≤ k1)
    (ea : a = W * 2 ^ k2.toNat) (rk2 : k2 = -s ∨ k2 = 0) (pk2 : -s ≤ k2) (qk2 : 0 ≤ k2) (eW : W = rnd x y)
    (ex : x = n * 2 ^ m1.toNat) (rm1 : m1 = s ∨ m1 = 0) (pm1 : s ≤ m1) (qm1 : 0 ≤ m1) (ey : y = d * 2 ^ m2.toNat) (rm2 : m2 = -s ∨ m2 = 0) (pm2 : -s ≤ m2) (qm2 : 0 ≤ m2)
    (es : s = 53 - intBits v16 + intBits d) (e16 : intBits v16 = intBits n)
    (e10 : v10 = d * 2 ^ (v11 + 53).toNat) (r11 : v11 = -s ∨ v11 = 0) (p11 : -s ≤ v11) (q11 : 0 ≤ v11) (hle : ¬ v10 ≤ v12)
    (e12 : v12 = v14 * 2 ^ v13.toNat) (a14 : AbsOf v14 n) (r13 : v13 = s ∨ v13 = 0) (p13 : s ≤ v13) (q13 : 0 ≤ v13) : IsNear n d a b := by
  have t13 : v13.toNat = s.toNat := by omega
  have t11 : (v11 + 53).toNat = (-s).toNat + 53 := by omega
  have u1 : m1.toNat = s.toNat := by omega
  have u2 : m2.toNat = (-s).toNat := by omega
  have u3 : k1.toNat = s.toNat := by omega
  have u4 : k2.toNat = (-s).toNat := by omega
  rw [t13, absOf a14] at e12
  rw [t11] at e10
  rw [u1] at ex
  rw [u2] at ey
  rw [u3] at eb
  rw [u4] at ea
  refine near_2 (s := s) h0 hn0 hn hd (by omega) (by rw [← e10, ← e12]; exact hle) (by rw [ea, eW, ex, ey]) (by omega)
theorem ovf_w {n d s r v16 W aW m1 k2 x X V : Int} (hV : V = 1 * 2 ^ Int.toNat 1024) (h : V ≤ X) (eX : (intBits X : Int) ≤ intBits aW + k2) (baW : intBits aW = intBits W) (bW : intBits W ≤ intBits x + 1)
    (ex : (intBits x : Int) ≤ intBits n + m1) (rk2 : k2 = -r ∨ k2 = 0) (qk2 : 0 ≤ k2) (rm1 : m1 = r ∨ m1 = 0) (qm1 : 0 ≤ m1) (er : r = s - 1 ∨ r = s) (es : s = 53 - intBits v16 + intBits d) (e16 : intBits v16 = intBits n)
    (hn : intBits n ≤ 400) (hd : intBits d ≤ 400) : False := by
  refine ovf h hV ?_
  rcases rm1 with q | q <;> rcases rk2 with q' | q' <;> omega
theorem nearest_T (w : World) (mean mg mb) (news) (n d : Int) (t u : Tok) (h0 : 0 < d) (hn0 : n ≠ 0) (hn : intBits n ≤ 400) (hd : intBits d ≤ 400) :
    Cx w mean mg mb 35 news 2 [.int n t, .int d u] (RetII news fun a b => IsNear n d a b) := by
  have b1 : intBits 1 = 1 := by decide
  dsimp only [Cx, PG, RetII]
  k_fill
  intros; rename_i hret
  refine wpAny_call ?_
  k_dflt cell_enter
  k_steps
  all_goals first
  | (exfalso; exact ovf_w (by assumption) (by assumption) (by assumption) (by assumption) (by assumption) (by assumption) (by assumption) (by assumption) (by assumption) (by assumption) (Or.inl (by assumption)) (by assumption) (by assumption) hn hd)
  | (exfalso; exact ovf_w (by assumption) (by assumption) (by assumption) (by assumption) (by assumption) (by assumption) (by assumption) (by assumption) (by assumption) (by assumption) (Or.inr rfl) (by assumption) (by assumption) hn hd)
  | (refine' hret _ _ _ _ _ _ _ _ ?e1 ?e2 ?e3 ?e4; (case e2 => k_asm); (case e3 => k_asm); (case e4 => exact allLt_of (by assumption)); (case e1 => first
    | exact near_1w h0 hn0 hn hd (by assumption) (by assumption) (by assumption) (by assumption) (by assumption) (by assumption) (by assumption) (by assumption) (by assumption) (by assumption) (by assumption) (by assumption) (by assumption) (by assumption) (by assumption) (by assumption) (by assumption) (by assumption) (by assumption) (by assumption) (by assumption) (by assumption) (by assumption) (by assumption) (by assumption) (by assumption) (by assumption) (by assumption) (by assumption) (by assumption) 
    | exact near_2w h0 hn0 hn hd (by assumption) (by assumption) (by assumption) (by assumption) (by assumption) (by assumption) (by assumption) (by assumption) (by assumption) (by assumption) (by assumption) (by assumption) (by assumption) (by assumption) (by assumption) (by assumption) (by assumption) (by assumption) (by assumption) (by assumption) (by assumption) (by assumption) (by assumption) (by assumption) (by assumption) (by assumption) (by assumption) (by assumption) (by assumption) ))
end Mine
end
section
local macro_rules | `(tactic| ktr_units) => `(tactic| ((simp only [Mine.units_make, units_in1, units_deeper, Around.mark_units, ktrTop]); (have hcL9 := cLine_is); omega))
local macro_rules | `(tactic| ktr_room) => `(tactic| ((simp only [depth_mark, depth_under_make, depth_under_kw, depth_in1, depth_deeper, ktrTop]); omega))
local macro_rules | `(tactic| bits_by_make) => `(tactic| with_reducible assumption)
local macro_rules | `(tactic| walk_at "call builtin:divmod") => `(tactic| (k_here; (with_reducible show wpAny _ _ (call (Value.builtin _) [Value.int _ _, Value.int _ _]) _ _ _); refine' divmod_N ?F ?N ?b ?_ (Or.inl (Mine.noPy ?hp)); (case F => k_asm); (case N => k_asm); (case b => omega); (case hp => omega); k_whole; intro h' F' N'; (try k_sweep)))
local macro_rules | `(tactic| walk_at "call builtin:max") => `(tactic| (k_here; (with_reducible show wpAny _ _ (call (Value.builtin _) [Value.int _ _, Value.int _ _]) _ _ _); k_dflt (refine' Mine.max_g ?hh ?F ?N ?_; (case hh => exact rfl); (case F => k_asm); (case N => k_asm); k_whole); intro v' r' h' tk' e1' e2' e3' F' N'; (first | (have e4' := Or.resolve_left e3' (by omega); clear e3') | (have e4' := Or.resolve_right e3' (by omega); clear e3') | skip); (try k_sweep)))
local macro_rules | `(tactic| walk_at "call builtin:min") => `(tactic| (k_here; (with_reducible show wpAny _ _ (call (Value.builtin _) [Value.int _ _, Value.int _ _]) _ _ _); k_dflt (refine' Mine.min_g ?hh ?F ?N ?_; (case hh => exact rfl); (case F => k_asm); (case N => k_asm); k_whole); intro v' r' h' tk' e1' e2' e3' F' N'; (first | (have e4' := Or.resolve_left e3' (by omega); clear e3') | (have e4' := Or.resolve_right e3' (by omega); clear e3') | skip); (try k_sweep)))
local macro_rules | `(tactic| walk_at "call builtin:abs") => `(tactic| (k_here; (with_reducible refine Mine.abs_g ?_); intro v' u' tk' e1' e2' e3'))
local macro_rules | `(tactic| walk_at "binaryOp LShift int int") => `(tactic| (k_here; (with_reducible refine Mine.lshift_g ?kbn ?kbs ?_); (case kbn => omega); (case kbs => omega); intro v' u' tk' e1' e2' e3'; (first | replace e2' := e2' (by omega) | clear e2')))
local macro_rules | `(tactic| walk_at "storeName") => `(tactic| (k_here; (with_reducible first | show wpAny _ _ (storeName _ _ (Value.int (HAdd.hAdd _ _) _)) _ _ _ | show wpAny _ _ (storeName _ _ (Value.int (HSub.hSub _ _) _)) _ _ _ | show wpAny _ _ (storeName _ _ (Value.int (HMul.hMul _ _) _)) _ _ _ | show wpAny _ _ (storeName _ _ (Value.int (Neg.neg _) _)) _ _ _ | show wpAny _ _ (storeName _ _ (Value.int (Int.fdiv _ _) _)) _ _ _ | show wpAny _ _ (storeName _ _ (Value.int (Int.fmod _ _) _)) _ _ _ | show wpAny _ _ (storeName _ _ (Value.int (ite _ _ _) _)) _ _ _); (refine Mine.store_g (fun v' e1' => ?_)); k_dflt (refine' storeX_L ?F ?N ?_ ?a ?b; (case F => k_asm); (case N => k_asm); (case a => rfl); (case b => rfl); k_whole; intro h' F' N'; (try k_sweep))))
local macro_rules | `(tactic| walk_at "call ref") => `(tactic| (k_here; (with_reducible show wpAny _ _ (call (Value.ref 116) _) _ _ _); k_dflt (refine' call_cls ?k1 ?k2 ?k3 ?k4 ?k5 ?k6 ?_; (case k1 => k_asm); (case k2 => k_asm); (case k3 => k_asm); (case k4 => k_is); (case k5 => k_is); (case k6 => k_is); k_whole; intro x' d' h' F' N' l1 l2; (try k_lt l1); (try k_lt2 l2); (try k_sweep); (refine' code_def ?k1 ?k2 ?k3 ?k4 ?k5 ?kA ?kF ?kK ?k6 ?k7 ?k8 ?k9 ?kB ?_ ?c2 ?c3 ?c4 ?c5; (case kA => exact rfl); (case kF => exact rfl); (case kK => first | exact rfl | assumption); (case k1 => k_asm); (case k2 => k_asm); (case k3 => k_asm); (case k4 => k_asm); (case k5 => k_asm); (case k6 => k_is); (case k7 => k_is); (case k8 => ktr_room); (case k9 => first | exact BindsTo.of_eq rfl | exact binds_K (by k_in) rfl (by k_is) rfl rfl rfl); (case c5 => decide); (case kB => exact locs rfl); (case c2 => exact rfl); (case c3 => exact rfl); (case c4 => exact rfl); k_whole; intro g' L' h' FG' F' N' B' X' T'; (try dsimp only); (try k_lift B'); (try k_fold)))))
local macro_rules | `(tactic| walk_at "binaryOp FloorDiv int int") => `(tactic| (k_here; (with_reducible refine floordiv_int ?kbn ?_ (Or.inl (Mine.noPy ?kbp))); (case kbn => omega); (case kbp => first | omega | (refine' Nat.le_trans ?ba ?bb; (case ba => bits_by_make); (case bb => omega)))))
local macro_rules | `(tactic| walk_at "binaryOp Mod int int") => `(tactic| (k_here; (with_reducible refine mod_int' ?kbn ?_); (case kbn => omega)))
local macro_rules | `(tactic| walk_at "binaryOp Mult int int") => `(tactic| (k_here; (with_reducible refine P.mul_int ?_ ?kbn); (case kbn => first | exact PySem.IntMulOk.of_left (PySem.intBits_le_64 (by omega) (by omega)) | exact PySem.IntMulOk.of_right (PySem.intBits_le_64 (by omega) (by omega)) | exact Mine.mulOk (by omega))))
local macro_rules | `(tactic| walk_at "call type:int") => `(tactic| (k_here; (with_reducible show wpAny _ _ (call (Value.type "int") [Value.ref _]) _ _ _); k_dflt (refine' Mine.int_inst ?k1 ?k2 ?k3 ?k4 ?_; (case k1 => k_in); (case k2 => k_inst); (case k3 => k_is); (case k4 => k_is); k_whole)))
local macro_rules | `(tactic| k_mem) => `(tactic| assumption)
local macro_rules | `(tactic| walk_at "formatField int") => `(tactic| (k_here; (with_reducible refine Mine.fmt_g ?kbn ?_); (case kbn => first | omega | exact Mine.absBd (by assumption) (by omega)); intro v' u' tk' e1' e2'))
local macro_rules | `(tactic| walk_at "call ref") => `(tactic| (k_here; (with_reducible show wpAny _ _ (call (Value.ref 28) [Value.int _ _, Value.int _ _]) _ _ _); k_dflt (refine' Mine.cx_use (Mine.rounded_T _ _ _ _ _ _ _ _ _ ?h0 ?hd) ?k1 ?k2 ?k3 ?k4 ?k5 ?kK ?kd ?ku ?_; (case k1 => first | k_asm | fail "cx: below"); (case k2 => first | k_asm | fail "cx: frame"); (case k3 => first | k_asm | fail "cx: part"); (case k4 => first | k_asm | fail "cx: news"); (case k5 => first | k_asm | fail "cx: top"); (case kK => first | exact rfl | assumption | fail "cx: kind"); (case kd => first | ktr_room | fail "cx: room"); (case ku => first | ktr_units | fail "cx: units"); (case h0 => first | assumption | omega); (case hd => first | assumption | omega)); k_dflt (intro v' t' h' tk' e1' F' N'; obtain ⟨e1', e2'⟩ := e1'; (try k_sweep); (try dsimp only); (try k_fold))))
local macro_rules | `(tactic| walk_at "call ref") => `(tactic| (k_here; (with_reducible show wpAny _ _ (call (Value.ref 35) [Value.int _ _, Value.int _ _]) _ _ _); k_dflt (refine' Mine.cx_use (Mine.nearest_T _ _ _ _ _ _ _ _ _ ?h0 ?hn0 ?hn ?hd) ?k1 ?k2 ?k3 ?k4 ?k5 ?kK ?kd ?ku ?_; (case k1 => first | k_asm | fail "cx: below"); (case k2 => first | k_asm | fail "cx: frame"); (case k3 => first | k_asm | fail "cx: part"); (case k4 => first | k_asm | fail "cx: news"); (case k5 => first | k_asm | fail "cx: top"); (case kK => first | exact rfl | assumption | fail "cx: kind"); (case kd => first | ktr_room | fail "cx: room"); (case ku => first | ktr_units | fail "cx: units"); (case h0 => first | assumption | omega); (case hn0 => first | assumption | omega); (case hn => first | assumption | omega); (case hd => first | assumption | omega)); k_dflt (intro a' b' t' u' D' c' h' tk' e1' F' N' l1'; (try simp only [AllLt, and_true] at l1'); (try k_sweep); (try dsimp only); (try k_fold))))
namespace Mine
theorem Double_T (w : World) (mean mg mb) (news) (n d : Int) (t u : Tok) (h0 : 0 < d) (hn : intBits n ≤ 400) (hd : intBits d ≤ 400) :
    Cx w mean mg mb 116 news 4 [.int n t, .int d u] (RetD w news fun a b => DblP n d a b) := by
  dsimp only [Cx, PG, RetD]
  k_fill
  intros; rename_i hret
  k_steps
  all_goals first | (exfalso; omega) | skip
  all_goals (refine' hret _ _ _ _ _ _ _ _ _ _ ?e1 ?e2 ?e3 ?e4 ?e5; (case e2 => k_asm); (case e3 => (refine' cb_drop ?cbN ?cbS; (case cbN => assumption); (case cbS => repeat' (first | with_reducible exact sub_refl | with_reducible refine sub_cons ?_ | refine sub_skip ?_)))); (case e4 => exact allLt_of (by assumption)); (case e5 => assumption); (case e1 => refine dblP (by omega) ?_; first | exact Or.inl ⟨by assumption, by assumption, rfl⟩ | exact Or.inr ⟨by assumption, by assumption⟩))
theorem Double1_T (w : World) (mean mg mb) (news) (n : Int) (t : Tok) (hn : intBits n ≤ 400) :
    Cx w mean mg mb 116 news 4 [.int n t] (RetD w news fun a b => DblP n 1 a b) := by
  have hd : intBits 1 ≤ 400 := by decide
  dsimp only [Cx, PG, RetD]
  k_fill
  intros; rename_i hret
  k_steps
  all_goals first | (exfalso; omega) | skip
  all_goals (refine' hret _ _ _ _ _ _ _ _ _ _ ?e1 ?e2 ?e3 ?e4 ?e5; (case e2 => k_asm); (case e3 => (refine' cb_drop ?cbN ?cbS; (case cbN => assumption); (case cbS => repeat' (first | with_reducible exact sub_refl | with_reducible refine sub_cons ?_ | refine sub_skip ?_)))); (case e4 => exact allLt_of (by assumption)); (case e5 => assumption); (case e1 => refine dblP (by omega) ?_; first | exact Or.inl ⟨by assumption, by assumption, rfl⟩ | exact Or.inr ⟨by assumption, by assumption⟩))
end Mine
end
section
local macro_rules | `(tactic| ktr_units) => `(tactic| ((simp only [Mine.units_make, units_in1, units_deeper, Around.mark_units, ktrTop]); (have hcL9 := cLine_is); omega))
local macro_rules | `(tactic| ktr_room) => `(tactic| ((simp only [depth_mark, depth_under_make, depth_under_kw, depth_in1, depth_deeper, ktrTop]); omega))
local macro_rules | `(tactic| bits_by_make) => `(tactic| with_reducible assumption)
local macro_rules | `(tactic| walk_at "call builtin:divmod") => `(tactic| (k_here; (with_reducible show wpAny _ _ (call (Value.builtin _) [Value.int _ _, Value.int _ _]) _ _ _); refine' divmod_N ?F ?N ?b ?_ (Or.inl (Mine.noPy ?hp)); (case F => k_asm); (case N => k_asm); (case b => omega); (case hp => omega); k_whole; intro h' F' N'; (try k_sweep)))
local macro_rules | `(tactic| walk_at "call builtin:max") => `(tactic| (k_here; (with_reducible show wpAny _ _ (call (Value.builtin _) [Value.int _ _, Value.int _ _]) _ _ _); k_dflt (refine' Mine.max_g ?hh ?F ?N ?_; (case hh => exact rfl); (case F => k_asm); (case N => k_asm); k_whole); intro v' r' h' tk' e1' e2' e3' F' N'; (first | (have e4' := Or.resolve_left e3' (by omega); clear e3') | (have e4' := Or.resolve_right e3' (by omega); clear e3') | skip); (try k_sweep)))
local macro_rules | `(tactic| walk_at "call builtin:min") => `(tactic| (k_here; (with_reducible show wpAny _ _ (call (Value.builtin _) [Value.int _ _, Value.int _ _]) _ _ _); k_dflt (refine' Mine.min_g ?hh ?F ?N ?_; (case hh => exact rfl); (case F => k_asm); (case N => k_asm); k_whole); intro v' r' h' tk' e1' e2' e3' F' N'; (first | (have e4' := Or.resolve_left e3' (by omega); clear e3') | (have e4' := Or.resolve_right e3' (by omega); clear e3') | skip); (try k_sweep)))
local macro_rules | `(tactic| walk_at "call builtin:abs") => `(tactic| (k_here; (with_reducible refine Mine.abs_g ?_); intro v' u' tk' e1' e2' e3'))
local macro_rules | `(tactic| walk_at "binaryOp LShift int int") => `(tactic| (k_here; (with_reducible refine Mine.lshift_g ?kbn ?kbs ?_); (case kbn => omega); (case kbs => omega); intro v' u' tk' e1' e2' e3'; (first | replace e2' := e2' (by omega) | clear e2')))
local macro_rules | `(tactic| walk_at "storeName") => `(tactic| (k_here; (with_reducible first | show wpAny _ _ (storeName _ _ (Value.int (HAdd.hAdd _ _) _)) _ _ _ | show wpAny _ _ (storeName _ _ (Value.int (HSub.hSub _ _) _)) _ _ _ | show wpAny _ _ (storeName _ _ (Value.int (HMul.hMul _ _) _)) _ _ _ | show wpAny _ _ (storeName _ _ (Value.int (Neg.neg _) _)) _ _ _ | show wpAny _ _ (storeName _ _ (Value.int (Int.fdiv _ _) _)) _ _ _ | show wpAny _ _ (storeName _ _ (Value.int (Int.fmod _ _) _)) _ _ _ | show wpAny _ _ (storeName _ _ (Value.int (ite _ _ _) _)) _ _ _); (refine Mine.store_g (fun v' e1' => ?_)); k_dflt (refine' storeX_L ?F ?N ?_ ?a ?b; (case F => k_asm); (case N => k_asm); (case a => rfl); (case b => rfl); k_whole; intro h' F' N'; (try k_sweep))))
local macro_rules | `(tactic| walk_at "call ref") => `(tactic| (k_here; (with_reducible show wpAny _ _ (call (Value.ref 116) _) _ _ _); k_dflt (refine' call_cls ?k1 ?k2 ?k3 ?k4 ?k5 ?k6 ?_; (case k1 => k_asm); (case k2 => k_asm); (case k3 => k_asm); (case k4 => k_is); (case k5 => k_is); (case k6 => k_is); k_whole; intro x' d' h' F' N' l1 l2; (try k_lt l1); (try k_lt2 l2); (try k_sweep); (refine' code_def ?k1 ?k2 ?k3 ?k4 ?k5 ?kA ?kF ?kK ?k6 ?k7 ?k8 ?k9 ?kB ?_ ?c2 ?c3 ?c4 ?c5; (case kA => exact rfl); (case kF => exact rfl); (case kK => first | exact rfl | assumption); (case k1 => k_asm); (case k2 => k_asm); (case k3 => k_asm); (case k4 => k_asm); (case k5 => k_asm); (case k6 => k_is); (case k7 => k_is); (case k8 => ktr_room); (case k9 => first | exact BindsTo.of_eq rfl | exact binds_K (by k_in) rfl (by k_is) rfl rfl rfl); (case c5 => decide); (case kB => exact locs rfl); (case c2 => exact rfl); (case c3 => exact rfl); (case c4 => exact rfl); k_whole; intro g' L' h' FG' F' N' B' X' T'; (try dsimp only); (try k_lift B'); (try k_fold)))))
local macro_rules | `(tactic| walk_at "binaryOp FloorDiv int int") => `(tactic| (k_here; (with_reducible refine floordiv_int ?kbn ?_ (Or.inl (Mine.noPy ?kbp))); (case kbn => omega); (case kbp => first | omega | (refine' Nat.le_trans ?ba ?bb; (case ba => bits_by_make); (case bb => omega)))))
local macro_rules | `(tactic| walk_at "binaryOp Mod int int") => `(tactic| (k_here; (with_reducible refine mod_int' ?kbn ?_); (case kbn => omega)))
local macro_rules | `(tactic| walk_at "binaryOp Mult int int") => `(tactic| (k_here; (with_reducible refine P.mul_int ?_ ?kbn); (case kbn => first | exact PySem.IntMulOk.of_left (PySem.intBits_le_64 (by omega) (by omega)) | exact PySem.IntMulOk.of_right (PySem.intBits_le_64 (by omega) (by omega)) | exact Mine.mulOk (by omega))))
local macro_rules | `(tactic| walk_at "call type:int") => `(tactic| (k_here; (with_reducible show wpAny _ _ (call (Value.type "int") [Value.ref _]) _ _ _); k_dflt (refine' Mine.int_inst ?k1 ?k2 ?k3 ?k4 ?_; (case k1 => k_in); (case k2 => k_inst); (case k3 => k_is); (case k4 => k_is); k_whole)))
local macro_rules | `(tactic| k_mem) => `(tactic| assumption)
local macro_rules | `(tactic| walk_at "formatField int") => `(tactic| (k_here; (with_reducible refine Mine.fmt_g ?kbn ?_); (case kbn => first | omega | exact Mine.absBd (by assumption) (by omega)); intro v' u' tk' e1' e2'))
local macro_rules | `(tactic| walk_at "call ref") => `(tactic| (k_here; (with_reducible show wpAny _ _ (call (Value.ref 28) [Value.int _ _, Value.int _ _]) _ _ _); k_dflt (refine' Mine.cx_use (Mine.rounded_T _ _ _ _ _ _ _ _ _ ?h0 ?hd) ?k1 ?k2 ?k3 ?k4 ?k5 ?kK ?kd ?ku ?_; (case k1 => first | k_asm | fail "cx: below"); (case k2 => first | k_asm | fail "cx: frame"); (case k3 => first | k_asm | fail "cx: part"); (case k4 => first | k_asm | fail "cx: news"); (case k5 => first | k_asm | fail "cx: top"); (case kK => first | exact rfl | assumption | fail "cx: kind"); (case kd => first | ktr_room | fail "cx: room"); (case ku => first | ktr_units | fail "cx: units"); (case h0 => first | assumption | omega); (case hd => first | assumption | omega)); k_dflt (intro v' t' h' tk' e1' F' N'; obtain ⟨e1', e2'⟩ := e1'; (try k_sweep); (try dsimp only); (try k_fold))))
local macro_rules | `(tactic| walk_at "call ref") => `(tactic| (k_here; (with_reducible show wpAny _ _ (call (Value.ref 35) [Value.int _ _, Value.int _ _]) _ _ _); k_dflt (refine' Mine.cx_use (Mine.nearest_T _ _ _ _ _ _ _ _ _ ?h0 ?hn0 ?hn ?hd) ?k1 ?k2 ?k3 ?k4 ?k5 ?kK ?kd ?ku ?_; (case k1 => first | k_asm | fail "cx: below"); (case k2 => first | k_asm | fail "cx: frame"); (case k3 => first | k_asm | fail "cx: part"); (case k4 => first | k_asm | fail "cx: news"); (case k5 => first | k_asm | fail "cx: top"); (case kK => first | exact rfl | assumption | fail "cx: kind"); (case kd => first | ktr_room | fail "cx: room"); (case ku => first | ktr_units | fail "cx: units"); (case h0 => first | assumption | omega); (case hn0 => first | assumption | omega); (case hn => first | assumption | omega); (case hd => first | assumption | omega)); k_dflt (intro a' b' t' u' D' c' h' tk' e1' F' N' l1'; (try simp only [AllLt, and_true] at l1'); (try k_sweep); (try dsimp only); (try k_fold))))
local macro_rules | `(tactic| walk_at "call ref") => `(tactic| (k_here; (with_reducible show wpAny _ _ (call (Value.ref 116) [Value.int _ _, Value.int _ _]) _ _ _); k_dflt (refine' Mine.cx_use (Mine.Double_T _ _ _ _ _ _ _ _ _ ?h0 ?hn ?hd) ?k1 ?k2 ?k3 ?k4 ?k5 ?kK ?kd ?ku ?_; (case k1 => first | k_asm | fail "cx: below"); (case k2 => first | k_asm | fail "cx: frame"); (case k3 => first | k_asm | fail "cx: part"); (case k4 => first | k_asm | fail "cx: news"); (case k5 => first | k_asm | fail "cx: top"); (case kK => first | exact rfl | assumption | fail "cx: kind"); (case kd => first | ktr_room | fail "cx: room"); (case ku => first | ktr_units | fail "cx: units"); (case h0 => first | omega | exact Int.mul_pos (by assumption) (by assumption)); (case hn => first | assumption | omega | (refine' Nat.le_trans ?ba ?bb; (case ba => bits_by_make); (case bb => omega))); (case hd => first | assumption | omega | (refine' Nat.le_trans ?ba ?bb; (case ba => bits_by_make); (case bb => omega)))); k_dflt (intro a' b' t' u' k1' k2' x' d' h' tk' e1' F' N' l1' l2'; obtain ⟨e1', e2', e3', e4'⟩ := e1'; (try simp only [AllLt, and_true] at l1'); (try k_lt2 l2'); (try k_sweep); (try dsimp only); (try k_fold))))
local macro_rules | `(tactic| walk_at "call ref") => `(tactic| (k_here; (with_reducible show wpAny _ _ (call (Value.ref 116) [Value.int _ _]) _ _ _); k_dflt (refine' Mine.cx_use (Mine.Double1_T _ _ _ _ _ _ _ ?hn) ?k1 ?k2 ?k3 ?k4 ?k5 ?kK ?kd ?ku ?_; (case k1 => first | k_asm | fail "cx: below"); (case k2 => first | k_asm | fail "cx: frame"); (case k3 => first | k_asm | fail "cx: part"); (case k4 => first | k_asm | fail "cx: news"); (case k5 => first | k_asm | fail "cx: top"); (case kK => first | exact rfl | assumption | fail "cx: kind"); (case kd => first | ktr_room | fail "cx: room"); (case ku => first | ktr_units | fail "cx: units"); (case hn => first | assumption | omega)); k_dflt (intro a' b' t' u' k1' k2' x' d' h' tk' e1' F' N' l1' l2'; obtain ⟨e1', e2', e3', e4'⟩ := e1'; (try simp only [AllLt, and_true] at l1'); (try k_lt2 l2'); (try k_sweep); (try dsimp only); (try k_fold))))
namespace Mine
theorem dint_T (w : World) (mean mg mb) (news) (a b : Int) (t u k1 k2 : Tok) (x dx : Addr) (hx : (x, instObj 116 dx) ∈ news) (hdx : (dx, dblDict w.params a b t u k1 k2) ∈ news) (h0 : 0 < b) (hb : intBits b ≤ 8000) :
    Cx w mean mg mb 71 news 1 [.ref x] (RetI news fun v => v = trn a b) := by
  dsimp only [Cx, PG, RetI]
  k_fill
  intros; rename_i hret
  refine wpAny_call ?_
  k_dflt cell_enter
  k_steps
  all_goals (refine hret _ _ _ _ ?e1 ?e2 ?e3; (case e2 => k_asm); (case e3 => k_asm); (case e1 => (unfold trn; first | exact (if_pos (by assumption)).symm | exact (if_neg (by assumption)).symm)))
theorem parts_T (w : World) (mean mg mb) (news) (a b : Int) (t u k1 k2 : Tok) (x dx : Addr) (hx : (x, instObj 116 dx) ∈ news) (hdx : (dx, dblDict w.params a b t u k1 k2) ∈ news) :
    Cx w mean mg mb 42 news 1 [.ref x] (RetII news fun p q => p = a ∧ q = b) := by
  dsimp only [Cx, PG, RetII]
  k_fill
  intros; rename_i hret
  refine wpAny_call ?_
  k_dflt cell_enter
  k_steps
  all_goals (refine' hret _ _ _ _ _ _ _ _ ?e1 ?e2 ?e3 ?e4; (case e2 => k_asm); (case e3 => k_asm); (case e4 => exact allLt_of (by assumption)); (case e1 => exact ⟨rfl, rfl⟩))
end Mine
end
section
local macro_rules | `(tactic| ktr_units) => `(tactic| ((simp only [Mine.units_make, units_in1, units_deeper, Around.mark_units, ktrTop]); (have hcL9 := cLine_is); omega))
local macro_rules | `(tactic| ktr_room) => `(tactic| ((simp only [depth_mark, depth_under_make, depth_under_kw, depth_in1, depth_deeper, ktrTop]); omega))
local macro_rules | `(tactic| bits_by_make) => `(tactic| with_reducible assumption)
local macro_rules | `(tactic| walk_at "call builtin:divmod") => `(tactic| (k_here; (with_reducible show wpAny _ _ (call (Value.builtin _) [Value.int _ _, Value.int _ _]) _ _ _); refine' divmod_N ?F ?N ?b ?_ (Or.inl (Mine.noPy ?hp)); (case F => k_asm); (case N => k_asm); (case b => omega); (case hp => omega); k_whole; intro h' F' N'; (try k_sweep)))
local macro_rules | `(tactic| walk_at "call builtin:max") => `(tactic| (k_here; (with_reducible show wpAny _ _ (call (Value.builtin _) [Value.int _ _, Value.int _ _]) _ _ _); k_dflt (refine' Mine.max_g ?hh ?F ?N ?_; (case hh => exact rfl); (case F => k_asm); (case N => k_asm); k_whole); intro v' r' h' tk' e1' e2' e3' F' N'; (first | (have e4' := Or.resolve_left e3' (by omega); clear e3') | (have e4' := Or.resolve_right e3' (by omega); clear e3') | skip); (try k_sweep)))
local macro_rules | `(tactic| walk_at "call builtin:min") => `(tactic| (k_here; (with_reducible show wpAny _ _ (call (Value.builtin _) [Value.int _ _, Value.int _ _]) _ _ _); k_dflt (refine' Mine.min_g ?hh ?F ?N ?_; (case hh => exact rfl); (case F => k_asm); (case N => k_asm); k_whole); intro v' r' h' tk' e1' e2' e3' F' N'; (first | (have e4' := Or.resolve_left e3' (by omega); clear e3') | (have e4' := Or.resolve_right e3' (by omega); clear e3') | skip); (try k_sweep)))
local macro_rules | `(tactic| walk_at "call builtin:abs") => `(tactic| (k_here; (with_reducible refine Mine.abs_g ?_); intro v' u' tk' e1' e2' e3'))
local macro_rules | `(tactic| walk_at "binaryOp LShift int int") => `(tactic| (k_here; (with_reducible refine Mine.lshift_g ?kbn ?kbs ?_); (case kbn => omega); (case kbs => omega); intro v' u' tk' e1' e2' e3'; (first | replace e2' := e2' (by omega) | clear e2')))
local macro_rules | `(tactic| walk_at "storeName") => `(tactic| (k_here; (with_reducible first | show wpAny _ _ (storeName _ _ (Value.int (HAdd.hAdd _ _) _)) _ _ _ | show wpAny _ _ (storeName _ _ (Value.int (HSub.hSub _ _) _)) _ _ _ | show wpAny _ _ (storeName _ _ (Value.int (HMul.hMul _ _) _)) _ _ _ | show wpAny _ _ (storeName _ _ (Value.int (Neg.neg _) _)) _ _ _ | show wpAny _ _ (storeName _ _ (Value.int (Int.fdiv _ _) _)) _ _ _ | show wpAny _ _ (storeName _ _ (Value.int (Int.fmod _ _) _)) _ _ _ | show wpAny _ _ (storeName _ _ (Value.int (ite _ _ _) _)) _ _ _); (refine Mine.store_g (fun v' e1' => ?_)); k_dflt (refine' storeX_L ?F ?N ?_ ?a ?b; (case F => k_asm); (case N => k_asm); (case a => rfl); (case b => rfl); k_whole; intro h' F' N'; (try k_sweep))))
local macro_rules | `(tactic| walk_at "call ref") => `(tactic| (k_here; (with_reducible show wpAny _ _ (call (Value.ref 116) _) _ _ _); k_dflt (refine' call_cls ?k1 ?k2 ?k3 ?k4 ?k5 ?k6 ?_; (case k1 => k_asm); (case k2 => k_asm); (case k3 => k_asm); (case k4 => k_is); (case k5 => k_is); (case k6 => k_is); k_whole; intro x' d' h' F' N' l1 l2; (try k_lt l1); (try k_lt2 l2); (try k_sweep); (refine' code_def ?k1 ?k2 ?k3 ?k4 ?k5 ?kA ?kF ?kK ?k6 ?k7 ?k8 ?k9 ?kB ?_ ?c2 ?c3 ?c4 ?c5; (case kA => exact rfl); (case kF => exact rfl); (case kK => first | exact rfl | assumption); (case k1 => k_asm); (case k2 => k_asm); (case k3 => k_asm); (case k4 => k_asm); (case k5 => k_asm); (case k6 => k_is); (case k7 => k_is); (case k8 => ktr_room); (case k9 => first | exact BindsTo.of_eq rfl | exact binds_K (by k_in) rfl (by k_is) rfl rfl rfl); (case c5 => decide); (case kB => exact locs rfl); (case c2 => exact rfl); (case c3 => exact rfl); (case c4 => exact rfl); k_whole; intro g' L' h' FG' F' N' B' X' T'; (try dsimp only); (try k_lift B'); (try k_fold)))))
local macro_rules | `(tactic| walk_at "binaryOp FloorDiv int int") => `(tactic| (k_here; (with_reducible refine floordiv_int ?kbn ?_ (Or.inl (Mine.noPy ?kbp))); (case kbn => omega); (case kbp => first | omega | (refine' Nat.le_trans ?ba ?bb; (case ba => bits_by_make); (case bb => omega)))))
local macro_rules | `(tactic| walk_at "binaryOp Mod int int") => `(tactic| (k_here; (with_reducible refine mod_int' ?kbn ?_); (case kbn => omega)))
local macro_rules | `(tactic| walk_at "binaryOp Mult int int") => `(tactic| (k_here; (with_reducible refine P.mul_int ?_ ?kbn); (case kbn => first | exact PySem.IntMulOk.of_left (PySem.intBits_le_64 (by omega) (by omega)) | exact PySem.IntMulOk.of_right (PySem.intBits_le_64 (by omega) (by omega)) | exact Mine.mulOk (by omega))))
local macro_rules | `(tactic| walk_at "call type:int") => `(tactic| (k_here; (with_reducible show wpAny _ _ (call (Value.type "int") [Value.ref _]) _ _ _); k_dflt (refine' Mine.int_inst ?k1 ?k2 ?k3 ?k4 ?_; (case k1 => k_in); (case k2 => k_inst); (case k3 => k_is); (case k4 => k_is); k_whole)))
local macro_rules | `(tactic| k_mem) => `(tactic| assumption)
local macro_rules | `(tactic| walk_at "formatField int") => `(tactic| (k_here; (with_reducible refine Mine.fmt_g ?kbn ?_); (case kbn => first | omega | exact Mine.absBd (by assumption) (by omega)); intro v' u' tk' e1' e2'))
local macro_rules | `(tactic| walk_at "call ref") => `(tactic| (k_here; (with_reducible show wpAny _ _ (call (Value.ref 28) [Value.int _ _, Value.int _ _]) _ _ _); k_dflt (refine' Mine.cx_use (Mine.rounded_T _ _ _ _ _ _ _ _ _ ?h0 ?hd) ?k1 ?k2 ?k3 ?k4 ?k5 ?kK ?kd ?ku ?_; (case k1 => first | k_asm | fail "cx: below"); (case k2 => first | k_asm | fail "cx: frame"); (case k3 => first | k_asm | fail "cx: part"); (case k4 => first | k_asm | fail "cx: news"); (case k5 => first | k_asm | fail "cx: top"); (case kK => first | exact rfl | assumption | fail "cx: kind"); (case kd => first | ktr_room | fail "cx: room"); (case ku => first | ktr_units | fail "cx: units"); (case h0 => first | assumption | omega); (case hd => first | assumption | omega)); k_dflt (intro v' t' h' tk' e1' F' N'; obtain ⟨e1', e2'⟩ := e1'; (try k_sweep); (try dsimp only); (try k_fold))))
local macro_rules | `(tactic| walk_at "call ref") => `(tactic| (k_here; (with_reducible show wpAny _ _ (call (Value.ref 35) [Value.int _ _, Value.int _ _]) _ _ _); k_dflt (refine' Mine.cx_use (Mine.nearest_T _ _ _ _ _ _ _ _ _ ?h0 ?hn0 ?hn ?hd) ?k1 ?k2 ?k3 ?k4 ?k5 ?kK ?kd ?ku ?_; (case k1 => first | k_asm | fail "cx: below"); (case k2 => first | k_asm | fail "cx: frame"); (case k3 => first | k_asm | fail "cx: part"); (case k4 => first | k_asm | fail "cx: news"); (case k5 => first | k_asm | fail "cx: top"); (case kK => first | exact rfl | assumption | fail "cx: kind"); (case kd => first | ktr_room | fail "cx: room"); (case ku => first | ktr_units | fail "cx: units"); (case h0 => first | assumption | omega); (case hn0 => first | assumption | omega); (case hn => first | assumption | omega); (case hd => first | assumption | omega)); k_dflt (intro a' b' t' u' D' c' h' tk' e1' F' N' l1'; (try simp only [AllLt, and_true] at l1'); (try k_sweep); (try dsimp only); (try k_fold))))
local macro_rules | `(tactic| walk_at "call ref") => `(tactic| (k_here; (with_reducible show wpAny _ _ (call (Value.ref 71) [Value.ref _]) _ _ _); k_dflt (refine' Mine.cx_use (Mine.dint_T _ _ _ _ _ _ _ _ _ _ _ _ _ ?hx ?hdx ?h0 ?hb) ?k1 ?k2 ?k3 ?k4 ?k5 ?kK ?kd ?ku ?_; (case k1 => first | k_asm | fail "cx: below"); (case k2 => first | k_asm | fail "cx: frame"); (case k3 => first | k_asm | fail "cx: part"); (case k4 => first | k_asm | fail "cx: news"); (case k5 => first | k_asm | fail "cx: top"); (case kK => first | exact rfl | assumption | fail "cx: kind"); (case kd => first | ktr_room | fail "cx: room"); (case ku => first | ktr_units | fail "cx: units"); (case hx => first | assumption | k_mem); (case hdx => first | assumption | k_mem); (case h0 => omega); (case hb => omega)); k_dflt (intro v' t' h' tk' e1' F' N'; (try k_sweep); (try dsimp only [Mine.IntBack]); (try k_fold))))
local macro_rules | `(tactic| walk_at "call ref") => `(tactic| (k_here; (with_reducible show wpAny _ _ (call (Value.ref 42) [Value.ref _]) _ _ _); k_dflt (refine' Mine.cx_use (Mine.parts_T _ _ _ _ _ _ _ _ _ _ _ _ _ ?hx ?hdx) ?k1 ?k2 ?k3 ?k4 ?k5 ?kK ?kd ?ku ?_; (case k1 => first | k_asm | fail "cx: below"); (case k2 => first | k_asm | fail "cx: frame"); (case k3 => first | k_asm | fail "cx: part"); (case k4 => first | k_asm | fail "cx: news"); (case k5 => first | k_asm | fail "cx: top"); (case kK => first | exact rfl | assumption | fail "cx: kind"); (case kd => first | ktr_room | fail "cx: room"); (case ku => first | ktr_units | fail "cx: units"); (case hx => first | assumption | k_mem); (case hdx => first | assumption | k_mem)); k_dflt (intro a' b' t' u' D' c' h' tk' e1' F' N' l1'; obtain ⟨e1', e2'⟩ := e1'; subst e1'; subst e2'; (try simp only [AllLt, and_true] at l1'); (try k_sweep); (try dsimp only); (try k_fold))))
local macro_rules | `(tactic| walk_at "call ref") => `(tactic| (k_here; (with_reducible show wpAny _ _ (call (Value.ref 116) [Value.int _ _, Value.int _ _]) _ _ _); k_dflt (refine' Mine.cx_use (Mine.Double_T _ _ _ _ _ _ _ _ _ ?h0 ?hn ?hd) ?k1 ?k2 ?k3 ?k4 ?k5 ?kK ?kd ?ku ?_; (case k1 => first | k_asm | fail "cx: below"); (case k2 => first | k_asm | fail "cx: frame"); (case k3 => first | k_asm | fail "cx: part"); (case k4 => first | k_asm | fail "cx: news"); (case k5 => first | k_asm | fail "cx: top"); (case kK => first | exact rfl | assumption | fail "cx: kind"); (case kd => first | ktr_room | fail "cx: room"); (case ku => first | ktr_units | fail "cx: units"); (case h0 => first | omega | exact Int.mul_pos (by assumption) (by assumption)); (case hn => first | assumption | omega | (refine' Nat.le_trans ?ba ?bb; (case ba => bits_by_make); (case bb => omega))); (case hd => first | assumption | omega | (refine' Nat.le_trans ?ba ?bb; (case ba => bits_by_make); (case bb => omega)))); k_dflt (intro a' b' t' u' k1' k2' x' d' h' tk' e1' F' N' l1' l2'; obtain ⟨e1', e2', e3', e4'⟩ := e1'; (try simp only [AllLt, and_true] at l1'); (try k_lt2 l2'); (try k_sweep); (try dsimp only); (try k_fold))))
local macro_rules | `(tactic| walk_at "call ref") => `(tactic| (k_here; (with_reducible show wpAny _ _ (call (Value.ref 116) [Value.int _ _]) _ _ _); k_dflt (refine' Mine.cx_use (Mine.Double1_T _ _ _ _ _ _ _ ?hn) ?k1 ?k2 ?k3 ?k4 ?k5 ?kK ?kd ?ku ?_; (case k1 => first | k_asm | fail "cx: below"); (case k2 => first | k_asm | fail "cx: frame"); (case k3 => first | k_asm | fail "cx: part"); (case k4 => first | k_asm | fail "cx: news"); (case k5 => first | k_asm | fail "cx: top"); (case kK => first | exact rfl | assumption | fail "cx: kind"); (case kd => first | ktr_room | fail "cx: room"); (case ku => first | ktr_units | fail "cx: units"); (case hn => first | assumption | omega)); k_dflt (intro a' b' t' u' k1' k2' x' d' h' tk' e1' F' N' l1' l2'; obtain ⟨e1', e2', e3', e4'⟩ := e1'; (try simp only [AllLt, and_true] at l1'); (try k_lt2 l2'); (try k_sweep); (try dsimp only); (try k_fold))))
namespace Mine
abbrev RetB (news : List (Addr × Obj)) (v : Bool) (h₀ : Heap) (L : Addr) (m : Str → Option Value) (s : Shared) (Q : Value → Shared → Prop) : Prop :=
  ∀ (h' : Heap) (tk' : Nat), Fr h₀ L h' m → News h₀ L h' news → Q (.bool v) { s with heap := h', toks := tk' }
theorem ne0 {b : Int} (h : 0 < b) : (b != 0) = true := by simp; omega
theorem isfin_T (w : World) (mean mg mb) (news) (a b : Int) (t u k1 k2 : Tok) (x dx : Addr) (hx : (x, instObj 116 dx) ∈ news) (hdx : (dx, dblDict w.params a b t u k1 k2) ∈ news) (h0 : 0 < b) :
    Cx w mean mg mb 134 news 2 [.ref x] (RetB news true) := by
  dsimp only [Cx, PG, RetB]
  k_fill
  intros; rename_i hret
  refine wpAny_call ?_
  k_dflt cell_enter
  k_steps
  all_goals (rw [ne0 (by assumption)]; refine' hret _ _ ?e2 ?e3; (case e2 => k_asm); (case e3 => (refine' cb_drop ?cbN ?cbS; (case cbN => assumption); (case cbS => repeat' (first | with_reducible exact sub_refl | with_reducible refine sub_cons ?_ | refine sub_skip ?_)))))
theorem dblI_T (w : World) (mean mg mb) (news) (n : Int) (t : Tok) (hn : intBits n ≤ 400) :
    Cx w mean mg mb 127 news 6 [.int n t] (RetD w news fun a b => DblP n 1 a b) := by
  dsimp only [Cx, PG, RetD]
  k_fill
  intros; rename_i hret
  refine wpAny_call ?_
  k_dflt cell_enter
  k_steps
  all_goals (refine' hret _ _ _ _ _ _ _ _ _ _ ?e1 ?e2 ?e3 ?e4 ?e5; (case e2 => k_asm); (case e3 => (refine' cb_drop ?cbN ?cbS; (case cbN => assumption); (case cbS => repeat' (first | with_reducible exact sub_refl | with_reducible refine sub_cons ?_ | refine sub_skip ?_)))); (case e4 => first | assumption | exact allLt_of (by assumption)); (case e5 => assumption); (case e1 => exact ⟨by assumption, by assumption, by assumption, by assumption⟩))
end Mine
end
section
local macro_rules | `(tactic| ktr_units) => `(tactic| ((simp only [Mine.units_make, units_in1, units_deeper, Around.mark_units, ktrTop]); (have hcL9 := cLine_is); omega))
local macro_rules | `(tactic| ktr_room) => `(tactic| ((simp only [depth_mark, depth_under_make, depth_under_kw, depth_in1, depth_deeper, ktrTop]); omega))
local macro_rules | `(tactic| bits_by_make) => `(tactic| with_reducible assumption)
local macro_rules | `(tactic| walk_at "call builtin:divmod") => `(tactic| (k_here; (with_reducible show wpAny _ _ (call (Value.builtin _) [Value.int _ _, Value.int _ _]) _ _ _); refine' divmod_N ?F ?N ?b ?_ (Or.inl (Mine.noPy ?hp)); (case F => k_asm); (case N => k_asm); (case b => omega); (case hp => omega); k_whole; intro h' F' N'; (try k_sweep)))
local macro_rules | `(tactic| walk_at "call builtin:max") => `(tactic| (k_here; (with_reducible show wpAny _ _ (call (Value.builtin _) [Value.int _ _, Value.int _ _]) _ _ _); k_dflt (refine' Mine.max_g ?hh ?F ?N ?_; (case hh => exact rfl); (case F => k_asm); (case N => k_asm); k_whole); intro v' r' h' tk' e1' e2' e3' F' N'; (first | (have e4' := Or.resolve_left e3' (by omega); clear e3') | (have e4' := Or.resolve_right e3' (by omega); clear e3') | skip); (try k_sweep)))
local macro_rules | `(tactic| walk_at "call builtin:min") => `(tactic| (k_here; (with_reducible show wpAny _ _ (call (Value.builtin _) [Value.int _ _, Value.int _ _]) _ _ _); k_dflt (refine' Mine.min_g ?hh ?F ?N ?_; (case hh => exact rfl); (case F => k_asm); (case N => k_asm); k_whole); intro v' r' h' tk' e1' e2' e3' F' N'; (first | (have e4' := Or.resolve_left e3' (by omega); clear e3') | (have e4' := Or.resolve_right e3' (by omega); clear e3') | skip); (try k_sweep)))
local macro_rules | `(tactic| walk_at "call builtin:abs") => `(tactic| (k_here; (with_reducible refine Mine.abs_g ?_); intro v' u' tk' e1' e2' e3'))
local macro_rules | `(tactic| walk_at "binaryOp LShift int int") => `(tactic| (k_here; (with_reducible refine Mine.lshift_g ?kbn ?kbs ?_); (case kbn => omega); (case kbs => omega); intro v' u' tk' e1' e2' e3'; (first | replace e2' := e2' (by omega) | clear e2')))
local macro_rules | `(tactic| walk_at "storeName") => `(tactic| (k_here; (with_reducible first | show wpAny _ _ (storeName _ _ (Value.int (HAdd.hAdd _ _) _)) _ _ _ | show wpAny _ _ (storeName _ _ (Value.int (HSub.hSub _ _) _)) _ _ _ | show wpAny _ _ (storeName _ _ (Value.int (HMul.hMul _ _) _)) _ _ _ | show wpAny _ _ (storeName _ _ (Value.int (Neg.neg _) _)) _ _ _ | show wpAny _ _ (storeName _ _ (Value.int (Int.fdiv _ _) _)) _ _ _ | show wpAny _ _ (storeName _ _ (Value.int (Int.fmod _ _) _)) _ _ _ | show wpAny _ _ (storeName _ _ (Value.int (ite _ _ _) _)) _ _ _); (refine Mine.store_g (fun v' e1' => ?_)); k_dflt (refine' storeX_L ?F ?N ?_ ?a ?b; (case F => k_asm); (case N => k_asm); (case a => rfl); (case b => rfl); k_whole; intro h' F' N'; (try k_sweep))))
local macro_rules | `(tactic| walk_at "call ref") => `(tactic| (k_here; (with_reducible show wpAny _ _ (call (Value.ref 116) _) _ _ _); k_dflt (refine' call_cls ?k1 ?k2 ?k3 ?k4 ?k5 ?k6 ?_; (case k1 => k_asm); (case k2 => k_asm); (case k3 => k_asm); (case k4 => k_is); (case k5 => k_is); (case k6 => k_is); k_whole; intro x' d' h' F' N' l1 l2; (try k_lt l1); (try k_lt2 l2); (try k_sweep); (refine' code_def ?k1 ?k2 ?k3 ?k4 ?k5 ?kA ?kF ?kK ?k6 ?k7 ?k8 ?k9 ?kB ?_ ?c2 ?c3 ?c4 ?c5; (case kA => exact rfl); (case kF => exact rfl); (case kK => first | exact rfl | assumption); (case k1 => k_asm); (case k2 => k_asm); (case k3 => k_asm); (case k4 => k_asm); (case k5 => k_asm); (case k6 => k_is); (case k7 => k_is); (case k8 => ktr_room); (case k9 => first | exact BindsTo.of_eq rfl | exact binds_K (by k_in) rfl (by k_is) rfl rfl rfl); (case c5 => decide); (case kB => exact locs rfl); (case c2 => exact rfl); (case c3 => exact rfl); (case c4 => exact rfl); k_whole; intro g' L' h' FG' F' N' B' X' T'; (try dsimp only); (try k_lift B'); (try k_fold)))))
local macro_rules | `(tactic| walk_at "binaryOp FloorDiv int int") => `(tactic| (k_here; (with_reducible refine floordiv_int ?kbn ?_ (Or.inl (Mine.noPy ?kbp))); (case kbn => omega); (case kbp => first | omega | (refine' Nat.le_trans ?ba ?bb; (case ba => bits_by_make); (case bb => omega)))))
local macro_rules | `(tactic| walk_at "binaryOp Mod int int") => `(tactic| (k_here; (with_reducible refine mod_int' ?kbn ?_); (case kbn => omega)))
local macro_rules | `(tactic| walk_at "binaryOp Mult int int") => `(tactic| (k_here; (with_reducible refine P.mul_int ?_ ?kbn); (case kbn => first | exact PySem.IntMulOk.of_left (PySem.intBits_le_64 (by omega) (by omega)) | exact PySem.IntMulOk.of_right (PySem.intBits_le_64 (by omega) (by omega)) | exact Mine.mulOk (by omega))))
local macro_rules | `(tactic| walk_at "call type:int") => `(tactic| (k_here; (with_reducible show wpAny _ _ (call (Value.type "int") [Value.ref _]) _ _ _); k_dflt (refine' Mine.int_inst ?k1 ?k2 ?k3 ?k4 ?_; (case k1 => k_in); (case k2 => k_inst); (case k3 => k_is); (case k4 => k_is); k_whole)))
local macro_rules | `(tactic| k_mem) => `(tactic| assumption)
local macro_rules | `(tactic| walk_at "formatField int") => `(tactic| (k_here; (with_reducible refine Mine.fmt_g ?kbn ?_); (case kbn => first | omega | exact Mine.absBd (by assumption) (by omega)); intro v' u' tk' e1' e2'))
local macro_rules | `(tactic| walk_at "call ref") => `(tactic| (k_here; (with_reducible show wpAny _ _ (call (Value.ref 28) [Value.int _ _, Value.int _ _]) _ _ _); k_dflt (refine' Mine.cx_use (Mine.rounded_T _ _ _ _ _ _ _ _ _ ?h0 ?hd) ?k1 ?k2 ?k3 ?k4 ?k5 ?kK ?kd ?ku ?_; (case k1 => first | k_asm | fail "cx: below"); (case k2 => first | k_asm | fail "cx: frame"); (case k3 => first | k_asm | fail "cx: part"); (case k4 => first | k_asm | fail "cx: news"); (case k5 => first | k_asm | fail "cx: top"); (case kK => first | exact rfl | assumption | fail "cx: kind"); (case kd => first | ktr_room | fail "cx: room"); (case ku => first | ktr_units | fail "cx: units"); (case h0 => first | assumption | omega); (case hd => first | assumption | omega)); k_dflt (intro v' t' h' tk' e1' F' N'; obtain ⟨e1', e2'⟩ := e1'; (try k_sweep); (try dsimp only); (try k_fold))))
local macro_rules | `(tactic| walk_at "call ref") => `(tactic| (k_here; (with_reducible show wpAny _ _ (call (Value.ref 35) [Value.int _ _, Value.int _ _]) _ _ _); k_dflt (refine' Mine.cx_use (Mine.nearest_T _ _ _ _ _ _ _ _ _ ?h0 ?hn0 ?hn ?hd) ?k1 ?k2 ?k3 ?k4 ?k5 ?kK ?kd ?ku ?_; (case k1 => first | k_asm | fail "cx: below"); (case k2 => first | k_asm | fail "cx: frame"); (case k3 => first | k_asm | fail "cx: part"); (case k4 => first | k_asm | fail "cx: news"); (case k5 => first | k_asm | fail "cx: top"); (case kK => first | exact rfl | assumption | fail "cx: kind"); (case kd => first | ktr_room | fail "cx: room"); (case ku => first | ktr_units | fail "cx: units"); (case h0 => first | assumption | omega); (case hn0 => first | assumption | omega); (case hn => first | assumption | omega); (case hd => first | assumption | omega)); k_dflt (intro a' b' t' u' D' c' h' tk' e1' F' N' l1'; (try simp only [AllLt, and_true] at l1'); (try k_sweep); (try dsimp only); (try k_fold))))
local macro_rules | `(tactic| walk_at "call ref") => `(tactic| (k_here; (with_reducible show wpAny _ _ (call (Value.ref 71) [Value.ref _]) _ _ _); k_dflt (refine' Mine.cx_use (Mine.dint_T _ _ _ _ _ _ _ _ _ _ _ _ _ ?hx ?hdx ?h0 ?hb) ?k1 ?k2 ?k3 ?k4 ?k5 ?kK ?kd ?ku ?_; (case k1 => first | k_asm | fail "cx: below"); (case k2 => first | k_asm | fail "cx: frame"); (case k3 => first | k_asm | fail "cx: part"); (case k4 => first | k_asm | fail "cx: news"); (case k5 => first | k_asm | fail "cx: top"); (case kK => first | exact rfl | assumption | fail "cx: kind"); (case kd => first | ktr_room | fail "cx: room"); (case ku => first | ktr_units | fail "cx: units"); (case hx => first | assumption | k_mem); (case hdx => first | assumption | k_mem); (case h0 => omega); (case hb => omega)); k_dflt (intro v' t' h' tk' e1' F' N'; (try k_sweep); (try dsimp only [Mine.IntBack]); (try k_fold))))
local macro_rules | `(tactic| walk_at "call ref") => `(tactic| (k_here; (with_reducible show wpAny _ _ (call (Value.ref 42) [Value.ref _]) _ _ _); k_dflt (refine' Mine.cx_use (Mine.parts_T _ _ _ _ _ _ _ _ _ _ _ _ _ ?hx ?hdx) ?k1 ?k2 ?k3 ?k4 ?k5 ?kK ?kd ?ku ?_; (case k1 => first | k_asm | fail "cx: below"); (case k2 => first | k_asm | fail "cx: frame"); (case k3 => first | k_asm | fail "cx: part"); (case k4 => first | k_asm | fail "cx: news"); (case k5 => first | k_asm | fail "cx: top"); (case kK => first | exact rfl | assumption | fail "cx: kind"); (case kd => first | ktr_room | fail "cx: room"); (case ku => first | ktr_units | fail "cx: units"); (case hx => first | assumption | k_mem); (case hdx => first | assumption | k_mem)); k_dflt (intro a' b' t' u' D' c' h' tk' e1' F' N' l1'; obtain ⟨e1', e2'⟩ := e1'; subst e1'; subst e2'; (try simp only [AllLt, and_true] at l1'); (try k_sweep); (try dsimp only); (try k_fold))))
local macro_rules | `(tactic| walk_at "call ref") => `(tactic| (k_here; (with_reducible show wpAny _ _ (call (Value.ref 116) [Value.int _ _, Value.int _ _]) _ _ _); k_dflt (refine' Mine.cx_use (Mine.Double_T _ _ _ _ _ _ _ _ _ ?h0 ?hn ?hd) ?k1 ?k2 ?k3 ?k4 ?k5 ?kK ?kd ?ku ?_; (case k1 => first | k_asm | fail "cx: below"); (case k2 => first | k_asm | fail "cx: frame"); (case k3 => first | k_asm | fail "cx: part"); (case k4 => first | k_asm | fail "cx: news"); (case k5 => first | k_asm | fail "cx: top"); (case kK => first | exact rfl | assumption | fail "cx: kind"); (case kd => first | ktr_room | fail "cx: room"); (case ku => first | ktr_units | fail "cx: units"); (case h0 => first | omega | exact Int.mul_pos (by assumption) (by assumption)); (case hn => first | assumption | omega | (refine' Nat.le_trans ?ba ?bb; (case ba => bits_by_make); (case bb => omega))); (case hd => first | assumption | omega | (refine' Nat.le_trans ?ba ?bb; (case ba => bits_by_make); (case bb => omega)))); k_dflt (intro a' b' t' u' k1' k2' x' d' h' tk' e1' F' N' l1' l2'; obtain ⟨e1', e2', e3', e4'⟩ := e1'; (try simp only [AllLt, and_true] at l1'); (try k_lt2 l2'); (try k_sweep); (try dsimp only); (try k_fold))))
local macro_rules | `(tactic| walk_at "call ref") => `(tactic| (k_here; (with_reducible show wpAny _ _ (call (Value.ref 116) [Value.int _ _]) _ _ _); k_dflt (refine' Mine.cx_use (Mine.Double1_T _ _ _ _ _ _ _ ?hn) ?k1 ?k2 ?k3 ?k4 ?k5 ?kK ?kd ?ku ?_; (case k1 => first | k_asm | fail "cx: below"); (case k2 => first | k_asm | fail "cx: frame"); (case k3 => first | k_asm | fail "cx: part"); (case k4 => first | k_asm | fail "cx: news"); (case k5 => first | k_asm | fail "cx: top"); (case kK => first | exact rfl | assumption | fail "cx: kind"); (case kd => first | ktr_room | fail "cx: room"); (case ku => first | ktr_units | fail "cx: units"); (case hn => first | assumption | omega)); k_dflt (intro a' b' t' u' k1' k2' x' d' h' tk' e1' F' N' l1' l2'; obtain ⟨e1', e2', e3', e4'⟩ := e1'; (try simp only [AllLt, and_true] at l1'); (try k_lt2 l2'); (try k_sweep); (try dsimp only); (try k_fold))))
local macro_rules | `(tactic| walk_at "call ref") => `(tactic| (k_here; (with_reducible show wpAny _ _ (call (Value.ref 134) [Value.ref _]) _ _ _); k_dflt (refine' Mine.cx_use (Mine.isfin_T _ _ _ _ _ _ _ _ _ _ _ _ _ ?hx ?hdx ?h0) ?k1 ?k2 ?k3 ?k4 ?k5 ?kK ?kd ?ku ?_; (case k1 => first | k_asm | fail "cx: below"); (case k2 => first | k_asm | fail "cx: frame"); (case k3 => first | k_asm | fail "cx: part"); (case k4 => first | k_asm | fail "cx: news"); (case k5 => first | k_asm | fail "cx: top"); (case kK => first | exact rfl | assumption | fail "cx: kind"); (case kd => first | ktr_room | fail "cx: room"); (case ku => first | ktr_units | fail "cx: units"); (case hx => first | assumption | k_mem); (case hdx => first | assumption | k_mem); (case h0 => omega)); k_dflt (intro h' tk' F' N'; (try k_sweep); (try dsimp only); (try k_fold))))
local macro_rules | `(tactic| walk_at "call ref") => `(tactic| (k_here; (with_reducible show wpAny _ _ (call (Value.ref 127) [Value.int _ _]) _ _ _); k_dflt (refine' Mine.cx_use (Mine.dblI_T _ _ _ _ _ _ _ ?hn) ?k1 ?k2 ?k3 ?k4 ?k5 ?kK ?kd ?ku ?_; (case k1 => first | k_asm | fail "cx: below"); (case k2 => first | k_asm | fail "cx: frame"); (case k3 => first | k_asm | fail "cx: part"); (case k4 => first | k_asm | fail "cx: news"); (case k5 => first | k_asm | fail "cx: top"); (case kK => first | exact rfl | assumption | fail "cx: kind"); (case kd => first | ktr_room | fail "cx: room"); (case ku => first | ktr_units | fail "cx: units"); (case hn => first | assumption | omega)); k_dflt (intro a' b' t' u' k1' k2' x' d' h' tk' e1' F' N' l1' l2'; obtain ⟨e1', e2', e3', e4'⟩ := e1'; (try simp only [AllLt, and_true] at l1'); (try k_lt2 l2'); (try k_sweep); (try dsimp only); (try k_fold))))
namespace Mine
theorem sub_T (w : World) (mean mg mb) (news) (a b n : Int) (t u k1 k2 r : Tok) (x dx : Addr) (hx : (x, instObj 116 dx) ∈ news) (hdx : (dx, dblDict w.params a b t u k1 k2) ∈ news) (h0 : 0 < b) (ha : intBits a ≤ 130) (hb : intBits b ≤ 130) (hn : intBits n ≤ 60) :
    Cx w mean mg mb 106 news 8 [.ref x, .int n r] (RetD w news fun a' b' => ∃ p q, DblP n 1 p q ∧ DblP (a * q - p * b) (b * q) a' b') := by
  have b1 : intBits 1 = 1 := by decide
  dsimp only [Cx, PG, RetD]
  k_fill
  intros; rename_i hret
  refine wpAny_call ?_
  k_dflt cell_enter
  k_steps
  all_goals (refine' hret _ _ _ _ _ _ _ _ _ _ ?e1 ?e2 ?e3 ?e4 ?e5; (case e2 => k_asm); (case e3 => (refine' cb_drop ?cbN ?cbS; (case cbN => assumption); (case cbS => repeat' (first | with_reducible exact sub_refl | with_reducible refine sub_cons ?_ | refine sub_skip ?_)))); (case e4 => first | assumption | exact And.right (And.right (And.right (by assumption)))); (case e5 => assumption); (case e1 => exact ⟨_, _, ⟨by assumption, by assumption, by assumption, by assumption⟩, ⟨by assumption, by assumption, by assumption, by assumption⟩⟩))
end Mine
end
section
local macro_rules | `(tactic| ktr_units) => `(tactic| ((simp only [Mine.units_make, units_in1, units_deeper, Around.mark_units, ktrTop]); (have hcL9 := cLine_is); omega))
local macro_rules | `(tactic| ktr_room) => `(tactic| ((simp only [depth_mark, depth_under_make, depth_under_kw, depth_in1, depth_deeper, ktrTop]); omega))
local macro_rules | `(tactic| bits_by_make) => `(tactic| with_reducible assumption)
local macro_rules | `(tactic| walk_at "call builtin:divmod") => `(tactic| (k_here; (with_reducible show wpAny _ _ (call (Value.builtin _) [Value.int _ _, Value.int _ _]) _ _ _); refine' divmod_N ?F ?N ?b ?_ (Or.inl (Mine.noPy ?hp)); (case F => k_asm); (case N => k_asm); (case b => omega); (case hp => omega); k_whole; intro h' F' N'; (try k_sweep)))
local macro_rules | `(tactic| walk_at "call builtin:max") => `(tactic| (k_here; (with_reducible show wpAny _ _ (call (Value.builtin _) [Value.int _ _, Value.int _ _]) _ _ _); k_dflt (refine' Mine.max_g ?hh ?F ?N ?_; (case hh => exact rfl); (case F => k_asm); (case N => k_asm); k_whole); intro v' r' h' tk' e1' e2' e3' F' N'; (first | (have e4' := Or.resolve_left e3' (by omega); clear e3') | (have e4' := Or.resolve_right e3' (by omega); clear e3') | skip); (try k_sweep)))
local macro_rules | `(tactic| walk_at "call builtin:min") => `(tactic| (k_here; (with_reducible show wpAny _ _ (call (Value.builtin _) [Value.int _ _, Value.int _ _]) _ _ _); k_dflt (refine' Mine.min_g ?hh ?F ?N ?_; (case hh => exact rfl); (case F => k_asm); (case N => k_asm); k_whole); intro v' r' h' tk' e1' e2' e3' F' N'; (first | (have e4' := Or.resolve_left e3' (by omega); clear e3') | (have e4' := Or.resolve_right e3' (by omega); clear e3') | skip); (try k_sweep)))
local macro_rules | `(tactic| walk_at "call builtin:abs") => `(tactic| (k_here; (with_reducible refine Mine.abs_g ?_); intro v' u' tk' e1' e2' e3'))
local macro_rules | `(tactic| walk_at "binaryOp LShift int int") => `(tactic| (k_here; (with_reducible refine Mine.lshift_g ?kbn ?kbs ?_); (case kbn => omega); (case kbs => omega); intro v' u' tk' e1' e2' e3'; (first | replace e2' := e2' (by omega) | clear e2')))
local macro_rules | `(tactic| walk_at "storeName") => `(tactic| (k_here; (with_reducible first | show wpAny _ _ (storeName _ _ (Value.int (HAdd.hAdd _ _) _)) _ _ _ | show wpAny _ _ (storeName _ _ (Value.int (HSub.hSub _ _) _)) _ _ _ | show wpAny _ _ (storeName _ _ (Value.int (HMul.hMul _ _) _)) _ _ _ | show wpAny _ _ (storeName _ _ (Value.int (Neg.neg _) _)) _ _ _ | show wpAny _ _ (storeName _ _ (Value.int (Int.fdiv _ _) _)) _ _ _ | show wpAny _ _ (storeName _ _ (Value.int (Int.fmod _ _) _)) _ _ _ | show wpAny _ _ (storeName _ _ (Value.int (ite _ _ _) _)) _ _ _); (refine Mine.store_g (fun v' e1' => ?_)); k_dflt (refine' storeX_L ?F ?N ?_ ?a ?b; (case F => k_asm); (case N => k_asm); (case a => rfl); (case b => rfl); k_whole; intro h' F' N'; (try k_sweep))))
local macro_rules | `(tactic| walk_at "call ref") => `(tactic| (k_here; (with_reducible show wpAny _ _ (call (Value.ref 116) _) _ _ _); k_dflt (refine' call_cls ?k1 ?k2 ?k3 ?k4 ?k5 ?k6 ?_; (case k1 => k_asm); (case k2 => k_asm); (case k3 => k_asm); (case k4 => k_is); (case k5 => k_is); (case k6 => k_is); k_whole; intro x' d' h' F' N' l1 l2; (try k_lt l1); (try k_lt2 l2); (try k_sweep); (refine' code_def ?k1 ?k2 ?k3 ?k4 ?k5 ?kA ?kF ?kK ?k6 ?k7 ?k8 ?k9 ?kB ?_ ?c2 ?c3 ?c4 ?c5; (case kA => exact rfl); (case kF => exact rfl); (case kK => first | exact rfl | assumption); (case k1 => k_asm); (case k2 => k_asm); (case k3 => k_asm); (case k4 => k_asm); (case k5 => k_asm); (case k6 => k_is); (case k7 => k_is); (case k8 => ktr_room); (case k9 => first | exact BindsTo.of_eq rfl | exact binds_K (by k_in) rfl (by k_is) rfl rfl rfl); (case c5 => decide); (case kB => exact locs rfl); (case c2 => exact rfl); (case c3 => exact rfl); (case c4 => exact rfl); k_whole; intro g' L' h' FG' F' N' B' X' T'; (try dsimp only); (try k_lift B'); (try k_fold)))))
local macro_rules | `(tactic| walk_at "binaryOp FloorDiv int int") => `(tactic| (k_here; (with_reducible refine floordiv_int ?kbn ?_ (Or.inl (Mine.noPy ?kbp))); (case kbn => omega); (case kbp => first | omega | (refine' Nat.le_trans ?ba ?bb; (case ba => bits_by_make); (case bb => omega)))))
local macro_rules | `(tactic| walk_at "binaryOp Mod int int") => `(tactic| (k_here; (with_reducible refine mod_int' ?kbn ?_); (case kbn => omega)))
local macro_rules | `(tactic| walk_at "binaryOp Mult int int") => `(tactic| (k_here; (with_reducible refine P.mul_int ?_ ?kbn); (case kbn => first | exact PySem.IntMulOk.of_left (PySem.intBits_le_64 (by omega) (by omega)) | exact PySem.IntMulOk.of_right (PySem.intBits_le_64 (by omega) (by omega)) | exact Mine.mulOk (by omega))))
local macro_rules | `(tactic| walk_at "call type:int") => `(tactic| (k_here; (with_reducible show wpAny _ _ (call (Value.type "int") [Value.ref _]) _ _ _); k_dflt (refine' Mine.int_inst ?k1 ?k2 ?k3 ?k4 ?_; (case k1 => k_in); (case k2 => k_inst); (case k3 => k_is); (case k4 => k_is); k_whole)))
local macro_rules | `(tactic| k_mem) => `(tactic| assumption)
local macro_rules | `(tactic| walk_at "formatField int") => `(tactic| (k_here; (with_reducible refine Mine.fmt_g ?kbn ?_); (case kbn => first | omega | exact Mine.absBd (by assumption) (by omega)); intro v' u' tk' e1' e2'))
local macro_rules | `(tactic| walk_at "call ref") => `(tactic| (k_here; (with_reducible show wpAny _ _ (call (Value.ref 28) [Value.int _ _, Value.int _ _]) _ _ _); k_dflt (refine' Mine.cx_use (Mine.rounded_T _ _ _ _ _ _ _ _ _ ?h0 ?hd) ?k1 ?k2 ?k3 ?k4 ?k5 ?kK ?kd ?ku ?_; (case k1 => first | k_asm | fail "cx: below"); (case k2 => first | k_asm | fail "cx: frame"); (case k3 => first | k_asm | fail "cx: part"); (case k4 => first | k_asm | fail "cx: news"); (case k5 => first | k_asm | fail "cx: top"); (case kK => first | exact rfl | assumption | fail "cx: kind"); (case kd => first | ktr_room | fail "cx: room"); (case ku => first | ktr_units | fail "cx: units"); (case h0 => first | assumption | omega); (case hd => first | assumption | omega)); k_dflt (intro v' t' h' tk' e1' F' N'; obtain ⟨e1', e2'⟩ := e1'; (try k_sweep); (try dsimp only); (try k_fold))))
local macro_rules | `(tactic| walk_at "call ref") => `(tactic| (k_here; (with_reducible show wpAny _ _ (call (Value.ref 35) [Value.int _ _, Value.int _ _]) _ _ _); k_dflt (refine' Mine.cx_use (Mine.nearest_T _ _ _ _ _ _ _ _ _ ?h0 ?hn0 ?hn ?hd) ?k1 ?k2 ?k3 ?k4 ?k5 ?kK ?kd ?ku ?_; (case k1 => first | k_asm | fail "cx: below"); (case k2 => first | k_asm | fail "cx: frame"); (case k3 => first | k_asm | fail "cx: part"); (case k4 => first | k_asm | fail "cx: news"); (case k5 => first | k_asm | fail "cx: top"); (case kK => first | exact rfl | assumption | fail "cx: kind"); (case kd => first | ktr_room | fail "cx: room"); (case ku => first | ktr_units | fail "cx: units"); (case h0 => first | assumption | omega); (case hn0 => first | assumption | omega); (case hn => first | assumption | omega); (case hd => first | assumption | omega)); k_dflt (intro a' b' t' u' D' c' h' tk' e1' F' N' l1'; (try simp only [AllLt, and_true] at l1'); (try k_sweep); (try dsimp only); (try k_fold))))
local macro_rules | `(tactic| walk_at "call ref") => `(tactic| (k_here; (with_reducible show wpAny _ _ (call (Value.ref 71) [Value.ref _]) _ _ _); k_dflt (refine' Mine.cx_use (Mine.dint_T _ _ _ _ _ _ _ _ _ _ _ _ _ ?hx ?hdx ?h0 ?hb) ?k1 ?k2 ?k3 ?k4 ?k5 ?kK ?kd ?ku ?_; (case k1 => first | k_asm | fail "cx: below"); (case k2 => first | k_asm | fail "cx: frame"); (case k3 => first | k_asm | fail "cx: part"); (case k4 => first | k_asm | fail "cx: news"); (case k5 => first | k_asm | fail "cx: top"); (case kK => first | exact rfl | assumption | fail "cx: kind"); (case kd => first | ktr_room | fail "cx: room"); (case ku => first | ktr_units | fail "cx: units"); (case hx => first | assumption | k_mem); (case hdx => first | assumption | k_mem); (case h0 => omega); (case hb => omega)); k_dflt (intro v' t' h' tk' e1' F' N'; (try k_sweep); (try dsimp only [Mine.IntBack]); (try k_fold))))
local macro_rules | `(tactic| walk_at "call ref") => `(tactic| (k_here; (with_reducible show wpAny _ _ (call (Value.ref 42) [Value.ref _]) _ _ _); k_dflt (refine' Mine.cx_use (Mine.parts_T _ _ _ _ _ _ _ _ _ _ _ _ _ ?hx ?hdx) ?k1 ?k2 ?k3 ?k4 ?k5 ?kK ?kd ?ku ?_; (case k1 => first | k_asm | fail "cx: below"); (case k2 => first | k_asm | fail "cx: frame"); (case k3 => first | k_asm | fail "cx: part"); (case k4 => first | k_asm | fail "cx: news"); (case k5 => first | k_asm | fail "cx: top"); (case kK => first | exact rfl | assumption | fail "cx: kind"); (case kd => first | ktr_room | fail "cx: room"); (case ku => first | ktr_units | fail "cx: units"); (case hx => first | assumption | k_mem); (case hdx => first | assumption | k_mem)); k_dflt (intro a' b' t' u' D' c' h' tk' e1' F' N' l1'; obtain ⟨e1', e2'⟩ := e1'; subst e1'; subst e2'; (try simp only [AllLt, and_true] at l1'); (try k_sweep); (try dsimp only); (try k_fold))))
local macro_rules | `(tactic| walk_at "call ref") => `(tactic| (k_here; (with_reducible show wpAny _ _ (call (Value.ref 116) [Value.int _ _, Value.int _ _]) _ _ _); k_dflt (refine' Mine.cx_use (Mine.Double_T _ _ _ _ _ _ _ _ _ ?h0 ?hn ?hd) ?k1 ?k2 ?k3 ?k4 ?k5 ?kK ?kd ?ku ?_; (case k1 => first | k_asm | fail "cx: below"); (case k2 => first | k_asm | fail "cx: frame"); (case k3 => first | k_asm | fail "cx: part"); (case k4 => first | k_asm | fail "cx: news"); (case k5 => first | k_asm | fail "cx: top"); (case kK => first | exact rfl | assumption | fail "cx: kind"); (case kd => first | ktr_room | fail "cx: room"); (case ku => first | ktr_units | fail "cx: units"); (case h0 => first | omega | exact Int.mul_pos (by assumption) (by assumption)); (case hn => first | assumption | omega | (refine' Nat.le_trans ?ba ?bb; (case ba => bits_by_make); (case bb => omega))); (case hd => first | assumption | omega | (refine' Nat.le_trans ?ba ?bb; (case ba => bits_by_make); (case bb => omega)))); k_dflt (intro a' b' t' u' k1' k2' x' d' h' tk' e1' F' N' l1' l2'; obtain ⟨e1', e2', e3', e4'⟩ := e1'; (try simp only [AllLt, and_true] at l1'); (try k_lt2 l2'); (try k_sweep); (try dsimp only); (try k_fold))))
local macro_rules | `(tactic| walk_at "call ref") => `(tactic| (k_here; (with_reducible show wpAny _ _ (call (Value.ref 116) [Value.int _ _]) _ _ _); k_dflt (refine' Mine.cx_use (Mine.Double1_T _ _ _ _ _ _ _ ?hn) ?k1 ?k2 ?k3 ?k4 ?k5 ?kK ?kd ?ku ?_; (case k1 => first | k_asm | fail "cx: below"); (case k2 => first | k_asm | fail "cx: frame"); (case k3 => first | k_asm | fail "cx: part"); (case k4 => first | k_asm | fail "cx: news"); (case k5 => first | k_asm | fail "cx: top"); (case kK => first | exact rfl | assumption | fail "cx: kind"); (case kd => first | ktr_room | fail "cx: room"); (case ku => first | ktr_units | fail "cx: units"); (case hn => first | assumption | omega)); k_dflt (intro a' b' t' u' k1' k2' x' d' h' tk' e1' F' N' l1' l2'; obtain ⟨e1', e2', e3', e4'⟩ := e1'; (try simp only [AllLt, and_true] at l1'); (try k_lt2 l2'); (try k_sweep); (try dsimp only); (try k_fold))))
local macro_rules | `(tactic| walk_at "call ref") => `(tactic| (k_here; (with_reducible show wpAny _ _ (call (Value.ref 134) [Value.ref _]) _ _ _); k_dflt (refine' Mine.cx_use (Mine.isfin_T _ _ _ _ _ _ _ _ _ _ _ _ _ ?hx ?hdx ?h0) ?k1 ?k2 ?k3 ?k4 ?k5 ?kK ?kd ?ku ?_; (case k1 => first | k_asm | fail "cx: below"); (case k2 => first | k_asm | fail "cx: frame"); (case k3 => first | k_asm | fail "cx: part"); (case k4 => first | k_asm | fail "cx: news"); (case k5 => first | k_asm | fail "cx: top"); (case kK => first | exact rfl | assumption | fail "cx: kind"); (case kd => first | ktr_room | fail "cx: room"); (case ku => first | ktr_units | fail "cx: units"); (case hx => first | assumption | k_mem); (case hdx => first | assumption | k_mem); (case h0 => omega)); k_dflt (intro h' tk' F' N'; (try k_sweep); (try dsimp only); (try k_fold))))
local macro_rules | `(tactic| walk_at "call ref") => `(tactic| (k_here; (with_reducible show wpAny _ _ (call (Value.ref 127) [Value.int _ _]) _ _ _); k_dflt (refine' Mine.cx_use (Mine.dblI_T _ _ _ _ _ _ _ ?hn) ?k1 ?k2 ?k3 ?k4 ?k5 ?kK ?kd ?ku ?_; (case k1 => first | k_asm | fail "cx: below"); (case k2 => first | k_asm | fail "cx: frame"); (case k3 => first | k_asm | fail "cx: part"); (case k4 => first | k_asm | fail "cx: news"); (case k5 => first | k_asm | fail "cx: top"); (case kK => first | exact rfl | assumption | fail "cx: kind"); (case kd => first | ktr_room | fail "cx: room"); (case ku => first | ktr_units | fail "cx: units"); (case hn => first | assumption | omega)); k_dflt (intro a' b' t' u' k1' k2' x' d' h' tk' e1' F' N' l1' l2'; obtain ⟨e1', e2', e3', e4'⟩ := e1'; (try simp only [AllLt, and_true] at l1'); (try k_lt2 l2'); (try k_sweep); (try dsimp only); (try k_fold))))
local macro_rules | `(tactic| walk_at "call ref") => `(tactic| (k_here; (with_reducible show wpAny _ _ (call (Value.ref 106) [Value.ref _, Value.int _ _]) _ _ _); k_dflt (refine' Mine.cx_use (Mine.sub_T _ _ _ _ _ _ _ _ _ _ _ _ _ _ _ ?hx ?hdx ?h0 ?ha ?hb ?hn) ?k1 ?k2 ?k3 ?k4 ?k5 ?kK ?kd ?ku ?_; (case k1 => first | k_asm | fail "cx: below"); (case k2 => first | k_asm | fail "cx: frame"); (case k3 => first | k_asm | fail "cx: part"); (case k4 => first | k_asm | fail "cx: news"); (case k5 => first | k_asm | fail "cx: top"); (case kK => first | exact rfl | assumption | fail "cx: kind"); (case kd => first | ktr_room | fail "cx: room"); (case ku => first | ktr_units | fail "cx: units"); (case hx => first | assumption | k_mem); (case hdx => first | assumption | k_mem); (case h0 => omega); (case ha => first | assumption | omega); (case hb => first | assumption | omega); (case hn => first | assumption | omega | ((rename (_ = Mine.trn _ _) => e9'); rw [e9']; omega))); k_dflt (intro a' b' t' u' k1' k2' x' d' h' tk' e1' F' N' l1' l2'; (try (replace e1' := Mine.frac_part (by assumption) (by assumption) e1'; (have e2' := e1'); obtain ⟨e3', e4', e5', e6'⟩ := e2')); (try simp only [AllLt, and_true] at l1'); (try k_lt2 l2'); (try k_sweep); (try dsimp only); (try dsimp only [PySem.W.CmpBack]); (try (refine ⟨rfl, ?_⟩)); (try (refine handed_on rfl ?_)); (try dsimp only); (try k_fold))))
local macro_rules | `(tactic| walk_at "call builtin:abs") => `(tactic| (k_here; (rename Mine.AbsOf _ _ => hA'); (with_reducible refine Mine.abs_g ?_); intro v' u' tk' e1' e2' e3'; (have e5' := Mine.absEq e1' hA'); subst e5'; clear e1' e2' e3'))
local macro_rules | `(tactic| walk_at "storeName") => `(tactic| (k_here; (with_reducible show wpAny _ _ (storeName _ _ (Value.int (HAdd.hAdd _ (HMul.hMul _ _)) _)) _ _ _); (refine Mine.store_g (fun v' e1' => ?_)); k_dflt (refine' storeX_L ?F ?N ?_ ?a ?b; (case F => k_asm); (case N => k_asm); (case a => rfl); (case b => rfl); k_whole; intro h' F' N'; (try k_sweep)); (try (k_dflt ((first | (have kI' := Mine.nfi_1 e1' (by assumption) (by assumption) (by assumption) (by assumption) (by assumption) (by assumption); obtain ⟨kI', kG'⟩ := kI') | (have kI' := Mine.nfi_2 e1' (by assumption) (by assumption) (by assumption) (by assumption) (by assumption) (by assumption); obtain ⟨kI', kG', kG2'⟩ := kI')); (have kJ' := kI'); (obtain ⟨i1', i2', i3', i4', i5', i6', i7', i8', i9', i10', i11'⟩ := kJ'))))))
namespace Mine
theorem nf_T (w : World) (mean mg mb) (news) (a b n : Int) (t u k1 k2 r : Tok) (x dx : Addr) (hx : (x, instObj 116 dx) ∈ news) (hdx : (dx, dblDict w.params a b t u k1 k2) ∈ news) (hn : AbsOf n a) (hn0 : 0 ≤ n) (hnb : n < b) (h0 : 0 < b) (hb : intBits b ≤ 7000) :
    Cx w mean mg mb 167 news 2 [.ref x, .int 1000 r] (RetII news fun p q => ∃ p', NFRes n b p' q ∧ p = if 0 ≤ a then p' else -p') := by
  have hnB : intBits n ≤ 7000 := Nat.le_trans (intBits_le_of_natAbs (y := b) (by omega) (Nat.le_refl _)) hb
  dsimp only [Cx, PG, RetII]
  k_fill
  intros; rename_i hret
  refine wpAny_call ?_
  k_dflt cell_enter
  k_with "exec While BoolOp cons nil" => (k_while (fun _ p q r s => NFI n b 1000 p q r s) (fun _ p q r s => (1001 - (q + s)).toNat) "a" "b" "c" "e"; have kInv2 := kInv; obtain ⟨i1, i2, i3, i4, i5, i6, i7, i8, i9, i10, i11⟩ := kInv2)
  k_with "state" => first | exact nfi_0 (by assumption) (by assumption) (by assumption) (by assumption) | assumption
  k_steps
  all_goals (refine' hret _ _ _ _ _ _ _ _ ?e1 ?e2 ?e3 ?e4; (case e2 => k_asm); (case e3 => (refine' cb_drop ?cbN ?cbS; (case cbN => assumption); (case cbS => repeat' (first | with_reducible exact sub_refl | with_reducible refine sub_cons ?_ | refine sub_skip ?_)))); (case e4 => first | assumption | exact allLt_of (by assumption) | exact And.right (And.right (And.right (by assumption))) | exact And.right (And.right (And.right (And.right (by assumption))))); (case e1 => first | exact ⟨_, nfres_hi (by assumption) (by assumption) (by assumption) (by omega) (by omega), (if_pos (by assumption)).symm⟩ | exact ⟨_, nfres_hi (by assumption) (by assumption) (by assumption) (by omega) (by omega), (if_neg (by assumption)).symm⟩ | exact ⟨_, nfres_lo (by assumption) (by assumption) (by assumption) (by omega) (by omega), (if_pos (by assumption)).symm⟩ | exact ⟨_, nfres_lo (by assumption) (by assumption) (by assumption) (by omega) (by omega), (if_neg (by assumption)).symm⟩))
end Mine
end
section
namespace Mine
/-- how a call comes back with a Double that the ledger bears -/
abbrev RetDM (w : World) (news : List (Addr × Obj)) (P : Int → Int → Prop) (h₀ : Heap) (L : Addr) (m : Str → Option Value) (s : Shared) (Q : Value → Shared → Prop) : Prop :=
  ∀ (a b : Int) (t u k1 k2 : Tok) (x dx : Addr) (news' : List (Addr × Obj)) (h' : Heap) (tk' : Nat), P a b → (∀ p ∈ news, p ∈ news') → Fr h₀ L h' m → News h₀ L h' news' → (x, instObj 116 dx) ∈ news' → (dx, dblDict w.params a b t u k1 k2) ∈ news' → Q (.ref x) { s with heap := h', toks := tk' }
/-- an int's text -/
def iS (a : Int) : Str := Str.ofString (toString a)
theorem iS_len {a : Int} {k : Nat} (hk : 0 < k) (h : a.natAbs < 10 ^ k) : (iS a).length ≤ k + 1 := by
  unfold iS
  rw [PySem.ofString_length]
  exact int_text_length_le10 hk h
theorem fmt_g {prog : Program} {w : World} {A : Around} {E : Value → Shared → Prop} {s : Shared} {a : Int} {t : Tok} {Q : Value → Shared → Prop} (hd : a.natAbs < 10 ^ 18) (h : ∀ (x : Str) u tk, x = iS a → x.length ≤ 19 → Q (.str x u) { s with toks := tk }) :
    wpAny (model prog w) A (formatField (.int a t) Str.empty) Q E s := formatField_int_small (by
      by_cases h0 : a.natAbs = 0
      · rw [h0]; decide
      · exact Nat.lt_trans ((Nat.log2_lt h0).mpr (Nat.lt_trans hd (by decide : 10 ^ 18 < 2 ^ 64))) (by decide)) (h _ _ _ rfl (iS_len (by decide) hd))
theorem absBd {v a : Int} (h : AbsOf v a) (hb : a.natAbs < 10 ^ 18) : v.natAbs < 10 ^ 18 := by
  have : v = (a.natAbs : Int) := h
  omega
theorem nfres_0 {d p q : Int} (hd : 0 < d) (h : NFRes 0 d p q) : p = 0 := by
  obtain ⟨p', q', r, s, ⟨i1, i2, i3, i4, i5, i6, i7, i8, i9, i10, i11⟩, hex, c⟩ := h
  have hp : p' = 0 := by
    rw [Int.zero_mul] at i6
    rcases Int.lt_or_le 0 p' with z | z
    · have := Int.mul_pos z hd
      omega
    · omega
  rcases c with ⟨c, rfl, rfl⟩ | ⟨_, rfl, rfl⟩
  · rw [hp, Int.zero_mul, Int.zero_mul, Int.zero_mul, Int.sub_zero, Int.sub_self, Int.zero_mul] at c
    have z1 : 0 < p * d := by omega
    have z2 := Int.mul_pos z1 (by omega : 0 < q')
    omega
  · exact hp
/-- what fractional says of the double a/b -/
def FracS (a b : Int) (x : Str) : Prop := ∃ p q, NFRes ((a - trn a b * b).natAbs : Int) b p q ∧
  ((q = 1 ∧ x = iS (trn a b + if 0 ≤ a then p else -p)) ∨
   (q ≠ 1 ∧ trn a b = 0 ∧ x = Str.empty ++ iS (if 0 ≤ a then p else -p) ++ Str.ofString "/" ++ iS q) ∨
   (q ≠ 1 ∧ trn a b ≠ 0 ∧ x = Str.empty ++ iS (trn a b) ++ Str.ofString " " ++ iS p ++ Str.ofString "/" ++ iS q))
theorem frac_core {a b a' b' p q X : Int} (hP : NumP a b) (hF : FP a b a' b') (hN : NFRes (a'.natAbs : Int) b' p q) (e : X = if 0 ≤ a' then p else -p) :
    NFRes ((a - trn a b * b).natAbs : Int) b p q ∧ X = (if 0 ≤ a then p else -p) ∧ (X.natAbs : Int) = p := by
  obtain ⟨hb, _⟩ := hP
  obtain ⟨hb', e1, _⟩ := hF
  have h1 := nfres_scale (n2 := ((a - trn a b * b).natAbs : Int)) hb' hb (by
    have := congrArg Int.natAbs e1
    rw [Int.natAbs_mul, Int.natAbs_mul] at this
    have eb : b = (b.natAbs : Int) := by omega
    have eb' : b' = (b'.natAbs : Int) := by omega
    rw [eb, eb'] at this ⊢
    generalize (a - trn a _ * _).natAbs = z at this ⊢
    exact_mod_cast this) hN
  have bd := nfres_bd hN e
  have t := trn_frac (a := a) hb
  refine ⟨h1, ?_, by split at e <;> omega⟩
  have sg : 0 ≤ a → 0 ≤ a' := fun h => by
    have f0 := t.2.1 h
    rcases Int.lt_or_le a' 0 with z | z
    · have z1 := Int.mul_neg_of_neg_of_pos z hb
      have z2 := Int.mul_nonneg f0 (by omega : 0 ≤ b')
      omega
    · exact z
  have sn : a < 0 → a' ≤ 0 := fun h => by
    have f0 := t.2.2.1 h
    rcases Int.lt_or_le 0 a' with z | z
    · have z1 := Int.mul_pos z hb
      have z2 : (a - trn a b * b) * b' ≤ 0 := by
        have := Int.mul_nonneg (a := -(a - trn a b * b)) (b := b') (by omega) (by omega)
        rw [Int.neg_mul] at this
        omega
      omega
    · exact z
  by_cases ha : 0 ≤ a
  · rw [if_pos ha, e, if_pos (sg ha)]
  · rw [if_neg ha, e]
    split
    · have ha' : a' = 0 := by have := sn (by omega); omega
      rw [ha'] at hN
      have := nfres_0 hb' hN
      omega
    · rfl
theorem frac_e1 {a b a' b' p q X W : Int} {v : Str} (eW : W = trn a b) (hP : NumP a b) (hF : FP a b a' b') (hN : NFRes (a'.natAbs : Int) b' p q) (e : X = if 0 ≤ a' then p else -p) (hq : q = 1) (ev : v = iS (W + X)) : FracS a b v := by
  obtain ⟨h1, h2, h3⟩ := frac_core hP hF hN e
  subst eW
  exact ⟨p, q, h1, .inl ⟨hq, by rw [ev, h2]⟩⟩
theorem frac_e2 {a b a' b' p q X W : Int} {x v1 v2 : Str} (ex : x = Str.empty ++ v1 ++ Str.ofString "/" ++ v2) (eW : W = trn a b) (hP : NumP a b) (hF : FP a b a' b') (hN : NFRes (a'.natAbs : Int) b' p q) (e : X = if 0 ≤ a' then p else -p) (hq : q ≠ 1) (hW : W = 0) (ev1 : v1 = iS X) (ev2 : v2 = iS q) :
    FracS a b x := by
  subst ex
  obtain ⟨h1, h2, h3⟩ := frac_core hP hF hN e
  exact ⟨p, q, h1, .inr (.inl ⟨hq, by omega, by rw [ev1, ev2, h2]⟩)⟩
theorem frac_e3 {a b a' b' p q X W Y : Int} {x v0 v1 v2 : Str} (ex : x = Str.empty ++ v0 ++ Str.ofString " " ++ v1 ++ Str.ofString "/" ++ v2) (eW : W = trn a b) (hP : NumP a b) (hF : FP a b a' b') (hN : NFRes (a'.natAbs : Int) b' p q) (e : X = if 0 ≤ a' then p else -p) (hq : q ≠ 1) (hW : W ≠ 0) (ev0 : v0 = iS W) (eY : AbsOf Y X) (ev1 : v1 = iS Y) (ev2 : v2 = iS q) :
    FracS a b x := by
  subst ex
  obtain ⟨h1, h2, h3⟩ := frac_core hP hF hN e
  have : Y = p := Eq.trans eY h3
  subst eW this
  exact ⟨Y, q, h1, .inr (.inr ⟨hq, hW, by rw [ev0, ev1, ev2]⟩)⟩
end Mine
end
section
local macro_rules | `(tactic| ktr_units) => `(tactic| ((simp only [Mine.units_make, units_in1, units_deeper, Around.mark_units, ktrTop]); (have hcL9 := cLine_is); omega))
local macro_rules | `(tactic| ktr_room) => `(tactic| ((simp only [depth_mark, depth_under_make, depth_under_kw, depth_in1, depth_deeper, ktrTop]); omega))
local macro_rules | `(tactic| bits_by_make) => `(tactic| with_reducible assumption)
local macro_rules | `(tactic| walk_at "call builtin:divmod") => `(tactic| (k_here; (with_reducible show wpAny _ _ (call (Value.builtin _) [Value.int _ _, Value.int _ _]) _ _ _); refine' divmod_N ?F ?N ?b ?_ (Or.inl (Mine.noPy ?hp)); (case F => k_asm); (case N => k_asm); (case b => omega); (case hp => omega); k_whole; intro h' F' N'; (try k_sweep)))
local macro_rules | `(tactic| walk_at "call builtin:max") => `(tactic| (k_here; (with_reducible show wpAny _ _ (call (Value.builtin _) [Value.int _ _, Value.int _ _]) _ _ _); k_dflt (refine' Mine.max_g ?hh ?F ?N ?_; (case hh => exact rfl); (case F => k_asm); (case N => k_asm); k_whole); intro v' r' h' tk' e1' e2' e3' F' N'; (first | (have e4' := Or.resolve_left e3' (by omega); clear e3') | (have e4' := Or.resolve_right e3' (by omega); clear e3') | skip); (try k_sweep)))
local macro_rules | `(tactic| walk_at "call builtin:min") => `(tactic| (k_here; (with_reducible show wpAny _ _ (call (Value.builtin _) [Value.int _ _, Value.int _ _]) _ _ _); k_dflt (refine' Mine.min_g ?hh ?F ?N ?_; (case hh => exact rfl); (case F => k_asm); (case N => k_asm); k_whole); intro v' r' h' tk' e1' e2' e3' F' N'; (first | (have e4' := Or.resolve_left e3' (by omega); clear e3') | (have e4' := Or.resolve_right e3' (by omega); clear e3') | skip); (try k_sweep)))
local macro_rules | `(tactic| walk_at "call builtin:abs") => `(tactic| (k_here; (with_reducible refine Mine.abs_g ?_); intro v' u' tk' e1' e2' e3'))
local macro_rules | `(tactic| walk_at "binaryOp LShift int int") => `(tactic| (k_here; (with_reducible refine Mine.lshift_g ?kbn ?kbs ?_); (case kbn => omega); (case kbs => omega); intro v' u' tk' e1' e2' e3'; (first | replace e2' := e2' (by omega) | clear e2')))
local macro_rules | `(tactic| walk_at "storeName") => `(tactic| (k_here; (with_reducible first | show wpAny _ _ (storeName _ _ (Value.int (HAdd.hAdd _ _) _)) _ _ _ | show wpAny _ _ (storeName _ _ (Value.int (HSub.hSub _ _) _)) _ _ _ | show wpAny _ _ (storeName _ _ (Value.int (HMul.hMul _ _) _)) _ _ _ | show wpAny _ _ (storeName _ _ (Value.int (Neg.neg _) _)) _ _ _ | show wpAny _ _ (storeName _ _ (Value.int (Int.fdiv _ _) _)) _ _ _ | show wpAny _ _ (storeName _ _ (Value.int (Int.fmod _ _) _)) _ _ _ | show wpAny _ _ (storeName _ _ (Value.int (ite _ _ _) _)) _ _ _); (refine Mine.store_g (fun v' e1' => ?_)); k_dflt (refine' storeX_L ?F ?N ?_ ?a ?b; (case F => k_asm); (case N => k_asm); (case a => rfl); (case b => rfl); k_whole; intro h' F' N'; (try k_sweep))))
local macro_rules | `(tactic| walk_at "call ref") => `(tactic| (k_here; (with_reducible show wpAny _ _ (call (Value.ref 116) _) _ _ _); k_dflt (refine' call_cls ?k1 ?k2 ?k3 ?k4 ?k5 ?k6 ?_; (case k1 => k_asm); (case k2 => k_asm); (case k3 => k_asm); (case k4 => k_is); (case k5 => k_is); (case k6 => k_is); k_whole; intro x' d' h' F' N' l1 l2; (try k_lt l1); (try k_lt2 l2); (try k_sweep); (refine' code_def ?k1 ?k2 ?k3 ?k4 ?k5 ?kA ?kF ?kK ?k6 ?k7 ?k8 ?k9 ?kB ?_ ?c2 ?c3 ?c4 ?c5; (case kA => exact rfl); (case kF => exact rfl); (case kK => first | exact rfl | assumption); (case k1 => k_asm); (case k2 => k_asm); (case k3 => k_asm); (case k4 => k_asm); (case k5 => k_asm); (case k6 => k_is); (case k7 => k_is); (case k8 => ktr_room); (case k9 => first | exact BindsTo.of_eq rfl | exact binds_K (by k_in) rfl (by k_is) rfl rfl rfl); (case c5 => decide); (case kB => exact locs rfl); (case c2 => exact rfl); (case c3 => exact rfl); (case c4 => exact rfl); k_whole; intro g' L' h' FG' F' N' B' X' T'; (try dsimp only); (try k_lift B'); (try k_fold)))))
local macro_rules | `(tactic| walk_at "binaryOp FloorDiv int int") => `(tactic| (k_here; (with_reducible refine floordiv_int ?kbn ?_ (Or.inl (Mine.noPy ?kbp))); (case kbn => omega); (case kbp => first | omega | (refine' Nat.le_trans ?ba ?bb; (case ba => bits_by_make); (case bb => omega)))))
local macro_rules | `(tactic| walk_at "binaryOp Mod int int") => `(tactic| (k_here; (with_reducible refine mod_int' ?kbn ?_); (case kbn => omega)))
local macro_rules | `(tactic| walk_at "binaryOp Mult int int") => `(tactic| (k_here; (with_reducible refine P.mul_int ?_ ?kbn); (case kbn => first | exact PySem.IntMulOk.of_left (PySem.intBits_le_64 (by omega) (by omega)) | exact PySem.IntMulOk.of_right (PySem.intBits_le_64 (by omega) (by omega)) | exact Mine.mulOk (by omega))))
local macro_rules | `(tactic| walk_at "call type:int") => `(tactic| (k_here; (with_reducible show wpAny _ _ (call (Value.type "int") [Value.ref _]) _ _ _); k_dflt (refine' Mine.int_inst ?k1 ?k2 ?k3 ?k4 ?_; (case k1 => k_in); (case k2 => k_inst); (case k3 => k_is); (case k4 => k_is); k_whole)))
local macro_rules | `(tactic| k_mem) => `(tactic| assumption)
local macro_rules | `(tactic| walk_at "formatField int") => `(tactic| (k_here; (with_reducible refine Mine.fmt_g ?kbn ?_); (case kbn => first | omega | exact Mine.absBd (by assumption) (by omega)); intro v' u' tk' e1' e2'))
local macro_rules | `(tactic| walk_at "call ref") => `(tactic| (k_here; (with_reducible show wpAny _ _ (call (Value.ref 28) [Value.int _ _, Value.int _ _]) _ _ _); k_dflt (refine' Mine.cx_use (Mine.rounded_T _ _ _ _ _ _ _ _ _ ?h0 ?hd) ?k1 ?k2 ?k3 ?k4 ?k5 ?kK ?kd ?ku ?_; (case k1 => first | k_asm | fail "cx: below"); (case k2 => first | k_asm | fail "cx: frame"); (case k3 => first | k_asm | fail "cx: part"); (case k4 => first | k_asm | fail "cx: news"); (case k5 => first | k_asm | fail "cx: top"); (case kK => first | exact rfl | assumption | fail "cx: kind"); (case kd => first | ktr_room | fail "cx: room"); (case ku => first | ktr_units | fail "cx: units"); (case h0 => first | assumption | omega); (case hd => first | assumption | omega)); k_dflt (intro v' t' h' tk' e1' F' N'; obtain ⟨e1', e2'⟩ := e1'; (try k_sweep); (try dsimp only); (try k_fold))))
local macro_rules | `(tactic| walk_at "call ref") => `(tactic| (k_here; (with_reducible show wpAny _ _ (call (Value.ref 35) [Value.int _ _, Value.int _ _]) _ _ _); k_dflt (refine' Mine.cx_use (Mine.nearest_T _ _ _ _ _ _ _ _ _ ?h0 ?hn0 ?hn ?hd) ?k1 ?k2 ?k3 ?k4 ?k5 ?kK ?kd ?ku ?_; (case k1 => first | k_asm | fail "cx: below"); (case k2 => first | k_asm | fail "cx: frame"); (case k3 => first | k_asm | fail "cx: part"); (case k4 => first | k_asm | fail "cx: news"); (case k5 => first | k_asm | fail "cx: top"); (case kK => first | exact rfl | assumption | fail "cx: kind"); (case kd => first | ktr_room | fail "cx: room"); (case ku => first | ktr_units | fail "cx: units"); (case h0 => first | assumption | omega); (case hn0 => first | assumption | omega); (case hn => first | assumption | omega); (case hd => first | assumption | omega)); k_dflt (intro a' b' t' u' D' c' h' tk' e1' F' N' l1'; (try simp only [AllLt, and_true] at l1'); (try k_sweep); (try dsimp only); (try k_fold))))
local macro_rules | `(tactic| walk_at "call ref") => `(tactic| (k_here; (with_reducible show wpAny _ _ (call (Value.ref 71) [Value.ref _]) _ _ _); k_dflt (refine' Mine.cx_use (Mine.dint_T _ _ _ _ _ _ _ _ _ _ _ _ _ ?hx ?hdx ?h0 ?hb) ?k1 ?k2 ?k3 ?k4 ?k5 ?kK ?kd ?ku ?_; (case k1 => first | k_asm | fail "cx: below"); (case k2 => first | k_asm | fail "cx: frame"); (case k3 => first | k_asm | fail "cx: part"); (case k4 => first | k_asm | fail "cx: news"); (case k5 => first | k_asm | fail "cx: top"); (case kK => first | exact rfl | assumption | fail "cx: kind"); (case kd => first | ktr_room | fail "cx: room"); (case ku => first | ktr_units | fail "cx: units"); (case hx => first | assumption | k_mem); (case hdx => first | assumption | k_mem); (case h0 => omega); (case hb => omega)); k_dflt (intro v' t' h' tk' e1' F' N'; (try k_sweep); (try dsimp only [Mine.IntBack]); (try k_fold))))
local macro_rules | `(tactic| walk_at "call ref") => `(tactic| (k_here; (with_reducible show wpAny _ _ (call (Value.ref 42) [Value.ref _]) _ _ _); k_dflt (refine' Mine.cx_use (Mine.parts_T _ _ _ _ _ _ _ _ _ _ _ _ _ ?hx ?hdx) ?k1 ?k2 ?k3 ?k4 ?k5 ?kK ?kd ?ku ?_; (case k1 => first | k_asm | fail "cx: below"); (case k2 => first | k_asm | fail "cx: frame"); (case k3 => first | k_asm | fail "cx: part"); (case k4 => first | k_asm | fail "cx: news"); (case k5 => first | k_asm | fail "cx: top"); (case kK => first | exact rfl | assumption | fail "cx: kind"); (case kd => first | ktr_room | fail "cx: room"); (case ku => first | ktr_units | fail "cx: units"); (case hx => first | assumption | k_mem); (case hdx => first | assumption | k_mem)); k_dflt (intro a' b' t' u' D' c' h' tk' e1' F' N' l1'; obtain ⟨e1', e2'⟩ := e1'; subst e1'; subst e2'; (try simp only [AllLt, and_true] at l1'); (try k_sweep); (try dsimp only); (try k_fold))))
local macro_rules | `(tactic| walk_at "call ref") => `(tactic| (k_here; (with_reducible show wpAny _ _ (call (Value.ref 116) [Value.int _ _, Value.int _ _]) _ _ _); k_dflt (refine' Mine.cx_use (Mine.Double_T _ _ _ _ _ _ _ _ _ ?h0 ?hn ?hd) ?k1 ?k2 ?k3 ?k4 ?k5 ?kK ?kd ?ku ?_; (case k1 => first | k_asm | fail "cx: below"); (case k2 => first | k_asm | fail "cx: frame"); (case k3 => first | k_asm | fail "cx: part"); (case k4 => first | k_asm | fail "cx: news"); (case k5 => first | k_asm | fail "cx: top"); (case kK => first | exact rfl | assumption | fail "cx: kind"); (case kd => first | ktr_room | fail "cx: room"); (case ku => first | ktr_units | fail "cx: units"); (case h0 => first | omega | exact Int.mul_pos (by assumption) (by assumption)); (case hn => first | assumption | omega | (refine' Nat.le_trans ?ba ?bb; (case ba => bits_by_make); (case bb => omega))); (case hd => first | assumption | omega | (refine' Nat.le_trans ?ba ?bb; (case ba => bits_by_make); (case bb => omega)))); k_dflt (intro a' b' t' u' k1' k2' x' d' h' tk' e1' F' N' l1' l2'; obtain ⟨e1', e2', e3', e4'⟩ := e1'; (try simp only [AllLt, and_true] at l1'); (try k_lt2 l2'); (try k_sweep); (try dsimp only); (try k_fold))))
local macro_rules | `(tactic| walk_at "call ref") => `(tactic| (k_here; (with_reducible show wpAny _ _ (call (Value.ref 116) [Value.int _ _]) _ _ _); k_dflt (refine' Mine.cx_use (Mine.Double1_T _ _ _ _ _ _ _ ?hn) ?k1 ?k2 ?k3 ?k4 ?k5 ?kK ?kd ?ku ?_; (case k1 => first | k_asm | fail "cx: below"); (case k2 => first | k_asm | fail "cx: frame"); (case k3 => first | k_asm | fail "cx: part"); (case k4 => first | k_asm | fail "cx: news"); (case k5 => first | k_asm | fail "cx: top"); (case kK => first | exact rfl | assumption | fail "cx: kind"); (case kd => first | ktr_room | fail "cx: room"); (case ku => first | ktr_units | fail "cx: units"); (case hn => first | assumption | omega)); k_dflt (intro a' b' t' u' k1' k2' x' d' h' tk' e1' F' N' l1' l2'; obtain ⟨e1', e2', e3', e4'⟩ := e1'; (try simp only [AllLt, and_true] at l1'); (try k_lt2 l2'); (try k_sweep); (try dsimp only); (try k_fold))))
local macro_rules | `(tactic| walk_at "call ref") => `(tactic| (k_here; (with_reducible show wpAny _ _ (call (Value.ref 134) [Value.ref _]) _ _ _); k_dflt (refine' Mine.cx_use (Mine.isfin_T _ _ _ _ _ _ _ _ _ _ _ _ _ ?hx ?hdx ?h0) ?k1 ?k2 ?k3 ?k4 ?k5 ?kK ?kd ?ku ?_; (case k1 => first | k_asm | fail "cx: below"); (case k2 => first | k_asm | fail "cx: frame"); (case k3 => first | k_asm | fail "cx: part"); (case k4 => first | k_asm | fail "cx: news"); (case k5 => first | k_asm | fail "cx: top"); (case kK => first | exact rfl | assumption | fail "cx: kind"); (case kd => first | ktr_room | fail "cx: room"); (case ku => first | ktr_units | fail "cx: units"); (case hx => first | assumption | k_mem); (case hdx => first | assumption | k_mem); (case h0 => omega)); k_dflt (intro h' tk' F' N'; (try k_sweep); (try dsimp only); (try k_fold))))
local macro_rules | `(tactic| walk_at "call ref") => `(tactic| (k_here; (with_reducible show wpAny _ _ (call (Value.ref 127) [Value.int _ _]) _ _ _); k_dflt (refine' Mine.cx_use (Mine.dblI_T _ _ _ _ _ _ _ ?hn) ?k1 ?k2 ?k3 ?k4 ?k5 ?kK ?kd ?ku ?_; (case k1 => first | k_asm | fail "cx: below"); (case k2 => first | k_asm | fail "cx: frame"); (case k3 => first | k_asm | fail "cx: part"); (case k4 => first | k_asm | fail "cx: news"); (case k5 => first | k_asm | fail "cx: top"); (case kK => first | exact rfl | assumption | fail "cx: kind"); (case kd => first | ktr_room | fail "cx: room"); (case ku => first | ktr_units | fail "cx: units"); (case hn => first | assumption | omega)); k_dflt (intro a' b' t' u' k1' k2' x' d' h' tk' e1' F' N' l1' l2'; obtain ⟨e1', e2', e3', e4'⟩ := e1'; (try simp only [AllLt, and_true] at l1'); (try k_lt2 l2'); (try k_sweep); (try dsimp only); (try k_fold))))
local macro_rules | `(tactic| walk_at "call ref") => `(tactic| (k_here; (with_reducible show wpAny _ _ (call (Value.ref 106) [Value.ref _, Value.int _ _]) _ _ _); k_dflt (refine' Mine.cx_use (Mine.sub_T _ _ _ _ _ _ _ _ _ _ _ _ _ _ _ ?hx ?hdx ?h0 ?ha ?hb ?hn) ?k1 ?k2 ?k3 ?k4 ?k5 ?kK ?kd ?ku ?_; (case k1 => first | k_asm | fail "cx: below"); (case k2 => first | k_asm | fail "cx: frame"); (case k3 => first | k_asm | fail "cx: part"); (case k4 => first | k_asm | fail "cx: news"); (case k5 => first | k_asm | fail "cx: top"); (case kK => first | exact rfl | assumption | fail "cx: kind"); (case kd => first | ktr_room | fail "cx: room"); (case ku => first | ktr_units | fail "cx: units"); (case hx => first | assumption | k_mem); (case hdx => first | assumption | k_mem); (case h0 => omega); (case ha => first | assumption | omega); (case hb => first | assumption | omega); (case hn => first | assumption | omega | ((rename (_ = Mine.trn _ _) => e9'); rw [e9']; omega))); k_dflt (intro a' b' t' u' k1' k2' x' d' h' tk' e1' F' N' l1' l2'; (try (replace e1' := Mine.frac_part (by assumption) (by assumption) e1'; (have e2' := e1'); obtain ⟨e3', e4', e5', e6'⟩ := e2')); (try simp only [AllLt, and_true] at l1'); (try k_lt2 l2'); (try k_sweep); (try dsimp only); (try dsimp only [PySem.W.CmpBack]); (try (refine ⟨rfl, ?_⟩)); (try (refine handed_on rfl ?_)); (try dsimp only); (try k_fold))))
local macro_rules | `(tactic| walk_at "call ref") => `(tactic| (k_here; (with_reducible show wpAny _ _ (call (Value.ref 167) [Value.ref _, Value.int 1000 _]) _ _ _); k_dflt (refine' Mine.cx_use (Mine.nf_T _ _ _ _ _ _ _ _ _ _ _ _ _ _ _ ?hx ?hdx (show Mine.AbsOf _ _ from rfl) ?hn0 ?hnb ?h0 ?hb) ?k1 ?k2 ?k3 ?k4 ?k5 ?kK ?kd ?ku ?_; (case k1 => first | k_asm | fail "cx: below"); (case k2 => first | k_asm | fail "cx: frame"); (case k3 => first | k_asm | fail "cx: part"); (case k4 => first | k_asm | fail "cx: news"); (case k5 => first | k_asm | fail "cx: top"); (case kK => first | exact rfl | assumption | fail "cx: kind"); (case kd => first | ktr_room | fail "cx: room"); (case ku => first | ktr_units | fail "cx: units"); (case hx => first | assumption | k_mem); (case hdx => first | assumption | k_mem); (case hn0 => omega); (case hnb => omega); (case h0 => omega); (case hb => omega)); k_dflt (intro a' b' t' u' D' c' h' tk' e1' F' N' l1'; (obtain ⟨p', e1', e2'⟩ := e1'); (have e3' := Mine.nfres_bd e1' e2'); (obtain ⟨e3', e4', e5', e6', e7'⟩ := e3'); (try simp only [AllLt, and_true] at l1'); (try k_sweep); (try dsimp only); (try k_fold))))
local macro_rules | `(tactic| walk_at "no such key") => `(tactic| (fail "none"))
namespace Mine
structure DblC (w : World) (mean : ExcName → Option Value) (mg mb : Str → Option Value) (news : List (Addr × Obj)) (v : Value) (P : Int → Int → Prop) : Prop where
  hP : ∀ a b, P a b → NumP a b
  C : Cx w mean mg mb 127 news 40 [v] (RetDM w news P)
end Mine
local macro_rules | `(tactic| walk_at "call ref") => `(tactic| (k_here; (with_reducible show wpAny _ _ (call (Value.ref 127) [_]) _ _ _); (rename Mine.DblC _ _ _ _ _ _ _ => hC'); k_dflt (refine' Mine.cx_use (Mine.DblC.C hC') ?k1 ?k2 ?k3 ?k4 ?k5 ?kK ?kd ?ku ?_; (case k1 => k_asm); (case k2 => k_asm); (case k3 => k_asm); (case k4 => k_asm); (case k5 => k_asm); (case kK => first | exact rfl | assumption); (case kd => ktr_room); (case ku => ktr_units)); k_dflt (intro a' b' t' u' k1' k2' x' d' news' h' tk' e1' s1' F' N' m1' m2'; (have e6' := Mine.DblC.hP hC' _ _ e1'); (obtain ⟨e2', e3', e4', e5', _⟩ := e6'); (have e7' := PySem.intBits_le_iff.mp e5'); (have e6' := Mine.DblC.hP hC' _ _ e1'); (try k_sweep); (try dsimp only); (try k_fold))))
namespace Mine
theorem frac_T (w : World) (mean mg mb) (news) (v : Value) (P : Int → Int → Prop) (hC : DblC w mean mg mb news v P) :
    Cx w mean mg mb 181 news 50 [v] (RetS news fun x => ∃ a b, P a b ∧ FracS a b x) := by
  dsimp only [Cx, PG, RetS]
  k_fill
  intros; rename_i hret
  refine wpAny_call ?_
  k_dflt cell_enter
  k_steps
  all_goals (refine' hret _ _ _ _ ?e1 ?e2 ?e3; (case e2 => k_asm); (case e3 => (refine' cb_drop ?cbN ?cbS; (case cbN => assumption); (case cbS => repeat' (first | assumption | refine sub_skip ?_)))); (case e1 => first | exact ⟨_, _, by with_reducible assumption, frac_e1 (by with_reducible assumption) (by with_reducible assumption) (by with_reducible assumption) (by with_reducible assumption) (by with_reducible assumption) (by with_reducible assumption) (by with_reducible assumption) ⟩ | exact ⟨_, _, by with_reducible assumption, frac_e2 (by with_reducible rfl) (by with_reducible assumption) (by with_reducible assumption) (by with_reducible assumption) (by with_reducible assumption) (by with_reducible assumption) (by with_reducible assumption) (by with_reducible assumption) (by with_reducible assumption) (by with_reducible assumption) ⟩ | exact ⟨_, _, by with_reducible assumption, frac_e3 (by with_reducible rfl) (by with_reducible assumption) (by with_reducible assumption) (by with_reducible assumption) (by with_reducible assumption) (by with_reducible assumption) (by with_reducible assumption) (by with_reducible assumption) (by with_reducible assumption) (by with_reducible assumption) (by with_reducible assumption) (by with_reducible assumption) ⟩))
end Mine
end
section
local macro_rules | `(tactic| ktr_units) => `(tactic| ((simp only [Mine.units_make, units_in1, units_deeper, Around.mark_units, ktrTop]); (have hcL9 := cLine_is); omega))
local macro_rules | `(tactic| ktr_room) => `(tactic| ((simp only [depth_mark, depth_under_make, depth_under_kw, depth_in1, depth_deeper, ktrTop]); omega))
local macro_rules | `(tactic| bits_by_make) => `(tactic| with_reducible assumption)
local macro_rules | `(tactic| walk_at "call builtin:divmod") => `(tactic| (k_here; (with_reducible show wpAny _ _ (call (Value.builtin _) [Value.int _ _, Value.int _ _]) _ _ _); refine' divmod_N ?F ?N ?b ?_ (Or.inl (Mine.noPy ?hp)); (case F => k_asm); (case N => k_asm); (case b => omega); (case hp => omega); k_whole; intro h' F' N'; (try k_sweep)))
local macro_rules | `(tactic| walk_at "call builtin:max") => `(tactic| (k_here; (with_reducible show wpAny _ _ (call (Value.builtin _) [Value.int _ _, Value.int _ _]) _ _ _); k_dflt (refine' Mine.max_g ?hh ?F ?N ?_; (case hh => exact rfl); (case F => k_asm); (case N => k_asm); k_whole); intro v' r' h' tk' e1' e2' e3' F' N'; (first | (have e4' := Or.resolve_left e3' (by omega); clear e3') | (have e4' := Or.resolve_right e3' (by omega); clear e3') | skip); (try k_sweep)))
local macro_rules | `(tactic| walk_at "call builtin:min") => `(tactic| (k_here; (with_reducible show wpAny _ _ (call (Value.builtin _) [Value.int _ _, Value.int _ _]) _ _ _); k_dflt (refine' Mine.min_g ?hh ?F ?N ?_; (case hh => exact rfl); (case F => k_asm); (case N => k_asm); k_whole); intro v' r' h' tk' e1' e2' e3' F' N'; (first | (have e4' := Or.resolve_left e3' (by omega); clear e3') | (have e4' := Or.resolve_right e3' (by omega); clear e3') | skip); (try k_sweep)))
local macro_rules | `(tactic| walk_at "call builtin:abs") => `(tactic| (k_here; (with_reducible refine Mine.abs_g ?_); intro v' u' tk' e1' e2' e3'))
local macro_rules | `(tactic| walk_at "binaryOp LShift int int") => `(tactic| (k_here; (with_reducible refine Mine.lshift_g ?kbn ?kbs ?_); (case kbn => omega); (case kbs => omega); intro v' u' tk' e1' e2' e3'; (first | replace e2' := e2' (by omega) | clear e2')))
local macro_rules | `(tactic| walk_at "storeName") => `(tactic| (k_here; (with_reducible first | show wpAny _ _ (storeName _ _ (Value.int (HAdd.hAdd _ _) _)) _ _ _ | show wpAny _ _ (storeName _ _ (Value.int (HSub.hSub _ _) _)) _ _ _ | show wpAny _ _ (storeName _ _ (Value.int (HMul.hMul _ _) _)) _ _ _ | show wpAny _ _ (storeName _ _ (Value.int (Neg.neg _) _)) _ _ _ | show wpAny _ _ (storeName _ _ (Value.int (Int.fdiv _ _) _)) _ _ _ | show wpAny _ _ (storeName _ _ (Value.int (Int.fmod _ _) _)) _ _ _ | show wpAny _ _ (storeName _ _ (Value.int (ite _ _ _) _)) _ _ _); (refine Mine.store_g (fun v' e1' => ?_)); k_dflt (refine' storeX_L ?F ?N ?_ ?a ?b; (case F => k_asm); (case N => k_asm); (case a => rfl); (case b => rfl); k_whole; intro h' F' N'; (try k_sweep))))
local macro_rules | `(tactic| walk_at "call ref") => `(tactic| (k_here; (with_reducible show wpAny _ _ (call (Value.ref 116) _) _ _ _); k_dflt (refine' call_cls ?k1 ?k2 ?k3 ?k4 ?k5 ?k6 ?_; (case k1 => k_asm); (case k2 => k_asm); (case k3 => k_asm); (case k4 => k_is); (case k5 => k_is); (case k6 => k_is); k_whole; intro x' d' h' F' N' l1 l2; (try k_lt l1); (try k_lt2 l2); (try k_sweep); (refine' code_def ?k1 ?k2 ?k3 ?k4 ?k5 ?kA ?kF ?kK ?k6 ?k7 ?k8 ?k9 ?kB ?_ ?c2 ?c3 ?c4 ?c5; (case kA => exact rfl); (case kF => exact rfl); (case kK => first | exact rfl | assumption); (case k1 => k_asm); (case k2 => k_asm); (case k3 => k_asm); (case k4 => k_asm); (case k5 => k_asm); (case k6 => k_is); (case k7 => k_is); (case k8 => ktr_room); (case k9 => first | exact BindsTo.of_eq rfl | exact binds_K (by k_in) rfl (by k_is) rfl rfl rfl); (case c5 => decide); (case kB => exact locs rfl); (case c2 => exact rfl); (case c3 => exact rfl); (case c4 => exact rfl); k_whole; intro g' L' h' FG' F' N' B' X' T'; (try dsimp only); (try k_lift B'); (try k_fold)))))
local macro_rules | `(tactic| walk_at "binaryOp FloorDiv int int") => `(tactic| (k_here; (with_reducible refine floordiv_int ?kbn ?_ (Or.inl (Mine.noPy ?kbp))); (case kbn => omega); (case kbp => first | omega | (refine' Nat.le_trans ?ba ?bb; (case ba => bits_by_make); (case bb => omega)))))
local macro_rules | `(tactic| walk_at "binaryOp Mod int int") => `(tactic| (k_here; (with_reducible refine mod_int' ?kbn ?_); (case kbn => omega)))
local macro_rules | `(tactic| walk_at "binaryOp Mult int int") => `(tactic| (k_here; (with_reducible refine P.mul_int ?_ ?kbn); (case kbn => first | exact PySem.IntMulOk.of_left (PySem.intBits_le_64 (by omega) (by omega)) | exact PySem.IntMulOk.of_right (PySem.intBits_le_64 (by omega) (by omega)) | exact Mine.mulOk (by omega))))
local macro_rules | `(tactic| walk_at "call type:int") => `(tactic| (k_here; (with_reducible show wpAny _ _ (call (Value.type "int") [Value.ref _]) _ _ _); k_dflt (refine' Mine.int_inst ?k1 ?k2 ?k3 ?k4 ?_; (case k1 => k_in); (case k2 => k_inst); (case k3 => k_is); (case k4 => k_is); k_whole)))
local macro_rules | `(tactic| k_mem) => `(tactic| assumption)
local macro_rules | `(tactic| walk_at "formatField int") => `(tactic| (k_here; (with_reducible refine Mine.fmt_g ?kbn ?_); (case kbn => first | omega | exact Mine.absBd (by assumption) (by omega)); intro v' u' tk' e1' e2'))
local macro_rules | `(tactic| walk_at "call ref") => `(tactic| (k_here; (with_reducible show wpAny _ _ (call (Value.ref 28) [Value.int _ _, Value.int _ _]) _ _ _); k_dflt (refine' Mine.cx_use (Mine.rounded_T _ _ _ _ _ _ _ _ _ ?h0 ?hd) ?k1 ?k2 ?k3 ?k4 ?k5 ?kK ?kd ?ku ?_; (case k1 => first | k_asm | fail "cx: below"); (case k2 => first | k_asm | fail "cx: frame"); (case k3 => first | k_asm | fail "cx: part"); (case k4 => first | k_asm | fail "cx: news"); (case k5 => first | k_asm | fail "cx: top"); (case kK => first | exact rfl | assumption | fail "cx: kind"); (case kd => first | ktr_room | fail "cx: room"); (case ku => first | ktr_units | fail "cx: units"); (case h0 => first | assumption | omega); (case hd => first | assumption | omega)); k_dflt (intro v' t' h' tk' e1' F' N'; obtain ⟨e1', e2'⟩ := e1'; (try k_sweep); (try dsimp only); (try k_fold))))
local macro_rules | `(tactic| walk_at "call ref") => `(tactic| (k_here; (with_reducible show wpAny _ _ (call (Value.ref 35) [Value.int _ _, Value.int _ _]) _ _ _); k_dflt (refine' Mine.cx_use (Mine.nearest_T _ _ _ _ _ _ _ _ _ ?h0 ?hn0 ?hn ?hd) ?k1 ?k2 ?k3 ?k4 ?k5 ?kK ?kd ?ku ?_; (case k1 => first | k_asm | fail "cx: below"); (case k2 => first | k_asm | fail "cx: frame"); (case k3 => first | k_asm | fail "cx: part"); (case k4 => first | k_asm | fail "cx: news"); (case k5 => first | k_asm | fail "cx: top"); (case kK => first | exact rfl | assumption | fail "cx: kind"); (case kd => first | ktr_room | fail "cx: room"); (case ku => first | ktr_units | fail "cx: units"); (case h0 => first | assumption | omega); (case hn0 => first | assumption | omega); (case hn => first | assumption | omega); (case hd => first | assumption | omega)); k_dflt (intro a' b' t' u' D' c' h' tk' e1' F' N' l1'; (try simp only [AllLt, and_true] at l1'); (try k_sweep); (try dsimp only); (try k_fold))))
local macro_rules | `(tactic| walk_at "call ref") => `(tactic| (k_here; (with_reducible show wpAny _ _ (call (Value.ref 71) [Value.ref _]) _ _ _); k_dflt (refine' Mine.cx_use (Mine.dint_T _ _ _ _ _ _ _ _ _ _ _ _ _ ?hx ?hdx ?h0 ?hb) ?k1 ?k2 ?k3 ?k4 ?k5 ?kK ?kd ?ku ?_; (case k1 => first | k_asm | fail "cx: below"); (case k2 => first | k_asm | fail "cx: frame"); (case k3 => first | k_asm | fail "cx: part"); (case k4 => first | k_asm | fail "cx: news"); (case k5 => first | k_asm | fail "cx: top"); (case kK => first | exact rfl | assumption | fail "cx: kind"); (case kd => first | ktr_room | fail "cx: room"); (case ku => first | ktr_units | fail "cx: units"); (case hx => first | assumption | k_mem); (case hdx => first | assumption | k_mem); (case h0 => omega); (case hb => omega)); k_dflt (intro v' t' h' tk' e1' F' N'; (try k_sweep); (try dsimp only [Mine.IntBack]); (try k_fold))))
local macro_rules | `(tactic| walk_at "call ref") => `(tactic| (k_here; (with_reducible show wpAny _ _ (call (Value.ref 42) [Value.ref _]) _ _ _); k_dflt (refine' Mine.cx_use (Mine.parts_T _ _ _ _ _ _ _ _ _ _ _ _ _ ?hx ?hdx) ?k1 ?k2 ?k3 ?k4 ?k5 ?kK ?kd ?ku ?_; (case k1 => first | k_asm | fail "cx: below"); (case k2 => first | k_asm | fail "cx: frame"); (case k3 => first | k_asm | fail "cx: part"); (case k4 => first | k_asm | fail "cx: news"); (case k5 => first | k_asm | fail "cx: top"); (case kK => first | exact rfl | assumption | fail "cx: kind"); (case kd => first | ktr_room | fail "cx: room"); (case ku => first | ktr_units | fail "cx: units"); (case hx => first | assumption | k_mem); (case hdx => first | assumption | k_mem)); k_dflt (intro a' b' t' u' D' c' h' tk' e1' F' N' l1'; obtain ⟨e1', e2'⟩ := e1'; subst e1'; subst e2'; (try simp only [AllLt, and_true] at l1'); (try k_sweep); (try dsimp only); (try k_fold))))
local macro_rules | `(tactic| walk_at "call ref") => `(tactic| (k_here; (with_reducible show wpAny _ _ (call (Value.ref 116) [Value.int _ _, Value.int _ _]) _ _ _); k_dflt (refine' Mine.cx_use (Mine.Double_T _ _ _ _ _ _ _ _ _ ?h0 ?hn ?hd) ?k1 ?k2 ?k3 ?k4 ?k5 ?kK ?kd ?ku ?_; (case k1 => first | k_asm | fail "cx: below"); (case k2 => first | k_asm | fail "cx: frame"); (case k3 => first | k_asm | fail "cx: part"); (case k4 => first | k_asm | fail "cx: news"); (case k5 => first | k_asm | fail "cx: top"); (case kK => first | exact rfl | assumption | fail "cx: kind"); (case kd => first | ktr_room | fail "cx: room"); (case ku => first | ktr_units | fail "cx: units"); (case h0 => first | omega | exact Int.mul_pos (by assumption) (by assumption)); (case hn => first | assumption | omega | (refine' Nat.le_trans ?ba ?bb; (case ba => bits_by_make); (case bb => omega))); (case hd => first | assumption | omega | (refine' Nat.le_trans ?ba ?bb; (case ba => bits_by_make); (case bb => omega)))); k_dflt (intro a' b' t' u' k1' k2' x' d' h' tk' e1' F' N' l1' l2'; obtain ⟨e1', e2', e3', e4'⟩ := e1'; (try simp only [AllLt, and_true] at l1'); (try k_lt2 l2'); (try k_sweep); (try dsimp only); (try k_fold))))
local macro_rules | `(tactic| walk_at "call ref") => `(tactic| (k_here; (with_reducible show wpAny _ _ (call (Value.ref 116) [Value.int _ _]) _ _ _); k_dflt (refine' Mine.cx_use (Mine.Double1_T _ _ _ _ _ _ _ ?hn) ?k1 ?k2 ?k3 ?k4 ?k5 ?kK ?kd ?ku ?_; (case k1 => first | k_asm | fail "cx: below"); (case k2 => first | k_asm | fail "cx: frame"); (case k3 => first | k_asm | fail "cx: part"); (case k4 => first | k_asm | fail "cx: news"); (case k5 => first | k_asm | fail "cx: top"); (case kK => first | exact rfl | assumption | fail "cx: kind"); (case kd => first | ktr_room | fail "cx: room"); (case ku => first | ktr_units | fail "cx: units"); (case hn => first | assumption | omega)); k_dflt (intro a' b' t' u' k1' k2' x' d' h' tk' e1' F' N' l1' l2'; obtain ⟨e1', e2', e3', e4'⟩ := e1'; (try simp only [AllLt, and_true] at l1'); (try k_lt2 l2'); (try k_sweep); (try dsimp only); (try k_fold))))
local macro_rules | `(tactic| walk_at "call ref") => `(tactic| (k_here; (with_reducible show wpAny _ _ (call (Value.ref 134) [Value.ref _]) _ _ _); k_dflt (refine' Mine.cx_use (Mine.isfin_T _ _ _ _ _ _ _ _ _ _ _ _ _ ?hx ?hdx ?h0) ?k1 ?k2 ?k3 ?k4 ?k5 ?kK ?kd ?ku ?_; (case k1 => first | k_asm | fail "cx: below"); (case k2 => first | k_asm | fail "cx: frame"); (case k3 => first | k_asm | fail "cx: part"); (case k4 => first | k_asm | fail "cx: news"); (case k5 => first | k_asm | fail "cx: top"); (case kK => first | exact rfl | assumption | fail "cx: kind"); (case kd => first | ktr_room | fail "cx: room"); (case ku => first | ktr_units | fail "cx: units"); (case hx => first | assumption | k_mem); (case hdx => first | assumption | k_mem); (case h0 => omega)); k_dflt (intro h' tk' F' N'; (try k_sweep); (try dsimp only); (try k_fold))))
local macro_rules | `(tactic| walk_at "call ref") => `(tactic| (k_here; (with_reducible show wpAny _ _ (call (Value.ref 127) [Value.int _ _]) _ _ _); k_dflt (refine' Mine.cx_use (Mine.dblI_T _ _ _ _ _ _ _ ?hn) ?k1 ?k2 ?k3 ?k4 ?k5 ?kK ?kd ?ku ?_; (case k1 => first | k_asm | fail "cx: below"); (case k2 => first | k_asm | fail "cx: frame"); (case k3 => first | k_asm | fail "cx: part"); (case k4 => first | k_asm | fail "cx: news"); (case k5 => first | k_asm | fail "cx: top"); (case kK => first | exact rfl | assumption | fail "cx: kind"); (case kd => first | ktr_room | fail "cx: room"); (case ku => first | ktr_units | fail "cx: units"); (case hn => first | assumption | omega)); k_dflt (intro a' b' t' u' k1' k2' x' d' h' tk' e1' F' N' l1' l2'; obtain ⟨e1', e2', e3', e4'⟩ := e1'; (try simp only [AllLt, and_true] at l1'); (try k_lt2 l2'); (try k_sweep); (try dsimp only); (try k_fold))))
local macro_rules | `(tactic| walk_at "call ref") => `(tactic| (k_here; (with_reducible show wpAny _ _ (call (Value.ref 106) [Value.ref _, Value.int _ _]) _ _ _); k_dflt (refine' Mine.cx_use (Mine.sub_T _ _ _ _ _ _ _ _ _ _ _ _ _ _ _ ?hx ?hdx ?h0 ?ha ?hb ?hn) ?k1 ?k2 ?k3 ?k4 ?k5 ?kK ?kd ?ku ?_; (case k1 => first | k_asm | fail "cx: below"); (case k2 => first | k_asm | fail "cx: frame"); (case k3 => first | k_asm | fail "cx: part"); (case k4 => first | k_asm | fail "cx: news"); (case k5 => first | k_asm | fail "cx: top"); (case kK => first | exact rfl | assumption | fail "cx: kind"); (case kd => first | ktr_room | fail "cx: room"); (case ku => first | ktr_units | fail "cx: units"); (case hx => first | assumption | k_mem); (case hdx => first | assumption | k_mem); (case h0 => omega); (case ha => first | assumption | omega); (case hb => first | assumption | omega); (case hn => first | assumption | omega | ((rename (_ = Mine.trn _ _) => e9'); rw [e9']; omega))); k_dflt (intro a' b' t' u' k1' k2' x' d' h' tk' e1' F' N' l1' l2'; (try (replace e1' := Mine.frac_part (by assumption) (by assumption) e1'; (have e2' := e1'); obtain ⟨e3', e4', e5', e6'⟩ := e2')); (try simp only [AllLt, and_true] at l1'); (try k_lt2 l2'); (try k_sweep); (try dsimp only); (try dsimp only [PySem.W.CmpBack]); (try (refine ⟨rfl, ?_⟩)); (try (refine handed_on rfl ?_)); (try dsimp only); (try k_fold))))
local macro_rules | `(tactic| walk_at "call ref") => `(tactic| (k_here; (with_reducible show wpAny _ _ (call (Value.ref 167) [Value.ref _, Value.int 1000 _]) _ _ _); k_dflt (refine' Mine.cx_use (Mine.nf_T _ _ _ _ _ _ _ _ _ _ _ _ _ _ _ ?hx ?hdx (show Mine.AbsOf _ _ from rfl) ?hn0 ?hnb ?h0 ?hb) ?k1 ?k2 ?k3 ?k4 ?k5 ?kK ?kd ?ku ?_; (case k1 => first | k_asm | fail "cx: below"); (case k2 => first | k_asm | fail "cx: frame"); (case k3 => first | k_asm | fail "cx: part"); (case k4 => first | k_asm | fail "cx: news"); (case k5 => first | k_asm | fail "cx: top"); (case kK => first | exact rfl | assumption | fail "cx: kind"); (case kd => first | ktr_room | fail "cx: room"); (case ku => first | ktr_units | fail "cx: units"); (case hx => first | assumption | k_mem); (case hdx => first | assumption | k_mem); (case hn0 => omega); (case hnb => omega); (case h0 => omega); (case hb => omega)); k_dflt (intro a' b' t' u' D' c' h' tk' e1' F' N' l1'; (obtain ⟨p', e1', e2'⟩ := e1'); (have e3' := Mine.nfres_bd e1' e2'); (obtain ⟨e3', e4', e5', e6', e7'⟩ := e3'); (try simp only [AllLt, and_true] at l1'); (try k_sweep); (try dsimp only); (try k_fold))))
namespace Mine
theorem dblD_T (w : World) (mean mg mb) (news) (a b : Int) (t u k1 k2 : Tok) (x dx : Addr) (hx : (x, instObj 116 dx) ∈ news) (hdx : (dx, dblDict w.params a b t u k1 k2) ∈ news) (hP : NumP a b) :
    DblC w mean mg mb news (.ref x) (fun p q => p = a ∧ q = b) := by
  refine ⟨fun p q h => by obtain ⟨rfl, rfl⟩ := h; exact hP, ?_⟩
  dsimp only [Cx, PG, RetDM]
  k_fill
  intros; rename_i hret
  refine wpAny_call ?_
  k_dflt cell_enter
  k_steps
  all_goals (refine' hret _ _ _ _ _ _ _ _ _ _ _ ⟨rfl, rfl⟩ sub_refl ?e2 ?e3 hx hdx; (case e2 => k_asm); (case e3 => k_asm))
theorem dblCI (w : World) (mean mg mb) (news) (n : Int) (t : Tok) (hn : intBits n ≤ 60) (hs : n.natAbs < 2 ^ 49) : DblC w mean mg mb news (.int n t) (fun p q => DblP n 1 p q) := by
  refine ⟨fun p q h => numP_of (by decide) hn (by decide) (by omega) h, ?_⟩
  intro dp un gd cn cs a ccd cl outer A₀ base h₀ L m s Q E B F X N T hk hd hu R
  exact dblI_T w mean mg mb news n t (by omega) dp un gd cn cs a ccd cl outer A₀ base h₀ L m s Q E B F X N T hk (by omega) (by omega) fun a b t u k1 k2 x dx h' tk' hP F' N' l1 l2 => R a b t u k1 k2 x dx _ h' tk' hP (sub_skip (sub_skip sub_refl)) F' N' (.head _) (.tail _ (.head _))
end Mine
end
section
local macro_rules | `(tactic| ktr_units) => `(tactic| ((simp only [Mine.units_make, units_in1, units_deeper, Around.mark_units, ktrTop]); (have hcL9 := cLine_is); omega))
local macro_rules | `(tactic| ktr_room) => `(tactic| ((simp only [depth_mark, depth_under_make, depth_under_kw, depth_in1, depth_deeper, ktrTop]); omega))
local macro_rules | `(tactic| bits_by_make) => `(tactic| with_reducible assumption)
local macro_rules | `(tactic| walk_at "call builtin:divmod") => `(tactic| (k_here; (with_reducible show wpAny _ _ (call (Value.builtin _) [Value.int _ _, Value.int _ _]) _ _ _); refine' divmod_N ?F ?N ?b ?_ (Or.inl (Mine.noPy ?hp)); (case F => k_asm); (case N => k_asm); (case b => omega); (case hp => omega); k_whole; intro h' F' N'; (try k_sweep)))
local macro_rules | `(tactic| walk_at "call builtin:max") => `(tactic| (k_here; (with_reducible show wpAny _ _ (call (Value.builtin _) [Value.int _ _, Value.int _ _]) _ _ _); k_dflt (refine' Mine.max_g ?hh ?F ?N ?_; (case hh => exact rfl); (case F => k_asm); (case N => k_asm); k_whole); intro v' r' h' tk' e1' e2' e3' F' N'; (first | (have e4' := Or.resolve_left e3' (by omega); clear e3') | (have e4' := Or.resolve_right e3' (by omega); clear e3') | skip); (try k_sweep)))
local macro_rules | `(tactic| walk_at "call builtin:min") => `(tactic| (k_here; (with_reducible show wpAny _ _ (call (Value.builtin _) [Value.int _ _, Value.int _ _]) _ _ _); k_dflt (refine' Mine.min_g ?hh ?F ?N ?_; (case hh => exact rfl); (case F => k_asm); (case N => k_asm); k_whole); intro v' r' h' tk' e1' e2' e3' F' N'; (first | (have e4' := Or.resolve_left e3' (by omega); clear e3') | (have e4' := Or.resolve_right e3' (by omega); clear e3') | skip); (try k_sweep)))
local macro_rules | `(tactic| walk_at "call builtin:abs") => `(tactic| (k_here; (with_reducible refine Mine.abs_g ?_); intro v' u' tk' e1' e2' e3'))
local macro_rules | `(tactic| walk_at "binaryOp LShift int int") => `(tactic| (k_here; (with_reducible refine Mine.lshift_g ?kbn ?kbs ?_); (case kbn => omega); (case kbs => omega); intro v' u' tk' e1' e2' e3'; (first | replace e2' := e2' (by omega) | clear e2')))
local macro_rules | `(tactic| walk_at "storeName") => `(tactic| (k_here; (with_reducible first | show wpAny _ _ (storeName _ _ (Value.int (HAdd.hAdd _ _) _)) _ _ _ | show wpAny _ _ (storeName _ _ (Value.int (HSub.hSub _ _) _)) _ _ _ | show wpAny _ _ (storeName _ _ (Value.int (HMul.hMul _ _) _)) _ _ _ | show wpAny _ _ (storeName _ _ (Value.int (Neg.neg _) _)) _ _ _ | show wpAny _ _ (storeName _ _ (Value.int (Int.fdiv _ _) _)) _ _ _ | show wpAny _ _ (storeName _ _ (Value.int (Int.fmod _ _) _)) _ _ _ | show wpAny _ _ (storeName _ _ (Value.int (ite _ _ _) _)) _ _ _); (refine Mine.store_g (fun v' e1' => ?_)); k_dflt (refine' storeX_L ?F ?N ?_ ?a ?b; (case F => k_asm); (case N => k_asm); (case a => rfl); (case b => rfl); k_whole; intro h' F' N'; (try k_sweep))))
local macro_rules | `(tactic| walk_at "call ref") => `(tactic| (k_here; (with_reducible show wpAny _ _ (call (Value.ref 116) _) _ _ _); k_dflt (refine' call_cls ?k1 ?k2 ?k3 ?k4 ?k5 ?k6 ?_; (case k1 => k_asm); (case k2 => k_asm); (case k3 => k_asm); (case k4 => k_is); (case k5 => k_is); (case k6 => k_is); k_whole; intro x' d' h' F' N' l1 l2; (try k_lt l1); (try k_lt2 l2); (try k_sweep); (refine' code_def ?k1 ?k2 ?k3 ?k4 ?k5 ?kA ?kF ?kK ?k6 ?k7 ?k8 ?k9 ?kB ?_ ?c2 ?c3 ?c4 ?c5; (case kA => exact rfl); (case kF => exact rfl); (case kK => first | exact rfl | assumption); (case k1 => k_asm); (case k2 => k_asm); (case k3 => k_asm); (case k4 => k_asm); (case k5 => k_asm); (case k6 => k_is); (case k7 => k_is); (case k8 => ktr_room); (case k9 => first | exact BindsTo.of_eq rfl | exact binds_K (by k_in) rfl (by k_is) rfl rfl rfl); (case c5 => decide); (case kB => exact locs rfl); (case c2 => exact rfl); (case c3 => exact rfl); (case c4 => exact rfl); k_whole; intro g' L' h' FG' F' N' B' X' T'; (try dsimp only); (try k_lift B'); (try k_fold)))))
local macro_rules | `(tactic| walk_at "binaryOp FloorDiv int int") => `(tactic| (k_here; (with_reducible refine floordiv_int ?kbn ?_ (Or.inl (Mine.noPy ?kbp))); (case kbn => omega); (case kbp => first | omega | (refine' Nat.le_trans ?ba ?bb; (case ba => bits_by_make); (case bb => omega)))))
local macro_rules | `(tactic| walk_at "binaryOp Mod int int") => `(tactic| (k_here; (with_reducible refine mod_int' ?kbn ?_); (case kbn => omega)))
local macro_rules | `(tactic| walk_at "binaryOp Mult int int") => `(tactic| (k_here; (with_reducible refine P.mul_int ?_ ?kbn); (case kbn => first | exact PySem.IntMulOk.of_left (PySem.intBits_le_64 (by omega) (by omega)) | exact PySem.IntMulOk.of_right (PySem.intBits_le_64 (by omega) (by omega)) | exact Mine.mulOk (by omega))))
local macro_rules | `(tactic| walk_at "call type:int") => `(tactic| (k_here; (with_reducible show wpAny _ _ (call (Value.type "int") [Value.ref _]) _ _ _); k_dflt (refine' Mine.int_inst ?k1 ?k2 ?k3 ?k4 ?_; (case k1 => k_in); (case k2 => k_inst); (case k3 => k_is); (case k4 => k_is); k_whole)))
local macro_rules | `(tactic| k_mem) => `(tactic| assumption)
local macro_rules | `(tactic| walk_at "formatField int") => `(tactic| (k_here; (with_reducible refine Mine.fmt_g ?kbn ?_); (case kbn => first | omega | exact Mine.absBd (by assumption) (by omega)); intro v' u' tk' e1' e2'))
local macro_rules | `(tactic| walk_at "call ref") => `(tactic| (k_here; (with_reducible show wpAny _ _ (call (Value.ref 28) [Value.int _ _, Value.int _ _]) _ _ _); k_dflt (refine' Mine.cx_use (Mine.rounded_T _ _ _ _ _ _ _ _ _ ?h0 ?hd) ?k1 ?k2 ?k3 ?k4 ?k5 ?kK ?kd ?ku ?_; (case k1 => first | k_asm | fail "cx: below"); (case k2 => first | k_asm | fail "cx: frame"); (case k3 => first | k_asm | fail "cx: part"); (case k4 => first | k_asm | fail "cx: news"); (case k5 => first | k_asm | fail "cx: top"); (case kK => first | exact rfl | assumption | fail "cx: kind"); (case kd => first | ktr_room | fail "cx: room"); (case ku => first | ktr_units | fail "cx: units"); (case h0 => first | assumption | omega); (case hd => first | assumption | omega)); k_dflt (intro v' t' h' tk' e1' F' N'; obtain ⟨e1', e2'⟩ := e1'; (try k_sweep); (try dsimp only); (try k_fold))))
local macro_rules | `(tactic| walk_at "call ref") => `(tactic| (k_here; (with_reducible show wpAny _ _ (call (Value.ref 35) [Value.int _ _, Value.int _ _]) _ _ _); k_dflt (refine' Mine.cx_use (Mine.nearest_T _ _ _ _ _ _ _ _ _ ?h0 ?hn0 ?hn ?hd) ?k1 ?k2 ?k3 ?k4 ?k5 ?kK ?kd ?ku ?_; (case k1 => first | k_asm | fail "cx: below"); (case k2 => first | k_asm | fail "cx: frame"); (case k3 => first | k_asm | fail "cx: part"); (case k4 => first | k_asm | fail "cx: news"); (case k5 => first | k_asm | fail "cx: top"); (case kK => first | exact rfl | assumption | fail "cx: kind"); (case kd => first | ktr_room | fail "cx: room"); (case ku => first | ktr_units | fail "cx: units"); (case h0 => first | assumption | omega); (case hn0 => first | assumption | omega); (case hn => first | assumption | omega); (case hd => first | assumption | omega)); k_dflt (intro a' b' t' u' D' c' h' tk' e1' F' N' l1'; (try simp only [AllLt, and_true] at l1'); (try k_sweep); (try dsimp only); (try k_fold))))
local macro_rules | `(tactic| walk_at "call ref") => `(tactic| (k_here; (with_reducible show wpAny _ _ (call (Value.ref 71) [Value.ref _]) _ _ _); k_dflt (refine' Mine.cx_use (Mine.dint_T _ _ _ _ _ _ _ _ _ _ _ _ _ ?hx ?hdx ?h0 ?hb) ?k1 ?k2 ?k3 ?k4 ?k5 ?kK ?kd ?ku ?_; (case k1 => first | k_asm | fail "cx: below"); (case k2 => first | k_asm | fail "cx: frame"); (case k3 => first | k_asm | fail "cx: part"); (case k4 => first | k_asm | fail "cx: news"); (case k5 => first | k_asm | fail "cx: top"); (case kK => first | exact rfl | assumption | fail "cx: kind"); (case kd => first | ktr_room | fail "cx: room"); (case ku => first | ktr_units | fail "cx: units"); (case hx => first | assumption | k_mem); (case hdx => first | assumption | k_mem); (case h0 => omega); (case hb => omega)); k_dflt (intro v' t' h' tk' e1' F' N'; (try k_sweep); (try dsimp only [Mine.IntBack]); (try k_fold))))
local macro_rules | `(tactic| walk_at "call ref") => `(tactic| (k_here; (with_reducible show wpAny _ _ (call (Value.ref 42) [Value.ref _]) _ _ _); k_dflt (refine' Mine.cx_use (Mine.parts_T _ _ _ _ _ _ _ _ _ _ _ _ _ ?hx ?hdx) ?k1 ?k2 ?k3 ?k4 ?k5 ?kK ?kd ?ku ?_; (case k1 => first | k_asm | fail "cx: below"); (case k2 => first | k_asm | fail "cx: frame"); (case k3 => first | k_asm | fail "cx: part"); (case k4 => first | k_asm | fail "cx: news"); (case k5 => first | k_asm | fail "cx: top"); (case kK => first | exact rfl | assumption | fail "cx: kind"); (case kd => first | ktr_room | fail "cx: room"); (case ku => first | ktr_units | fail "cx: units"); (case hx => first | assumption | k_mem); (case hdx => first | assumption | k_mem)); k_dflt (intro a' b' t' u' D' c' h' tk' e1' F' N' l1'; obtain ⟨e1', e2'⟩ := e1'; subst e1'; subst e2'; (try simp only [AllLt, and_true] at l1'); (try k_sweep); (try dsimp only); (try k_fold))))
local macro_rules | `(tactic| walk_at "call ref") => `(tactic| (k_here; (with_reducible show wpAny _ _ (call (Value.ref 116) [Value.int _ _, Value.int _ _]) _ _ _); k_dflt (refine' Mine.cx_use (Mine.Double_T _ _ _ _ _ _ _ _ _ ?h0 ?hn ?hd) ?k1 ?k2 ?k3 ?k4 ?k5 ?kK ?kd ?ku ?_; (case k1 => first | k_asm | fail "cx: below"); (case k2 => first | k_asm | fail "cx: frame"); (case k3 => first | k_asm | fail "cx: part"); (case k4 => first | k_asm | fail "cx: news"); (case k5 => first | k_asm | fail "cx: top"); (case kK => first | exact rfl | assumption | fail "cx: kind"); (case kd => first | ktr_room | fail "cx: room"); (case ku => first | ktr_units | fail "cx: units"); (case h0 => first | omega | exact Int.mul_pos (by assumption) (by assumption)); (case hn => first | assumption | omega | (refine' Nat.le_trans ?ba ?bb; (case ba => bits_by_make); (case bb => omega))); (case hd => first | assumption | omega | (refine' Nat.le_trans ?ba ?bb; (case ba => bits_by_make); (case bb => omega)))); k_dflt (intro a' b' t' u' k1' k2' x' d' h' tk' e1' F' N' l1' l2'; obtain ⟨e1', e2', e3', e4'⟩ := e1'; (try simp only [AllLt, and_true] at l1'); (try k_lt2 l2'); (try k_sweep); (try dsimp only); (try k_fold))))
local macro_rules | `(tactic| walk_at "call ref") => `(tactic| (k_here; (with_reducible show wpAny _ _ (call (Value.ref 116) [Value.int _ _]) _ _ _); k_dflt (refine' Mine.cx_use (Mine.Double1_T _ _ _ _ _ _ _ ?hn) ?k1 ?k2 ?k3 ?k4 ?k5 ?kK ?kd ?ku ?_; (case k1 => first | k_asm | fail "cx: below"); (case k2 => first | k_asm | fail "cx: frame"); (case k3 => first | k_asm | fail "cx: part"); (case k4 => first | k_asm | fail "cx: news"); (case k5 => first | k_asm | fail "cx: top"); (case kK => first | exact rfl | assumption | fail "cx: kind"); (case kd => first | ktr_room | fail "cx: room"); (case ku => first | ktr_units | fail "cx: units"); (case hn => first | assumption | omega)); k_dflt (intro a' b' t' u' k1' k2' x' d' h' tk' e1' F' N' l1' l2'; obtain ⟨e1', e2', e3', e4'⟩ := e1'; (try simp only [AllLt, and_true] at l1'); (try k_lt2 l2'); (try k_sweep); (try dsimp only); (try k_fold))))
local macro_rules | `(tactic| walk_at "call ref") => `(tactic| (k_here; (with_reducible show wpAny _ _ (call (Value.ref 134) [Value.ref _]) _ _ _); k_dflt (refine' Mine.cx_use (Mine.isfin_T _ _ _ _ _ _ _ _ _ _ _ _ _ ?hx ?hdx ?h0) ?k1 ?k2 ?k3 ?k4 ?k5 ?kK ?kd ?ku ?_; (case k1 => first | k_asm | fail "cx: below"); (case k2 => first | k_asm | fail "cx: frame"); (case k3 => first | k_asm | fail "cx: part"); (case k4 => first | k_asm | fail "cx: news"); (case k5 => first | k_asm | fail "cx: top"); (case kK => first | exact rfl | assumption | fail "cx: kind"); (case kd => first | ktr_room | fail "cx: room"); (case ku => first | ktr_units | fail "cx: units"); (case hx => first | assumption | k_mem); (case hdx => first | assumption | k_mem); (case h0 => omega)); k_dflt (intro h' tk' F' N'; (try k_sweep); (try dsimp only); (try k_fold))))
local macro_rules | `(tactic| walk_at "call ref") => `(tactic| (k_here; (with_reducible show wpAny _ _ (call (Value.ref 127) [Value.int _ _]) _ _ _); k_dflt (refine' Mine.cx_use (Mine.dblI_T _ _ _ _ _ _ _ ?hn) ?k1 ?k2 ?k3 ?k4 ?k5 ?kK ?kd ?ku ?_; (case k1 => first | k_asm | fail "cx: below"); (case k2 => first | k_asm | fail "cx: frame"); (case k3 => first | k_asm | fail "cx: part"); (case k4 => first | k_asm | fail "cx: news"); (case k5 => first | k_asm | fail "cx: top"); (case kK => first | exact rfl | assumption | fail "cx: kind"); (case kd => first | ktr_room | fail "cx: room"); (case ku => first | ktr_units | fail "cx: units"); (case hn => first | assumption | omega)); k_dflt (intro a' b' t' u' k1' k2' x' d' h' tk' e1' F' N' l1' l2'; obtain ⟨e1', e2', e3', e4'⟩ := e1'; (try simp only [AllLt, and_true] at l1'); (try k_lt2 l2'); (try k_sweep); (try dsimp only); (try k_fold))))
local macro_rules | `(tactic| walk_at "call ref") => `(tactic| (k_here; (with_reducible show wpAny _ _ (call (Value.ref 106) [Value.ref _, Value.int _ _]) _ _ _); k_dflt (refine' Mine.cx_use (Mine.sub_T _ _ _ _ _ _ _ _ _ _ _ _ _ _ _ ?hx ?hdx ?h0 ?ha ?hb ?hn) ?k1 ?k2 ?k3 ?k4 ?k5 ?kK ?kd ?ku ?_; (case k1 => first | k_asm | fail "cx: below"); (case k2 => first | k_asm | fail "cx: frame"); (case k3 => first | k_asm | fail "cx: part"); (case k4 => first | k_asm | fail "cx: news"); (case k5 => first | k_asm | fail "cx: top"); (case kK => first | exact rfl | assumption | fail "cx: kind"); (case kd => first | ktr_room | fail "cx: room"); (case ku => first | ktr_units | fail "cx: units"); (case hx => first | assumption | k_mem); (case hdx => first | assumption | k_mem); (case h0 => omega); (case ha => first | assumption | omega); (case hb => first | assumption | omega); (case hn => first | assumption | omega | ((rename (_ = Mine.trn _ _) => e9'); rw [e9']; omega))); k_dflt (intro a' b' t' u' k1' k2' x' d' h' tk' e1' F' N' l1' l2'; (try (replace e1' := Mine.frac_part (by assumption) (by assumption) e1'; (have e2' := e1'); obtain ⟨e3', e4', e5', e6'⟩ := e2')); (try simp only [AllLt, and_true] at l1'); (try k_lt2 l2'); (try k_sweep); (try dsimp only); (try dsimp only [PySem.W.CmpBack]); (try (refine ⟨rfl, ?_⟩)); (try (refine handed_on rfl ?_)); (try dsimp only); (try k_fold))))
local macro_rules | `(tactic| walk_at "call ref") => `(tactic| (k_here; (with_reducible show wpAny _ _ (call (Value.ref 167) [Value.ref _, Value.int 1000 _]) _ _ _); k_dflt (refine' Mine.cx_use (Mine.nf_T _ _ _ _ _ _ _ _ _ _ _ _ _ _ _ ?hx ?hdx (show Mine.AbsOf _ _ from rfl) ?hn0 ?hnb ?h0 ?hb) ?k1 ?k2 ?k3 ?k4 ?k5 ?kK ?kd ?ku ?_; (case k1 => first | k_asm | fail "cx: below"); (case k2 => first | k_asm | fail "cx: frame"); (case k3 => first | k_asm | fail "cx: part"); (case k4 => first | k_asm | fail "cx: news"); (case k5 => first | k_asm | fail "cx: top"); (case kK => first | exact rfl | assumption | fail "cx: kind"); (case kd => first | ktr_room | fail "cx: room"); (case ku => first | ktr_units | fail "cx: units"); (case hx => first | assumption | k_mem); (case hdx => first | assumption | k_mem); (case hn0 => omega); (case hnb => omega); (case h0 => omega); (case hb => omega)); k_dflt (intro a' b' t' u' D' c' h' tk' e1' F' N' l1'; (obtain ⟨p', e1', e2'⟩ := e1'); (have e3' := Mine.nfres_bd e1' e2'); (obtain ⟨e3', e4', e5', e6', e7'⟩ := e3'); (try simp only [AllLt, and_true] at l1'); (try k_sweep); (try dsimp only); (try k_fold))))
local macro_rules | `(tactic| walk_at "no such key") => `(tactic| (fail "none"))
namespace Mine
/-- digits alone -/
def isDig (x : Str) : Prop := ∀ c ∈ x.cps.toList, 48 ≤ c ∧ c ≤ 57
theorem sign_dig : ∀ k : Nat, k < 10 → (!!(Builtin.Str.occurrences (Str.ofString "0123456789") ⟨#[48 + k]⟩ 0 (Str.ofString "0123456789").length 1).isEmpty) = false := by decide +kernel
theorem filt_dig {x : Str} (h : isDig x) : List.filter (fun a => !!(Builtin.Str.occurrences (Str.ofString "0123456789") a 0 (Str.ofString "0123456789").length 1).isEmpty) (signs x) = [] := by
  refine List.filter_eq_nil_iff.mpr fun a ha => ?_
  unfold signs at ha
  obtain ⟨c, hc, rfl⟩ := List.mem_map.mp ha
  have := h c hc
  obtain ⟨k, hk⟩ : ∃ k, c = 48 + k := ⟨c - 48, by omega⟩
  have := sign_dig k (by omega)
  rw [← hk] at this
  rw [this]
  decide
theorem carried_nil {vs : List Value} {l : List PyData} (h : CarriedAll vs l) (e : l = []) : vs = [] := by
  subst e
  cases h
  rfl
theorem plain_T (w : World) (mean mg mb) (news) (x : Str) (t : Tok) (hx : x.length ≤ 100) (h0 : (x != Str.ofString "") = true) (hd : isDig x) :
    Cx w mean mg mb 153 news 16 [.str x t] (RetB news true) := by
  have hf := filt_dig hd
  dsimp only [Cx, PG, RetB]
  k_fill
  intros; rename_i hret
  refine wpAny_call ?_
  k_dflt cell_enter
  k_steps
  · rename CarriedAll _ _ => hc
    have e := carried_nil hc (by rw [hf]; rfl)
    subst e
    refine eq_intsK (vs := []) (us := []) (ns := []) (ms := []) ?l1 .nil ?l2 .nil ?lu ?_
    case l1 => is_list
    case l2 => is_list
    case lu => ktr_units
    k_steps
    refine' hret _ _ ?e2 ?e3
    case e2 => k_asm
    case e3 => (refine' cb_drop ?cbN ?cbS; (case cbN => assumption); (case cbS => repeat' (first | with_reducible exact sub_refl | refine sub_skip ?_)))
end Mine
end
section
namespace Mine
open PySem.NumText
theorem str_eq {x y : Str} (h : x.cps.toList = y.cps.toList) : x = y := Str.ext' (Array.toList_inj.mp h)
theorem cl_app (x y : Str) : (x ++ y).cps.toList = x.cps.toList ++ y.cps.toList := by rw [Str.cps_append, Array.toList_append]
theorem len_cl (x : Str) : x.length = x.cps.toList.length := by simp [Str.length]
theorem cl_empty : Str.empty.cps.toList = [] := rfl
theorem ofs_empty : Str.ofString "" = Str.empty := by decide +kernel
theorem beq_f {x y : Str} (h : x ≠ y) : (x == y) = false := by rw [beq_eq_false_iff_ne]; exact h
theorem bne_t {x y : Str} (h : x ≠ y) : (x != y) = true := by rw [bne_iff_ne]; exact h
theorem bne_f {x y : Str} (h : x = y) : (x != y) = false := by subst h; simp
theorem beq_t {x y : Str} (h : x = y) : (x == y) = true := by subst h; simp
/-- no sign c in x: no cut -/
theorem no_at {x : Str} {c : Nat} (h : c ∉ x.cps.toList) (i : Nat) : ¬ StrLaws.At x ⟨#[c]⟩ x.length i := fun ha => h (List.mem_of_getElem? ((StrLaws.subAt_one x c i).mp ha))
theorem part_none {x : Str} {c : Nat} (h : c ∉ x.cps.toList) : Txt.partition x ⟨#[c]⟩ = (x, Str.empty, Str.empty) := by
  unfold Txt.partition
  rcases StrLaws.occ_head x ⟨#[c]⟩ 1 (Nat.le_refl 1) with ⟨h0, hn⟩ | ⟨i, r, h0, hi, hn⟩
  · rw [h0]
  · exact absurd hi (no_at h i)
theorem rpart_none {x : Str} {c : Nat} (h : c ∉ x.cps.toList) : Txt.rpartition x ⟨#[c]⟩ = (Str.empty, Str.empty, x) := by
  unfold Txt.rpartition
  rcases StrLaws.last_spec x ⟨#[c]⟩ with ⟨h0, hn⟩ | ⟨i, h0, hi, hn⟩
  · rw [h0]
  · exact absurd hi (no_at h i)
theorem cut_at {a b : Str} {c : Nat} : Builtin.Str.strSub (a ++ ⟨#[c]⟩ ++ b) 0 a.length = a ∧ Builtin.Str.strSub (a ++ ⟨#[c]⟩ ++ b) (a.length + (⟨#[c]⟩ : Str).length) (a ++ ⟨#[c]⟩ ++ b).length = b := by
  have e : (⟨#[c]⟩ : Str).length = 1 := rfl
  constructor
  · refine str_eq ?_
    rw [StrLaws.strSub_toList, cl_app, cl_app, len_cl a]
    simp
  · refine str_eq ?_
    rw [StrLaws.strSub_toList, e, len_cl (a ++ ⟨#[c]⟩ ++ b), cl_app, cl_app, len_cl a]
    have h1 : (a.cps.toList ++ [c]).length = a.cps.toList.length + 1 := by simp
    show ((a.cps.toList ++ [c] ++ b.cps.toList).drop (a.cps.toList.length + 1)).take _ = _
    rw [← h1, List.drop_left, List.length_append]
    exact List.take_of_length_le (by show _ ≤ (a.cps.toList ++ [c]).length + _ - _; omega)
theorem mid_at {a b : Str} {c : Nat} : StrLaws.At (a ++ ⟨#[c]⟩ ++ b) ⟨#[c]⟩ (a ++ ⟨#[c]⟩ ++ b).length a.length := by
  refine (StrLaws.subAt_one _ c _).mpr ?_
  rw [cl_app, cl_app, len_cl a]
  simp
theorem part_mid {a b : Str} {c : Nat} (h : c ∉ a.cps.toList) : Txt.partition (a ++ ⟨#[c]⟩ ++ b) ⟨#[c]⟩ = (a, ⟨#[c]⟩, b) := by
  unfold Txt.partition
  rcases StrLaws.occ_head (a ++ ⟨#[c]⟩ ++ b) ⟨#[c]⟩ 1 (Nat.le_refl 1) with ⟨h0, hn⟩ | ⟨i, r, h0, hi, hn⟩
  · exact absurd mid_at (hn _)
  · rw [h0]
    have e : i = a.length := by
      rcases Nat.lt_trichotomy i a.length with z | z | z
      · have h1 := (StrLaws.subAt_one _ c _).mp hi
        rw [cl_app, cl_app, List.append_assoc, List.getElem?_append_left (by rw [← len_cl]; exact z)] at h1
        exact absurd (List.mem_of_getElem? h1) h
      · exact z
      · exact absurd mid_at (hn _ z)
    subst e
    have := cut_at (a := a) (b := b) (c := c)
    show (Builtin.Str.strSub _ 0 a.length, _, Builtin.Str.strSub _ (a.length + _) _) = _
    rw [this.1, this.2]
theorem rpart_mid {a b : Str} {c : Nat} (h : c ∉ b.cps.toList) : Txt.rpartition (a ++ ⟨#[c]⟩ ++ b) ⟨#[c]⟩ = (a, ⟨#[c]⟩, b) := by
  unfold Txt.rpartition
  rcases StrLaws.last_spec (a ++ ⟨#[c]⟩ ++ b) ⟨#[c]⟩ with ⟨h0, hn⟩ | ⟨i, h0, hi, hn⟩
  · exact absurd mid_at (hn _)
  · rw [h0]
    have e : i = a.length := by
      rcases Nat.lt_trichotomy i a.length with z | z | z
      · exact absurd mid_at (hn _ z)
      · exact z
      · have h1 := (StrLaws.subAt_one _ c _).mp hi
        rw [cl_app, cl_app, List.getElem?_append_right (by rw [List.length_append, ← len_cl]; exact z)] at h1
        exact absurd (List.mem_of_getElem? h1) h
    subst e
    have := cut_at (a := a) (b := b) (c := c)
    show (Builtin.Str.strSub _ 0 a.length, _, Builtin.Str.strSub _ (a.length + _) _) = _
    rw [this.1, this.2]
theorem sl_eq (x : Str) (l u : Option Int) : Txt.slice x l u = StrLaws.sliceText x l u := rfl
/-- the first sign, the rest -/
theorem slice_head {x : Str} {c : Nat} {r : List Nat} (h : x.cps.toList = c :: r) : Txt.slice x none (some 1) = ⟨#[c]⟩ := by
  rw [sl_eq, StrLaws.sliceText_to ⟨by decide, by rw [h]; simp <;> omega⟩, h]
  simp
theorem slice_tail {x : Str} {c : Nat} {r : List Nat} (h : x.cps.toList = c :: r) : Txt.slice x (some 1) none = ⟨r.toArray⟩ := by
  rw [sl_eq, StrLaws.sliceText_from ⟨by decide, by rw [h]; simp <;> omega⟩, h]
  refine str_eq ?_
  simp
theorem dig_isdigit : ∀ k : Nat, k < 10 → Unicode.isDigit (48 + k) = true := by decide +kernel
theorem dig_space : ∀ k : Nat, k < 14 → Unicode.isSpace (45 + k) = false := by decide +kernel
theorem dig_lower : ∀ k : Nat, k < 14 → Unicode.lowerOf (45 + k) = [45 + k] := by decide +kernel
theorem isdigit_of {x : Str} (h : isDig x) (h0 : x.cps.toList ≠ []) : Txt.isdigit x = true := by
  unfold Txt.isdigit
  rw [Bool.and_eq_true]
  constructor
  · have : 0 < x.length := by rw [len_cl]; exact List.length_pos_iff.mpr h0
    exact decide_eq_true this
  · rw [Array.all_eq_true_iff_forall_mem]
    intro c hc
    have := h c (Array.mem_toList_iff.mpr hc)
    obtain ⟨k, rfl⟩ : ∃ k, c = 48 + k := ⟨c - 48, by omega⟩
    exact dig_isdigit k (by omega)
/-- an int's digits -/
theorem iS_num (m : Nat) : (iS (m : Int)).cps.toList = (Nat.toDigits 10 m).map Char.toNat := KIN.signs_num m
theorem dig_num (m : Nat) : isDig (iS (m : Int)) := by
  intro c hc
  rw [iS_num] at hc
  obtain ⟨ch, hch, e⟩ := List.mem_map.mp hc
  have r := digit_range (Nat.isDigit_of_mem_toDigits (by decide) (by decide) hch)
  rw [← e]
  exact r
theorem ne_num (m : Nat) : (iS (m : Int)).cps.toList ≠ [] := by
  rw [iS_num]
  intro e
  have h := toDigits_len_ge 10 m
  rw [List.map_eq_nil_iff.mp e] at h
  exact absurd h (by decide)
theorem val_num (m : Nat) : digitsVal (iS (m : Int)).cps.toList = m := by rw [iS_num]; exact KIN.val_back m
theorem dig_iS {n : Int} (h : 0 ≤ n) : isDig (iS n) := by obtain ⟨m, rfl⟩ := Int.eq_ofNat_of_zero_le h; exact dig_num m
theorem ne_iS {n : Int} (h : 0 ≤ n) : (iS n).cps.toList ≠ [] := by obtain ⟨m, rfl⟩ := Int.eq_ofNat_of_zero_le h; exact ne_num m
theorem intText_iS {n : Int} (h : 0 ≤ n) (h1 : n < 10 ^ 13) : PySem.intText? (iS n) = some n := by
  have hl := iS_len (a := n) (k := 13) (by decide) (by omega)
  obtain ⟨m, rfl⟩ := Int.eq_ofNat_of_zero_le h
  have e := intText_digits (dig_num m) (ne_num m) (by omega)
  rw [val_num] at e
  exact e
theorem iS_neg {n : Int} (h : 0 < n) : iS (-n) = Str.ofString "-" ++ iS n := by
  obtain ⟨m, rfl⟩ := Int.eq_ofNat_of_zero_le (by omega : 0 ≤ n)
  obtain ⟨k, rfl⟩ : ∃ k, m = k + 1 := ⟨m - 1, by omega⟩
  refine str_eq ?_
  rw [cl_app]
  unfold iS
  rw [PyProof.Rows.signs_ofString, PyProof.Rows.signs_ofString, PyProof.Rows.signs_ofString, ← List.map_append]
  refine congrArg (List.map Char.toNat) ?_
  show (Int.repr (Int.negSucc k)).toList = _
  show ("-" ++ Nat.repr (k + 1)).toList = "-".toList ++ (Nat.repr (k + 1)).toList
  simp
end Mine
end
section
namespace Mine
structure RT1 (x f b k a r e : Str) (n : Int) : Prop where
  hx : x.length ≤ 60
  hal : a.length ≤ 60
  hfl : f.length ≤ 60
  hkl : k.length ≤ 60
  r1 : (Txt.rpartition x (Str.ofString " ")).1 = f
  r2 : (Txt.rpartition x (Str.ofString " ")).2.1 = b
  r3 : (Txt.rpartition x (Str.ofString " ")).2.2 = k
  p1 : (Txt.partition k (Str.ofString "/")).1 = a
  p2 : (Txt.partition k (Str.ofString "/")).2.1 = r
  p3 : (Txt.partition k (Str.ofString "/")).2.2 = e
  ha : Txt.isdigit a = true
  hr : (r != Str.ofString "") = false
  hr2 : (r == Str.ofString "") = true
  hb : (b != Str.ofString "") = false
  hN : PySem.intText? a = some n
  hn0 : 0 ≤ n
  hn1 : n < 10 ^ 13
  he : (a == Str.ofString (toString n)) = true
structure RTQ (x f b k a r e : Str) (p q : Int) : Prop where
  hx : x.length ≤ 60
  hal : a.length ≤ 60
  hel : e.length ≤ 60
  hfl : f.length ≤ 60
  hkl : k.length ≤ 60
  r1 : (Txt.rpartition x (Str.ofString " ")).1 = f
  r2 : (Txt.rpartition x (Str.ofString " ")).2.1 = b
  r3 : (Txt.rpartition x (Str.ofString " ")).2.2 = k
  p1 : (Txt.partition k (Str.ofString "/")).1 = a
  p2 : (Txt.partition k (Str.ofString "/")).2.1 = r
  p3 : (Txt.partition k (Str.ofString "/")).2.2 = e
  ha : Txt.isdigit a = true
  hr : (r != Str.ofString "") = true
  hr2 : (r == Str.ofString "") = false
  he : Txt.isdigit e = true
  hN : PySem.intText? a = some p
  hp0 : 0 < p
  hpq : p < q
  hq : q ≤ 1000
  hM : PySem.intText? e = some q
  hg : (Int.gcd p q : Int) = 1
  hs : (Str.ofString (toString p) ++ Str.ofString "/" ++ Str.ofString (toString q) != k) = false
structure RT2 (x f b k a r e : Str) (p q : Int) : Prop where
  h : RTQ x f b k a r e p q
  hb : (b != Str.ofString "") = false
  hb2 : b.length = 0
structure RT3 (x f b k a r e : Str) (p q W : Int) : Prop where
  h : RTQ x f b k a r e p q
  hb : (b != Str.ofString "") = true
  hb2 : b.length = 1
  hf : Txt.isdigit f = true
  hW : PySem.intText? f = some W
  hW0 : 0 < W
  hW1 : W < 10 ^ 13
  hfs : (Str.ofString (toString W) != f) = false
/-- the law's reader finds c/q in x -/
def ReadsTo (x : Str) (c q : Int) : Prop := (∃ f b k a r e, RT1 x f b k a r e c ∧ q = 1) ∨ (∃ f b k a r e, RT2 x f b k a r e c q) ∨ (∃ f b k a r e p W, RT3 x f b k a r e p q W ∧ c = W * q + p)
theorem sp_eq : Str.ofString " " = ⟨#[32]⟩ := by decide +kernel
theorem bar_eq : Str.ofString "/" = ⟨#[47]⟩ := by decide +kernel
theorem min_eq : Str.ofString "-" = ⟨#[45]⟩ := by decide +kernel
theorem dig_not {x : Str} (h : isDig x) {c : Nat} (hc : c < 48) : c ∉ x.cps.toList := fun m => by have := h c m; omega
theorem iS_len15 {n : Int} (h : 0 ≤ n) (h1 : n < 10 ^ 13) : (iS n).length ≤ 14 := iS_len (a := n) (k := 13) (by decide) (by omega)
theorem rt1 {n : Int} (h : 0 ≤ n) (h1 : n < 10 ^ 13) : RT1 (iS n) Str.empty Str.empty (iS n) (iS n) Str.empty Str.empty n := by
  have l := iS_len15 h h1
  have rp : Txt.rpartition (iS n) (Str.ofString " ") = (Str.empty, Str.empty, iS n) := by rw [sp_eq]; exact rpart_none (dig_not (dig_iS h) (by decide))
  have pp : Txt.partition (iS n) (Str.ofString "/") = (iS n, Str.empty, Str.empty) := by rw [bar_eq]; exact part_none (dig_not (dig_iS h) (by decide))
  exact {
    hx := by omega, hal := by omega, hfl := by decide, hkl := by omega
    r1 := by rw [rp], r2 := by rw [rp], r3 := by rw [rp], p1 := by rw [pp], p2 := by rw [pp], p3 := by rw [pp]
    ha := isdigit_of (dig_iS h) (ne_iS h)
    hr := by decide +kernel, hr2 := by decide +kernel, hb := by decide +kernel
    hN := intText_iS h h1, hn0 := h, hn1 := h1, he := beq_t rfl }
theorem gcd_one {p q : Int} (h : ∃ r s : Int, r * q - p * s = 1 ∨ p * s - r * q = 1) : (Int.gcd p q : Int) = 1 := by
  obtain ⟨r, s, e⟩ := h
  have d1 : (Int.gcd p q : Int) ∣ p := Int.gcd_dvd_left ..
  have d2 : (Int.gcd p q : Int) ∣ q := Int.gcd_dvd_right ..
  have d3 : (Int.gcd p q : Int) ∣ r * q := Int.dvd_mul_of_dvd_right d2
  have d4 : (Int.gcd p q : Int) ∣ p * s := Int.dvd_mul_of_dvd_left d1
  have d5 : (Int.gcd p q : Int) ∣ 1 := by
    rcases e with e | e
    · rw [← e]; exact Int.dvd_sub d3 d4
    · rw [← e]; exact Int.dvd_sub d4 d3
  exact Int.eq_one_of_dvd_one (by omega) d5
theorem rtq {x f b : Str} {p q : Int} (hp0 : 0 < p) (hpq : p < q) (hq : q ≤ 1000) (hg : (Int.gcd p q : Int) = 1) (hx : x.length ≤ 60) (hfl : f.length ≤ 60)
    (rp : Txt.rpartition x (Str.ofString " ") = (f, b, iS p ++ Str.ofString "/" ++ iS q)) : RTQ x f b (iS p ++ Str.ofString "/" ++ iS q) (iS p) (Str.ofString "/") (iS q) p q := by
  have l1 := iS_len15 (n := p) (by omega) (by omega)
  have l2 := iS_len15 (n := q) (by omega) (by omega)
  have lb : (Str.ofString "/").length = 1 := by decide +kernel
  have pp : Txt.partition (iS p ++ Str.ofString "/" ++ iS q) (Str.ofString "/") = (iS p, Str.ofString "/", iS q) := by rw [bar_eq]; exact part_mid (dig_not (dig_iS (by omega)) (by decide))
  exact {
    hx := hx, hal := by omega, hel := by omega, hfl := hfl, hkl := by rw [Str.length_append, Str.length_append]; omega
    r1 := by rw [rp], r2 := by rw [rp], r3 := by rw [rp], p1 := by rw [pp], p2 := by rw [pp], p3 := by rw [pp]
    ha := isdigit_of (dig_iS (by omega)) (ne_iS (by omega))
    hr := by decide +kernel, hr2 := by decide +kernel
    he := isdigit_of (dig_iS (by omega)) (ne_iS (by omega))
    hN := intText_iS (by omega) (by omega), hp0 := hp0, hpq := hpq, hq := hq
    hM := intText_iS (by omega) (by omega), hg := hg
    hs := bne_f rfl }
theorem rt2 {p q : Int} (hp0 : 0 < p) (hpq : p < q) (hq : q ≤ 1000) (hg : (Int.gcd p q : Int) = 1) : RT2 (iS p ++ Str.ofString "/" ++ iS q) Str.empty Str.empty (iS p ++ Str.ofString "/" ++ iS q) (iS p) (Str.ofString "/") (iS q) p q := by
  have l1 := iS_len15 (n := p) (by omega) (by omega)
  have l2 := iS_len15 (n := q) (by omega) (by omega)
  have lb : (Str.ofString "/").length = 1 := by decide +kernel
  refine ⟨rtq hp0 hpq hq hg (by rw [Str.length_append, Str.length_append]; omega) (by decide) ?_, by decide +kernel, by decide⟩
  rw [sp_eq]
  refine rpart_none ?_
  rw [cl_app, cl_app, List.mem_append, List.mem_append]
  rintro ((h | h) | h)
  · exact dig_not (dig_iS (by omega)) (by decide) h
  · rw [bar_eq] at h; simp at h
  · exact dig_not (dig_iS (by omega)) (by decide) h
theorem rt3 {p q W : Int} (hp0 : 0 < p) (hpq : p < q) (hq : q ≤ 1000) (hg : (Int.gcd p q : Int) = 1) (hW0 : 0 < W) (hW1 : W < 10 ^ 13) :
    RT3 (iS W ++ Str.ofString " " ++ (iS p ++ Str.ofString "/" ++ iS q)) (iS W) (Str.ofString " ") (iS p ++ Str.ofString "/" ++ iS q) (iS p) (Str.ofString "/") (iS q) p q W := by
  have l0 := iS_len15 (n := W) (by omega) (by omega)
  have l1 := iS_len15 (n := p) (by omega) (by omega)
  have l2 := iS_len15 (n := q) (by omega) (by omega)
  have lb : (Str.ofString "/").length = 1 := by decide +kernel
  have ls : (Str.ofString " ").length = 1 := by decide +kernel
  refine ⟨rtq hp0 hpq hq hg (by simp only [Str.length_append]; omega) (by omega) ?_, by decide +kernel, ls, isdigit_of (dig_iS (by omega)) (ne_iS (by omega)), intText_iS (by omega) hW1, hW0, hW1, bne_f rfl⟩
  rw [sp_eq]
  refine rpart_mid ?_
  rw [cl_app, cl_app, List.mem_append, List.mem_append]
  rintro ((h | h) | h)
  · exact dig_not (dig_iS (by omega)) (by decide) h
  · rw [bar_eq] at h; simp at h
  · exact dig_not (dig_iS (by omega)) (by decide) h
/-- the words without a sign -/
def Body (W p q : Int) : Str := if q = 1 then iS (W + p) else if W = 0 then iS p ++ Str.ofString "/" ++ iS q else iS W ++ Str.ofString " " ++ (iS p ++ Str.ofString "/" ++ iS q)
theorem reads_body {n b W p q : Int} (N : NFRes n b p q) (hW : 0 ≤ W) (hW1 : W < 10 ^ 12) : ReadsTo (Body W p q) (W * q + p) q := by
  obtain ⟨co, p0, pq, q1, q2, qn⟩ := nfres_low N
  unfold Body
  split
  · rename_i h
    subst h
    have e : W * 1 + p = W + p := by omega
    rw [e]
    exact .inl ⟨_, _, _, _, _, _, rt1 (by omega) (by omega), rfl⟩
  · rename_i h
    have pos := qn h
    split
    · rename_i h0
      subst h0
      have e : 0 * q + p = p := by omega
      rw [e]
      exact .inr (.inl ⟨_, _, _, _, _, _, rt2 pos.1 pos.2 q2 (gcd_one co)⟩)
    · exact .inr (.inr ⟨_, _, _, _, _, _, _, _, rt3 pos.1 pos.2 q2 (gcd_one co) (by omega) (by omega), rfl⟩)
theorem body_head {W p q : Int} (hW : 0 ≤ W) (hp : 0 ≤ p) : ∃ c r, (Body W p q).cps.toList = c :: r ∧ 48 ≤ c ∧ c ≤ 57 := by
  have key : ∀ n : Int, 0 ≤ n → ∀ y : Str, ∃ c r, (iS n ++ y).cps.toList = c :: r ∧ 48 ≤ c ∧ c ≤ 57 := fun n h y => by
    rw [cl_app]
    have d := dig_iS h
    have e := ne_iS h
    cases hl : (iS n).cps.toList with
    | nil => exact absurd hl e
    | cons c r => exact ⟨c, r ++ y.cps.toList, rfl, d c (by rw [hl]; exact List.mem_cons_self ..)⟩
  unfold Body
  split
  · have := key (W + p) (by omega) Str.empty
    rw [Str.append_empty] at this
    exact this
  · split
    · rw [Str.append_assoc]; exact key p hp _
    · rw [Str.append_assoc]; exact key W hW _
/-- what is known of a said text x of a/b -/
def Said (x B : Str) (a b c q : Int) : Prop := Tell (a.natAbs : Int) b c q ∧ ReadsTo B c q ∧ 0 ≤ c ∧ x.length ≤ 60 ∧
  ((x = B ∧ (Txt.slice x none (some 1) == Str.ofString "-") = false ∧ (Txt.slice x none (some 1) != Str.ofString "-") = true ∧ ¬ (a < 0 ∧ 0 < c)) ∨
   (Txt.slice x (some 1) none = B ∧ (Txt.slice x none (some 1) == Str.ofString "-") = true ∧ (Txt.slice x none (some 1) != Str.ofString "-") = false ∧ a < 0 ∧ 0 < c))
theorem frac_body {a b : Int} {x : Str} (hb : 0 < b) (h : FracS a b x) : ∃ W p q, W = (a.natAbs : Int).fdiv b ∧ 0 ≤ W ∧ NFRes ((a.natAbs : Int) - W * b) b p q ∧
    x = if a < 0 ∧ 0 < W * q + p then Str.ofString "-" ++ Body W p q else Body W p q := by
  obtain ⟨p, q, N, c⟩ := h
  have f := fdiv_fmod_facts (a.natAbs : Int) b
  have f2 := f.2.2.1 hb
  have hW : 0 ≤ (a.natAbs : Int).fdiv b := Int.fdiv_nonneg (by omega) (by omega)
  generalize hWe : (a.natAbs : Int).fdiv b = W at *
  have et : trn a b = if 0 ≤ a then W else -W := by
    unfold trn
    split
    · rw [← hWe]; congr 1; omega
    · rw [← hWe]; congr 2; omega
  have en : ((a - trn a b * b).natAbs : Int) = (a.natAbs : Int) - W * b := by
    rw [et]
    split
    · have : (a.natAbs : Int) = a := by omega
      rw [this] at f ⊢
      omega
    · have : (a.natAbs : Int) = -a := by omega
      rw [this] at f ⊢
      rw [Int.neg_mul]
      omega
  rw [en] at N
  refine ⟨W, p, q, rfl, hW, N, ?_⟩
  obtain ⟨co, p0, pq, q1, q2, qn⟩ := nfres_low N
  rw [et] at c
  rcases c with ⟨hq, rfl⟩ | ⟨hq, h0, rfl⟩ | ⟨hq, h0, rfl⟩
  · subst hq
    have e1 : W * 1 + p = W + p := by omega
    rw [e1]
    have eB : Body W p 1 = iS (W + p) := by unfold Body; rw [if_pos rfl]
    rw [eB]
    by_cases ha : 0 ≤ a
    · rw [if_pos ha, if_pos ha, if_neg (by omega)]
    · rw [if_neg ha, if_neg ha]
      split
      · rename_i hc
        rw [← iS_neg hc.2]
        congr 1; omega
      · congr 1; omega
  · have hp := qn hq
    have hW0 : W = 0 := by split at h0 <;> omega
    subst hW0
    have eB : Body 0 p q = iS p ++ Str.ofString "/" ++ iS q := by unfold Body; rw [if_neg hq, if_pos rfl]
    rw [eB]
    by_cases ha : 0 ≤ a
    · rw [if_pos ha, if_neg (by omega), Str.empty_append]
    · rw [if_neg ha, if_pos (by omega), Str.empty_append, iS_neg hp.1]
      simp only [Str.append_assoc]
  · have hp := qn hq
    have hW0 : W ≠ 0 := by split at h0 <;> omega
    have eB : Body W p q = iS W ++ Str.ofString " " ++ (iS p ++ Str.ofString "/" ++ iS q) := by unfold Body; rw [if_neg hq, if_neg hW0]
    rw [eB]
    have pos : 0 < W * q + p := by
      have := Int.mul_nonneg hW (show 0 ≤ q by omega)
      omega
    by_cases ha : 0 ≤ a
    · rw [if_pos ha, if_neg (by omega), Str.empty_append]
      simp only [Str.append_assoc]
    · rw [if_neg ha, if_pos ⟨by omega, pos⟩, Str.empty_append, iS_neg (by omega)]
      simp only [Str.append_assoc]
theorem reads_len {x : Str} {c q : Int} (h : ReadsTo x c q) : x.length ≤ 60 := by
  rcases h with ⟨_, _, _, _, _, _, h, _⟩ | ⟨_, _, _, _, _, _, h⟩ | ⟨_, _, _, _, _, _, _, _, h, _⟩
  · exact h.hx
  · exact h.h.hx
  · exact h.h.hx
theorem body_len {W p q : Int} (hW : 0 ≤ W) (hW1 : W < 10 ^ 12) (hp : 0 ≤ p) (hp1 : p ≤ 1000) (hq : 0 ≤ q) (hq1 : q ≤ 1000) : (Body W p q).length ≤ 50 := by
  have l0 := iS_len15 (n := W) (by omega) (by omega)
  have l1 := iS_len15 (n := p) (by omega) (by omega)
  have l2 := iS_len15 (n := q) (by omega) (by omega)
  have l3 := iS_len15 (n := W + p) (by omega) (by omega)
  have lb : (Str.ofString "/").length = 1 := by decide +kernel
  have ls : (Str.ofString " ").length = 1 := by decide +kernel
  unfold Body
  split
  · omega
  · split <;> simp only [Str.length_append] <;> omega
theorem said_of {a b : Int} {x : Str} (hb : 0 < b) (hs : (a.natAbs : Int) < 10 ^ 12 * b) (h : FracS a b x) : ∃ c q B, Said x B a b c q := by
  obtain ⟨W, p, q, eW, hW, N, ex⟩ := frac_body hb h
  have low := nfres_low N
  have hW1 : W < 10 ^ 12 := by
    have f := fdiv_fmod_facts (a.natAbs : Int) b
    have f2 := f.2.2.1 hb
    rw [← eW] at f
    exact Int.lt_of_mul_lt_mul_right (a := b) (by omega) (by omega)
  have lb := body_len (q := q) hW hW1 low.2.1 (by omega) (by omega) (by omega)
  obtain ⟨c0, r0, hh, h48, h57⟩ := body_head (q := q) hW low.2.1
  refine ⟨W * q + p, q, Body W p q, ⟨p, eW ▸ N, by rw [eW]⟩, reads_body N hW hW1, ?_, ?_, ?_⟩
  · have := Int.mul_nonneg hW (show 0 ≤ q by omega)
    omega
  · rw [ex]
    split
    · have lm : (Str.ofString "-").length = 1 := by decide +kernel
      rw [Str.length_append]; omega
    · omega
  · split at ex
    · rename_i hc
      right
      have e : x.cps.toList = 45 :: (Body W p q).cps.toList := by rw [ex, cl_app, min_eq]; rfl
      have h1 := slice_head e
      have h2 := slice_tail e
      rw [h1, h2]
      exact ⟨str_eq rfl, beq_t min_eq.symm, bne_f min_eq.symm, hc.1, hc.2⟩
    · rename_i hc
      left
      subst ex
      rw [slice_head hh]
      have ne : (⟨#[c0]⟩ : Str) ≠ Str.ofString "-" := by
        rw [min_eq]
        intro e
        have := congrArg (fun s : Str => s.cps.toList) e
        simp at this
        omega
      exact ⟨rfl, beq_f ne, bne_t ne, hc⟩
/-- a whole number comes back as its digits -/
theorem said_int {n a b : Int} {x : Str} (hn : n.natAbs < 2 ^ 49) (D : DblP n 1 a b) (h : FracS a b x) : x = iS n := by
  have e := dbl_exact (m := n) (k := 0) (by decide) D (by omega) (by omega)
  have ea : a = n * b := by omega
  have hb := D.2.1
  have et : trn a b = n := by
    unfold trn
    split
    · rw [ea]; exact Int.mul_fdiv_cancel _ (by omega)
    · rw [ea, ← Int.neg_mul, Int.mul_fdiv_cancel _ (by omega)]; omega
  obtain ⟨p, q, N, c⟩ := h
  rw [et] at N c
  have e0 : ((a - n * b).natAbs : Int) = 0 := by omega
  rw [e0] at N
  have p0 := nfres_0 hb N
  have low := nfres_low N
  have q1 : q = 1 := by
    rcases Int.lt_or_le 1 q with z | z
    · have := low.2.2.2.2.2 (by omega)
      omega
    · omega
  subst p0 q1
  rcases c with ⟨_, rfl⟩ | ⟨h, _⟩ | ⟨h, _⟩
  · congr 1
    split <;> omega
  · exact absurd rfl h
  · exact absurd rfl h
end Mine
end
section
namespace Mine
open PySem.NumText
structure ROK (x y z W dot P : Str) (N D sg : Int) : Prop where
  hx : x.length ≤ 60
  hyl : y.length ≤ 60
  hzl : z.length ≤ 60
  hWl : W.length ≤ 60
  hDl : dot.length ≤ 1
  hPl : P.length ≤ 60
  hy : Txt.lower (Txt.strip x) = y
  hs : ((Txt.slice y none (some 1) == Str.ofString "-") = true ∧ ([Str.ofString "-", Str.ofString "+"].any fun a => a == Txt.slice y none (some 1)) = true ∧ Txt.slice y (some 1) none = z ∧ sg = -1) ∨
      ((Txt.slice y none (some 1) == Str.ofString "-") = false ∧ ([Str.ofString "-", Str.ofString "+"].any fun a => a == Txt.slice y none (some 1)) = false ∧ y = z ∧ sg = 1)
  hinf : ([Str.ofString "inf", Str.ofString "infinity"].any fun a => a == z) = false
  hnan : (z == Str.ofString "nan") = false
  pe1 : (Txt.partition z (Str.ofString "e")).1 = z
  pe2 : (Txt.partition z (Str.ofString "e")).2.1 = Str.ofString ""
  pe3 : (Txt.partition z (Str.ofString "e")).2.2 = Str.ofString ""
  pd1 : (Txt.partition z (Str.ofString ".")).1 = W
  pd2 : (Txt.partition z (Str.ofString ".")).2.1 = dot
  pd3 : (Txt.partition z (Str.ofString ".")).2.2 = P
  hl : (W ++ P).length ≤ 60
  hne : (W ++ P != Str.ofString "") = true
  hd : isDig (W ++ P)
  hN : PySem.intText? (W ++ P) = some N
  hN0 : 0 ≤ N
  hN1 : N < 10 ^ 13
  hD : (P.length = 0 ∧ D = 1) ∨ (P.length = 5 ∧ D = 100000)
/-- the program reads n/D in x -/
def ReadsNum (x : Str) (n D : Int) : Prop := ∃ y z W dot P N sg, ROK x y z W dot P N D sg ∧ sg * N = n
theorem tw_none {p : Nat → Bool} : ∀ {l : List Nat}, (∀ c ∈ l, p c = false) → l.takeWhile p = []
  | [], _ => rfl
  | c :: l, h => by rw [List.takeWhile_cons, h c (List.mem_cons_self ..)]; rfl
/-- the signs of a number's text -/
def numCh (x : Str) : Prop := ∀ c ∈ x.cps.toList, 45 ≤ c ∧ c ≤ 57
theorem num_space {x : Str} (h : numCh x) : ∀ c ∈ x.cps.toList, Unicode.isSpace c = false := fun c hc => by
  have := h c hc
  obtain ⟨k, rfl⟩ : ∃ k, c = 45 + k := ⟨c - 45, by omega⟩
  exact dig_space k (by omega)
theorem strip_same {y : Str} (h : numCh y) : Txt.strip y = y := by
  unfold Txt.strip Txt.stripBy
  rw [if_pos]
  have h1 : stripLo Unicode.isSpace true y = 0 := by
    show (y.cps.toList.takeWhile Unicode.isSpace).length = 0
    rw [tw_none (num_space h)]; rfl
  have h2 : stripHi Unicode.isSpace true y 0 = y.length := by
    show y.length - ((y.cps.toList.drop 0).reverse.takeWhile Unicode.isSpace).length = _
    rw [tw_none (fun c hc => num_space h c (by simpa using hc))]; rfl
  unfold stripSame
  rw [h1, h2]
  simp
theorem strip_blank {y : Str} (h : numCh y) : Txt.strip (Str.ofString " " ++ y) = y := by
  have e : (Str.ofString " " ++ y).cps.toList = 32 :: y.cps.toList := by rw [cl_app, sp_eq]; rfl
  have h1 : stripLo Unicode.isSpace true (Str.ofString " " ++ y) = 1 := by
    show ((Str.ofString " " ++ y).cps.toList.takeWhile Unicode.isSpace).length = 1
    rw [e, List.takeWhile_cons, show Unicode.isSpace 32 = true from by decide +kernel, if_pos rfl, tw_none (num_space h)]; rfl
  have h2 : stripHi Unicode.isSpace true (Str.ofString " " ++ y) 1 = (Str.ofString " " ++ y).length := by
    show (Str.ofString " " ++ y).length - (((Str.ofString " " ++ y).cps.toList.drop 1).reverse.takeWhile Unicode.isSpace).length = _
    rw [e, tw_none (fun c hc => num_space h c (by simpa using hc))]; rfl
  unfold Txt.strip Txt.stripBy
  rw [if_neg (by unfold stripSame; rw [h1]; simp)]
  unfold PySem.stripped
  rw [h1, h2]
  refine str_eq ?_
  rw [StrLaws.strSub_toList, len_cl, e]
  show (y.cps.toList).take _ = _
  exact List.take_of_length_le (by simp)
theorem fl_one : ∀ l : List Nat, (List.map (fun x => [x]) l).flatten = l
  | [] => rfl
  | a :: l => by rw [List.map_cons, List.flatten_cons, fl_one l]; rfl
theorem lower_same {y : Str} (h : numCh y) : Txt.lower y = y := by
  unfold Txt.lower placed
  have e : (y.cps.mapIdx fun i _ => (Unicode.lowerAt y.cps i).toArray) = y.cps.map fun c => #[c] := by
    apply Array.ext
    · simp
    · intro i h1 h2
      rw [Array.getElem_mapIdx, Array.getElem_map]
      have hi : i < y.cps.size := by simpa using h1
      have hc := h y.cps[i] (Array.mem_toList_iff.mpr (Array.getElem_mem hi))
      unfold Unicode.lowerAt
      rw [Array.getElem?_eq_getElem hi]
      dsimp only
      obtain ⟨k, hk⟩ : ∃ k, y.cps[i] = 45 + k := ⟨y.cps[i] - 45, by omega⟩
      have hn : (y.cps[i] == 0x3A3) = false := by rw [beq_eq_false_iff_ne]; omega
      rw [hn, Bool.false_and, if_neg (by decide), hk, dig_lower k (by omega)]
  rw [e]
  refine Str.ext' ?_
  show (Array.map (fun c => #[c]) y.cps).flatten = y.cps
  apply Array.toList_inj.mp
  simp [Array.toList_flatten, Function.comp_def, fl_one]
theorem dv_app (xs : List Nat) : ∀ ys : List Nat, digitsVal (ys ++ xs) = digitsVal ys * 10 ^ xs.length + digitsVal xs := by
  suffices H : ∀ (n : Nat) (xs : List Nat), xs.length = n → ∀ ys : List Nat, digitsVal (ys ++ xs) = digitsVal ys * 10 ^ xs.length + digitsVal xs from H _ xs rfl
  intro n
  induction n with
  | zero =>
    intro xs hx ys
    have : xs = [] := List.length_eq_zero_iff.mp hx
    subst this
    show digitsVal (ys ++ []) = digitsVal ys * 10 ^ 0 + 0
    rw [List.append_nil]; omega
  | succ n ih =>
    intro xs hx ys
    have hne : xs ≠ [] := by intro h; rw [h] at hx; cases hx
    obtain ⟨zs, c, rfl⟩ : ∃ zs c, xs = zs ++ [c] := ⟨xs.dropLast, xs.getLast hne, (List.dropLast_concat_getLast hne).symm⟩
    have hz : zs.length = n := by rw [List.length_append] at hx; simpa using hx
    rw [← List.append_assoc, digitsVal_snoc, digitsVal_snoc, ih zs hz, List.length_append]
    show _ = digitsVal ys * 10 ^ (zs.length + 1) + _
    rw [Nat.pow_succ, Nat.add_mul, Nat.mul_assoc]
    omega
theorem td_len : ∀ (k m : Nat), m < 10 ^ (k + 1) → (Nat.toDigits 10 m).length ≤ k + 1
  | 0, m, h => by rw [Nat.toDigits_of_lt_base (by simpa using h)]; simp
  | k + 1, m, h => by
    by_cases h9 : m < 10
    · rw [Nat.toDigits_of_lt_base h9]; simp
    · have t : Nat.toDigits 10 (m / 10) ++ Nat.toDigits 10 (m % 10) = Nat.toDigits 10 (10 * (m / 10) + m % 10) := Nat.toDigits_append_toDigits (by decide) (by omega) (Nat.mod_lt m (by decide))
      rw [Nat.div_add_mod] at t
      rw [← t, List.length_append, Nat.toDigits_of_lt_base (Nat.mod_lt m (by decide))]
      have := td_len k (m / 10) (by rw [Nat.pow_succ] at h; omega)
      simp
      omega
/-- five places -/
theorem rj5 {r : Int} (h0 : 0 ≤ r) (h1 : r < 100000) : isDig (Txt.rjustF (iS r) 5 48) ∧ (Txt.rjustF (iS r) 5 48).length = 5 ∧ (digitsVal (Txt.rjustF (iS r) 5 48).cps.toList : Int) = r := by
  obtain ⟨m, rfl⟩ := Int.eq_ofNat_of_zero_le h0
  have hl : (iS (m : Int)).cps.toList.length ≤ 5 := by rw [iS_num, List.length_map]; exact td_len 4 m (by omega)
  have hd := dig_num m
  have hv := val_num m
  have he : (Txt.rjustF (iS (m : Int)) 5 48).cps.toList = List.replicate (5 - (iS (m : Int)).cps.toList.length) 48 ++ (iS (m : Int)).cps.toList := by
    unfold Txt.rjustF
    split
    · rename_i h
      rw [len_cl] at h
      have : (iS (m : Int)).cps.toList.length = 5 := by omega
      rw [this]; rfl
    · rename_i h
      unfold Builtin.Str.padded
      show (Array.replicate _ 48 ++ (iS (m : Int)).cps ++ Array.replicate 0 48).toList = _
      rw [Array.toList_append, Array.toList_append, Array.toList_replicate, Array.toList_replicate, len_cl]
      simp
  refine ⟨?_, ?_, ?_⟩
  · intro c hc
    rw [he, List.mem_append] at hc
    rcases hc with hc | hc
    · have := List.eq_of_mem_replicate hc; omega
    · exact hd c hc
  · rw [len_cl, he, List.length_append, List.length_replicate]; omega
  · rw [he, dv_app, hv]
    have z : ∀ k, digitsVal (List.replicate k 48) = 0 := by
      intro k
      induction k with
      | zero => rfl
      | succ k ih => rw [List.replicate_succ, digitsVal_zero, ih]
    rw [z]; omega
theorem ne_head {z y : Str} {c d : Nat} {r s : List Nat} (h : z.cps.toList = c :: r) (h' : y.cps.toList = d :: s) (hn : c ≠ d) : z ≠ y := fun e => by
  subst e
  rw [h] at h'
  exact hn (List.cons.inj h').1
theorem rok {x sgn W dot P : Str} {N D sg : Int} (hst : Txt.strip x = sgn ++ (W ++ dot ++ P)) (hx : x.length ≤ 60) (hsg : (sgn = Str.ofString "-" ∧ sg = -1) ∨ (sgn = Str.empty ∧ sg = 1)) (hW : isDig W) (hW0 : W.cps.toList ≠ []) (hWl : W.length ≤ 15) (hP : isDig P)
    (hdp : (dot = Str.empty ∧ P = Str.empty ∧ D = 1) ∨ (dot = Str.ofString "." ∧ P.length = 5 ∧ D = 100000)) (hN : (digitsVal (W.cps.toList ++ P.cps.toList) : Int) = N) (hN1 : N < 10 ^ 13) :
    ROK x (sgn ++ (W ++ dot ++ P)) (W ++ dot ++ P) W dot P N D sg := by
  obtain ⟨c, r, hc⟩ : ∃ c r, W.cps.toList = c :: r := by
    cases h : W.cps.toList with
    | nil => exact absurd h hW0
    | cons c r => exact ⟨c, r, rfl⟩
  have hc1 := hW c (by rw [hc]; exact List.mem_cons_self ..)
  have dot_eq : Str.ofString "." = ⟨#[46]⟩ := by decide +kernel
  have hdl : dot.length ≤ 1 ∧ P.length ≤ 5 := by
    rcases hdp with ⟨rfl, rfl, _⟩ | ⟨rfl, h, _⟩
    · exact ⟨by decide, by decide⟩
    · exact ⟨by decide +kernel, by omega⟩
  have hsl : sgn.length ≤ 1 := by
    rcases hsg with ⟨rfl, _⟩ | ⟨rfl, _⟩
    · decide +kernel
    · decide
  have hz : (W ++ dot ++ P).cps.toList = c :: (r ++ dot.cps.toList ++ P.cps.toList) := by rw [cl_app, cl_app, hc]; simp
  have hzc : numCh (W ++ dot ++ P) := by
    intro d hd
    rw [cl_app, cl_app, List.mem_append, List.mem_append] at hd
    rcases hd with (hd | hd) | hd
    · have := hW d hd; omega
    · rcases hdp with ⟨rfl, _⟩ | ⟨rfl, _⟩
      · cases hd
      · rw [dot_eq] at hd; simp at hd; omega
    · have := hP d hd; omega
  have hyc : numCh (sgn ++ (W ++ dot ++ P)) := by
    intro d hd
    rw [cl_app, List.mem_append] at hd
    rcases hd with hd | hd
    · rcases hsg with ⟨rfl, _⟩ | ⟨rfl, _⟩
      · rw [min_eq] at hd; simp at hd; omega
      · cases hd
    · exact hzc d hd
  have hzl : (W ++ dot ++ P).length ≤ 30 := by rw [Str.length_append, Str.length_append]; omega
  have e101 : Txt.partition (W ++ dot ++ P) (Str.ofString "e") = (W ++ dot ++ P, Str.empty, Str.empty) := by
    have : Str.ofString "e" = ⟨#[101]⟩ := by decide +kernel
    rw [this]
    exact part_none fun h => by have := hzc _ h; omega
  have e46 : Txt.partition (W ++ dot ++ P) (Str.ofString ".") = (W, dot, P) := by
    rcases hdp with ⟨rfl, rfl, _⟩ | ⟨rfl, h, _⟩
    · rw [Str.append_empty, Str.append_empty, dot_eq]
      exact part_none (dig_not hW (by decide))
    · rw [dot_eq]
      exact part_mid (dig_not hW (by decide))
  have hWP : isDig (W ++ P) := by
    intro d hd
    rw [cl_app, List.mem_append] at hd
    rcases hd with hd | hd
    · exact hW d hd
    · exact hP d hd
  have hwp : (W ++ P).cps.toList ≠ [] := by rw [cl_app, hc]; simp
  have hwl : (W ++ P).length ≤ 30 := by rw [Str.length_append]; omega
  exact {
    hx := hx, hyl := by rw [Str.length_append]; omega, hzl := by omega, hWl := by omega, hDl := hdl.1, hPl := by omega
    hy := by rw [hst, lower_same hyc]
    hs := by
      rcases hsg with ⟨rfl, h⟩ | ⟨rfl, h⟩
      · left
        have e : (Str.ofString "-" ++ (W ++ dot ++ P)).cps.toList = 45 :: (W ++ dot ++ P).cps.toList := by rw [cl_app, min_eq]; rfl
        rw [slice_head e, slice_tail e]
        exact ⟨beq_t min_eq.symm, by rw [List.any_cons, beq_t min_eq, Bool.true_or], str_eq rfl, h⟩
      · right
        rw [Str.empty_append, slice_head hz]
        have n1 : (⟨#[c]⟩ : Str) ≠ Str.ofString "-" := ne_head (c := c) (d := 45) (r := []) (s := []) rfl (by rw [min_eq]) (by omega)
        have n2 : (⟨#[c]⟩ : Str) ≠ Str.ofString "+" := ne_head (c := c) (d := 43) (r := []) (s := []) rfl (by rw [show Str.ofString "+" = ⟨#[43]⟩ from by decide +kernel]) (by omega)
        exact ⟨beq_f n1, by rw [List.any_cons, beq_f n1.symm, List.any_cons, beq_f n2.symm]; rfl, rfl, h⟩
    hinf := by
      have n1 : (W ++ dot ++ P) ≠ Str.ofString "inf" := ne_head (d := 105) (s := [110, 102]) hz (by decide +kernel) (by omega)
      have n2 : (W ++ dot ++ P) ≠ Str.ofString "infinity" := ne_head (d := 105) (s := [110, 102, 105, 110, 105, 116, 121]) hz (by decide +kernel) (by omega)
      rw [List.any_cons, beq_f n1.symm, List.any_cons, beq_f n2.symm]; rfl
    hnan := beq_f (ne_head (d := 110) (s := [97, 110]) hz (by decide +kernel) (by omega))
    pe1 := by rw [e101], pe2 := by rw [e101]; exact ofs_empty.symm, pe3 := by rw [e101]; exact ofs_empty.symm
    pd1 := by rw [e46], pd2 := by rw [e46], pd3 := by rw [e46]
    hl := by omega
    hne := bne_t fun e => hwp (by rw [e, ofs_empty]; rfl)
    hd := hWP
    hN := by
      have := intText_digits (x := W ++ P) hWP hwp (by omega)
      rw [cl_app, hN] at this
      exact this
    hN0 := by omega, hN1 := hN1
    hD := by
      rcases hdp with ⟨_, rfl, h⟩ | ⟨_, h, h'⟩
      · exact .inl ⟨by decide, h⟩
      · exact .inr ⟨h, h'⟩ }
theorem reads_int {n : Int} (hn : n.natAbs < 10 ^ 12) : ReadsNum (Str.ofString " " ++ iS n) n 1 := by
  have ls : (Str.ofString " ").length = 1 := by decide +kernel
  have key : ∀ m : Int, 0 ≤ m → m < 10 ^ 12 → (iS m).length ≤ 14 ∧ (digitsVal ((iS m).cps.toList ++ Str.empty.cps.toList) : Int) = m ∧ iS m ++ Str.empty ++ Str.empty = iS m := fun m h0 h1 => by
    refine ⟨iS_len15 h0 (by omega), ?_, by rw [Str.append_empty, Str.append_empty]⟩
    obtain ⟨k, rfl⟩ := Int.eq_ofNat_of_zero_le h0
    rw [cl_empty, List.append_nil, val_num]
  have nc : ∀ m : Int, 0 ≤ m → numCh (iS m) := fun m h c hc => by have := dig_iS h c hc; omega
  by_cases h : 0 ≤ n
  · obtain ⟨k1, k2, k3⟩ := key n h (by omega)
    refine ⟨_, _, iS n, Str.empty, Str.empty, n, 1, rok (sgn := Str.empty) ?_ ?_ (.inr ⟨rfl, rfl⟩) (dig_iS h) (ne_iS h) (by omega) (fun c hc => by cases hc) (.inl ⟨rfl, rfl, rfl⟩) k2 (by omega), by omega⟩
    · rw [k3, Str.empty_append]; exact strip_blank (nc n h)
    · rw [Str.length_append]; omega
  · obtain ⟨k1, k2, k3⟩ := key (-n) (by omega) (by omega)
    have e : iS n = Str.ofString "-" ++ iS (-n) := by rw [← iS_neg (by omega)]; congr 1; omega
    have lm : (Str.ofString "-").length = 1 := by decide +kernel
    refine ⟨_, _, iS (-n), Str.empty, Str.empty, -n, -1, rok (sgn := Str.ofString "-") ?_ ?_ (.inl ⟨rfl, rfl⟩) (dig_iS (by omega)) (ne_iS (by omega)) (by omega) (fun c hc => by cases hc) (.inl ⟨rfl, rfl, rfl⟩) k2 (by omega), by omega⟩
    · rw [k3, e]
      refine strip_blank ?_
      intro c hc
      rw [cl_app, List.mem_append] at hc
      rcases hc with hc | hc
      · rw [min_eq] at hc; simp at hc; omega
      · exact nc (-n) (by omega) c hc
    · rw [e, Str.length_append, Str.length_append]; omega
theorem reads_dec {sg A r : Int} {sgn : Str} (hsg : (sgn = Str.ofString "-" ∧ sg = -1) ∨ (sgn = Str.empty ∧ sg = 1)) (hA : 0 ≤ A) (hA1 : A < 10 ^ 8) (h0 : 0 ≤ r) (h1 : r < 100000) :
    ReadsNum (sgn ++ iS A ++ Str.ofString "." ++ Txt.rjustF (iS r) 5 48) (sg * (A * 100000 + r)) 100000 := by
  obtain ⟨r1, r2, r3⟩ := rj5 h0 h1
  have lA := iS_len15 hA (by omega)
  have hsl : sgn.length ≤ 1 := by
    rcases hsg with ⟨rfl, _⟩ | ⟨rfl, _⟩
    · decide +kernel
    · decide
  have ld : (Str.ofString ".").length = 1 := by decide +kernel
  have dot_eq : Str.ofString "." = ⟨#[46]⟩ := by decide +kernel
  have ex : sgn ++ iS A ++ Str.ofString "." ++ Txt.rjustF (iS r) 5 48 = sgn ++ (iS A ++ Str.ofString "." ++ Txt.rjustF (iS r) 5 48) := by simp only [Str.append_assoc]
  rw [ex]
  refine ⟨_, _, iS A, Str.ofString ".", Txt.rjustF (iS r) 5 48, A * 100000 + r, sg, rok (sgn := sgn) (strip_same ?_) ?_ hsg (dig_iS hA) (ne_iS hA) (by omega) r1 (.inr ⟨rfl, r2, rfl⟩) ?_ (by omega), rfl⟩
  · intro c hc
    rw [cl_app, cl_app, cl_app, List.mem_append, List.mem_append, List.mem_append] at hc
    rcases hc with hc | (hc | hc) | hc
    · rcases hsg with ⟨rfl, _⟩ | ⟨rfl, _⟩
      · rw [min_eq] at hc; simp at hc; omega
      · cases hc
    · have := dig_iS hA c hc; omega
    · rw [dot_eq] at hc; simp at hc; omega
    · have := r1 c hc; omega
  · simp only [Str.length_append]; omega
  · obtain ⟨m, rfl⟩ := Int.eq_ofNat_of_zero_le hA
    rw [dv_app, val_num]
    rw [len_cl] at r2
    rw [r2]
    omega
end Mine
end
section
local macro_rules | `(tactic| ktr_units) => `(tactic| ((simp only [Mine.units_make, units_in1, units_deeper, Around.mark_units, ktrTop]); (have hcL9 := cLine_is); omega))
local macro_rules | `(tactic| ktr_room) => `(tactic| ((simp only [depth_mark, depth_under_make, depth_under_kw, depth_in1, depth_deeper, ktrTop]); omega))
local macro_rules | `(tactic| bits_by_make) => `(tactic| with_reducible assumption)
local macro_rules | `(tactic| walk_at "call builtin:divmod") => `(tactic| (k_here; (with_reducible show wpAny _ _ (call (Value.builtin _) [Value.int _ _, Value.int _ _]) _ _ _); refine' divmod_N ?F ?N ?b ?_ (Or.inl (Mine.noPy ?hp)); (case F => k_asm); (case N => k_asm); (case b => omega); (case hp => omega); k_whole; intro h' F' N'; (try k_sweep)))
local macro_rules | `(tactic| walk_at "call builtin:max") => `(tactic| (k_here; (with_reducible show wpAny _ _ (call (Value.builtin _) [Value.int _ _, Value.int _ _]) _ _ _); k_dflt (refine' Mine.max_g ?hh ?F ?N ?_; (case hh => exact rfl); (case F => k_asm); (case N => k_asm); k_whole); intro v' r' h' tk' e1' e2' e3' F' N'; (first | (have e4' := Or.resolve_left e3' (by omega); clear e3') | (have e4' := Or.resolve_right e3' (by omega); clear e3') | skip); (try k_sweep)))
local macro_rules | `(tactic| walk_at "call builtin:min") => `(tactic| (k_here; (with_reducible show wpAny _ _ (call (Value.builtin _) [Value.int _ _, Value.int _ _]) _ _ _); k_dflt (refine' Mine.min_g ?hh ?F ?N ?_; (case hh => exact rfl); (case F => k_asm); (case N => k_asm); k_whole); intro v' r' h' tk' e1' e2' e3' F' N'; (first | (have e4' := Or.resolve_left e3' (by omega); clear e3') | (have e4' := Or.resolve_right e3' (by omega); clear e3') | skip); (try k_sweep)))
local macro_rules | `(tactic| walk_at "call builtin:abs") => `(tactic| (k_here; (with_reducible refine Mine.abs_g ?_); intro v' u' tk' e1' e2' e3'))
local macro_rules | `(tactic| walk_at "binaryOp LShift int int") => `(tactic| (k_here; (with_reducible refine Mine.lshift_g ?kbn ?kbs ?_); (case kbn => omega); (case kbs => omega); intro v' u' tk' e1' e2' e3'; (first | replace e2' := e2' (by omega) | clear e2')))
local macro_rules | `(tactic| walk_at "storeName") => `(tactic| (k_here; (with_reducible first | show wpAny _ _ (storeName _ _ (Value.int (HAdd.hAdd _ _) _)) _ _ _ | show wpAny _ _ (storeName _ _ (Value.int (HSub.hSub _ _) _)) _ _ _ | show wpAny _ _ (storeName _ _ (Value.int (HMul.hMul _ _) _)) _ _ _ | show wpAny _ _ (storeName _ _ (Value.int (Neg.neg _) _)) _ _ _ | show wpAny _ _ (storeName _ _ (Value.int (Int.fdiv _ _) _)) _ _ _ | show wpAny _ _ (storeName _ _ (Value.int (Int.fmod _ _) _)) _ _ _ | show wpAny _ _ (storeName _ _ (Value.int (ite _ _ _) _)) _ _ _); (refine Mine.store_g (fun v' e1' => ?_)); k_dflt (refine' storeX_L ?F ?N ?_ ?a ?b; (case F => k_asm); (case N => k_asm); (case a => rfl); (case b => rfl); k_whole; intro h' F' N'; (try k_sweep))))
local macro_rules | `(tactic| walk_at "call ref") => `(tactic| (k_here; (with_reducible show wpAny _ _ (call (Value.ref 116) _) _ _ _); k_dflt (refine' call_cls ?k1 ?k2 ?k3 ?k4 ?k5 ?k6 ?_; (case k1 => k_asm); (case k2 => k_asm); (case k3 => k_asm); (case k4 => k_is); (case k5 => k_is); (case k6 => k_is); k_whole; intro x' d' h' F' N' l1 l2; (try k_lt l1); (try k_lt2 l2); (try k_sweep); (refine' code_def ?k1 ?k2 ?k3 ?k4 ?k5 ?kA ?kF ?kK ?k6 ?k7 ?k8 ?k9 ?kB ?_ ?c2 ?c3 ?c4 ?c5; (case kA => exact rfl); (case kF => exact rfl); (case kK => first | exact rfl | assumption); (case k1 => k_asm); (case k2 => k_asm); (case k3 => k_asm); (case k4 => k_asm); (case k5 => k_asm); (case k6 => k_is); (case k7 => k_is); (case k8 => ktr_room); (case k9 => first | exact BindsTo.of_eq rfl | exact binds_K (by k_in) rfl (by k_is) rfl rfl rfl); (case c5 => decide); (case kB => exact locs rfl); (case c2 => exact rfl); (case c3 => exact rfl); (case c4 => exact rfl); k_whole; intro g' L' h' FG' F' N' B' X' T'; (try dsimp only); (try k_lift B'); (try k_fold)))))
local macro_rules | `(tactic| walk_at "binaryOp FloorDiv int int") => `(tactic| (k_here; (with_reducible refine floordiv_int ?kbn ?_ (Or.inl (Mine.noPy ?kbp))); (case kbn => omega); (case kbp => first | omega | (refine' Nat.le_trans ?ba ?bb; (case ba => bits_by_make); (case bb => omega)))))
local macro_rules | `(tactic| walk_at "binaryOp Mod int int") => `(tactic| (k_here; (with_reducible refine mod_int' ?kbn ?_); (case kbn => omega)))
local macro_rules | `(tactic| walk_at "binaryOp Mult int int") => `(tactic| (k_here; (with_reducible refine P.mul_int ?_ ?kbn); (case kbn => first | exact PySem.IntMulOk.of_left (PySem.intBits_le_64 (by omega) (by omega)) | exact PySem.IntMulOk.of_right (PySem.intBits_le_64 (by omega) (by omega)) | exact Mine.mulOk (by omega))))
local macro_rules | `(tactic| walk_at "call type:int") => `(tactic| (k_here; (with_reducible show wpAny _ _ (call (Value.type "int") [Value.ref _]) _ _ _); k_dflt (refine' Mine.int_inst ?k1 ?k2 ?k3 ?k4 ?_; (case k1 => k_in); (case k2 => k_inst); (case k3 => k_is); (case k4 => k_is); k_whole)))
local macro_rules | `(tactic| k_mem) => `(tactic| assumption)
local macro_rules | `(tactic| walk_at "formatField int") => `(tactic| (k_here; (with_reducible refine Mine.fmt_g ?kbn ?_); (case kbn => first | omega | exact Mine.absBd (by assumption) (by omega)); intro v' u' tk' e1' e2'))
local macro_rules | `(tactic| walk_at "call ref") => `(tactic| (k_here; (with_reducible show wpAny _ _ (call (Value.ref 28) [Value.int _ _, Value.int _ _]) _ _ _); k_dflt (refine' Mine.cx_use (Mine.rounded_T _ _ _ _ _ _ _ _ _ ?h0 ?hd) ?k1 ?k2 ?k3 ?k4 ?k5 ?kK ?kd ?ku ?_; (case k1 => first | k_asm | fail "cx: below"); (case k2 => first | k_asm | fail "cx: frame"); (case k3 => first | k_asm | fail "cx: part"); (case k4 => first | k_asm | fail "cx: news"); (case k5 => first | k_asm | fail "cx: top"); (case kK => first | exact rfl | assumption | fail "cx: kind"); (case kd => first | ktr_room | fail "cx: room"); (case ku => first | ktr_units | fail "cx: units"); (case h0 => first | assumption | omega); (case hd => first | assumption | omega)); k_dflt (intro v' t' h' tk' e1' F' N'; obtain ⟨e1', e2'⟩ := e1'; (try k_sweep); (try dsimp only); (try k_fold))))
local macro_rules | `(tactic| walk_at "call ref") => `(tactic| (k_here; (with_reducible show wpAny _ _ (call (Value.ref 35) [Value.int _ _, Value.int _ _]) _ _ _); k_dflt (refine' Mine.cx_use (Mine.nearest_T _ _ _ _ _ _ _ _ _ ?h0 ?hn0 ?hn ?hd) ?k1 ?k2 ?k3 ?k4 ?k5 ?kK ?kd ?ku ?_; (case k1 => first | k_asm | fail "cx: below"); (case k2 => first | k_asm | fail "cx: frame"); (case k3 => first | k_asm | fail "cx: part"); (case k4 => first | k_asm | fail "cx: news"); (case k5 => first | k_asm | fail "cx: top"); (case kK => first | exact rfl | assumption | fail "cx: kind"); (case kd => first | ktr_room | fail "cx: room"); (case ku => first | ktr_units | fail "cx: units"); (case h0 => first | assumption | omega); (case hn0 => first | assumption | omega); (case hn => first | assumption | omega); (case hd => first | assumption | omega)); k_dflt (intro a' b' t' u' D' c' h' tk' e1' F' N' l1'; (try simp only [AllLt, and_true] at l1'); (try k_sweep); (try dsimp only); (try k_fold))))
local macro_rules | `(tactic| walk_at "call ref") => `(tactic| (k_here; (with_reducible show wpAny _ _ (call (Value.ref 71) [Value.ref _]) _ _ _); k_dflt (refine' Mine.cx_use (Mine.dint_T _ _ _ _ _ _ _ _ _ _ _ _ _ ?hx ?hdx ?h0 ?hb) ?k1 ?k2 ?k3 ?k4 ?k5 ?kK ?kd ?ku ?_; (case k1 => first | k_asm | fail "cx: below"); (case k2 => first | k_asm | fail "cx: frame"); (case k3 => first | k_asm | fail "cx: part"); (case k4 => first | k_asm | fail "cx: news"); (case k5 => first | k_asm | fail "cx: top"); (case kK => first | exact rfl | assumption | fail "cx: kind"); (case kd => first | ktr_room | fail "cx: room"); (case ku => first | ktr_units | fail "cx: units"); (case hx => first | assumption | k_mem); (case hdx => first | assumption | k_mem); (case h0 => omega); (case hb => omega)); k_dflt (intro v' t' h' tk' e1' F' N'; (try k_sweep); (try dsimp only [Mine.IntBack]); (try k_fold))))
local macro_rules | `(tactic| walk_at "call ref") => `(tactic| (k_here; (with_reducible show wpAny _ _ (call (Value.ref 42) [Value.ref _]) _ _ _); k_dflt (refine' Mine.cx_use (Mine.parts_T _ _ _ _ _ _ _ _ _ _ _ _ _ ?hx ?hdx) ?k1 ?k2 ?k3 ?k4 ?k5 ?kK ?kd ?ku ?_; (case k1 => first | k_asm | fail "cx: below"); (case k2 => first | k_asm | fail "cx: frame"); (case k3 => first | k_asm | fail "cx: part"); (case k4 => first | k_asm | fail "cx: news"); (case k5 => first | k_asm | fail "cx: top"); (case kK => first | exact rfl | assumption | fail "cx: kind"); (case kd => first | ktr_room | fail "cx: room"); (case ku => first | ktr_units | fail "cx: units"); (case hx => first | assumption | k_mem); (case hdx => first | assumption | k_mem)); k_dflt (intro a' b' t' u' D' c' h' tk' e1' F' N' l1'; obtain ⟨e1', e2'⟩ := e1'; subst e1'; subst e2'; (try simp only [AllLt, and_true] at l1'); (try k_sweep); (try dsimp only); (try k_fold))))
local macro_rules | `(tactic| walk_at "call ref") => `(tactic| (k_here; (with_reducible show wpAny _ _ (call (Value.ref 116) [Value.int _ _, Value.int _ _]) _ _ _); k_dflt (refine' Mine.cx_use (Mine.Double_T _ _ _ _ _ _ _ _ _ ?h0 ?hn ?hd) ?k1 ?k2 ?k3 ?k4 ?k5 ?kK ?kd ?ku ?_; (case k1 => first | k_asm | fail "cx: below"); (case k2 => first | k_asm | fail "cx: frame"); (case k3 => first | k_asm | fail "cx: part"); (case k4 => first | k_asm | fail "cx: news"); (case k5 => first | k_asm | fail "cx: top"); (case kK => first | exact rfl | assumption | fail "cx: kind"); (case kd => first | ktr_room | fail "cx: room"); (case ku => first | ktr_units | fail "cx: units"); (case h0 => first | omega | exact Int.mul_pos (by assumption) (by assumption)); (case hn => first | assumption | omega | (refine' Nat.le_trans ?ba ?bb; (case ba => bits_by_make); (case bb => omega))); (case hd => first | assumption | omega | (refine' Nat.le_trans ?ba ?bb; (case ba => bits_by_make); (case bb => omega)))); k_dflt (intro a' b' t' u' k1' k2' x' d' h' tk' e1' F' N' l1' l2'; obtain ⟨e1', e2', e3', e4'⟩ := e1'; (try simp only [AllLt, and_true] at l1'); (try k_lt2 l2'); (try k_sweep); (try dsimp only); (try k_fold))))
local macro_rules | `(tactic| walk_at "call ref") => `(tactic| (k_here; (with_reducible show wpAny _ _ (call (Value.ref 116) [Value.int _ _]) _ _ _); k_dflt (refine' Mine.cx_use (Mine.Double1_T _ _ _ _ _ _ _ ?hn) ?k1 ?k2 ?k3 ?k4 ?k5 ?kK ?kd ?ku ?_; (case k1 => first | k_asm | fail "cx: below"); (case k2 => first | k_asm | fail "cx: frame"); (case k3 => first | k_asm | fail "cx: part"); (case k4 => first | k_asm | fail "cx: news"); (case k5 => first | k_asm | fail "cx: top"); (case kK => first | exact rfl | assumption | fail "cx: kind"); (case kd => first | ktr_room | fail "cx: room"); (case ku => first | ktr_units | fail "cx: units"); (case hn => first | assumption | omega)); k_dflt (intro a' b' t' u' k1' k2' x' d' h' tk' e1' F' N' l1' l2'; obtain ⟨e1', e2', e3', e4'⟩ := e1'; (try simp only [AllLt, and_true] at l1'); (try k_lt2 l2'); (try k_sweep); (try dsimp only); (try k_fold))))
local macro_rules | `(tactic| walk_at "call ref") => `(tactic| (k_here; (with_reducible show wpAny _ _ (call (Value.ref 134) [Value.ref _]) _ _ _); k_dflt (refine' Mine.cx_use (Mine.isfin_T _ _ _ _ _ _ _ _ _ _ _ _ _ ?hx ?hdx ?h0) ?k1 ?k2 ?k3 ?k4 ?k5 ?kK ?kd ?ku ?_; (case k1 => first | k_asm | fail "cx: below"); (case k2 => first | k_asm | fail "cx: frame"); (case k3 => first | k_asm | fail "cx: part"); (case k4 => first | k_asm | fail "cx: news"); (case k5 => first | k_asm | fail "cx: top"); (case kK => first | exact rfl | assumption | fail "cx: kind"); (case kd => first | ktr_room | fail "cx: room"); (case ku => first | ktr_units | fail "cx: units"); (case hx => first | assumption | k_mem); (case hdx => first | assumption | k_mem); (case h0 => omega)); k_dflt (intro h' tk' F' N'; (try k_sweep); (try dsimp only); (try k_fold))))
local macro_rules | `(tactic| walk_at "call ref") => `(tactic| (k_here; (with_reducible show wpAny _ _ (call (Value.ref 127) [Value.int _ _]) _ _ _); k_dflt (refine' Mine.cx_use (Mine.dblI_T _ _ _ _ _ _ _ ?hn) ?k1 ?k2 ?k3 ?k4 ?k5 ?kK ?kd ?ku ?_; (case k1 => first | k_asm | fail "cx: below"); (case k2 => first | k_asm | fail "cx: frame"); (case k3 => first | k_asm | fail "cx: part"); (case k4 => first | k_asm | fail "cx: news"); (case k5 => first | k_asm | fail "cx: top"); (case kK => first | exact rfl | assumption | fail "cx: kind"); (case kd => first | ktr_room | fail "cx: room"); (case ku => first | ktr_units | fail "cx: units"); (case hn => first | assumption | omega)); k_dflt (intro a' b' t' u' k1' k2' x' d' h' tk' e1' F' N' l1' l2'; obtain ⟨e1', e2', e3', e4'⟩ := e1'; (try simp only [AllLt, and_true] at l1'); (try k_lt2 l2'); (try k_sweep); (try dsimp only); (try k_fold))))
local macro_rules | `(tactic| walk_at "call ref") => `(tactic| (k_here; (with_reducible show wpAny _ _ (call (Value.ref 106) [Value.ref _, Value.int _ _]) _ _ _); k_dflt (refine' Mine.cx_use (Mine.sub_T _ _ _ _ _ _ _ _ _ _ _ _ _ _ _ ?hx ?hdx ?h0 ?ha ?hb ?hn) ?k1 ?k2 ?k3 ?k4 ?k5 ?kK ?kd ?ku ?_; (case k1 => first | k_asm | fail "cx: below"); (case k2 => first | k_asm | fail "cx: frame"); (case k3 => first | k_asm | fail "cx: part"); (case k4 => first | k_asm | fail "cx: news"); (case k5 => first | k_asm | fail "cx: top"); (case kK => first | exact rfl | assumption | fail "cx: kind"); (case kd => first | ktr_room | fail "cx: room"); (case ku => first | ktr_units | fail "cx: units"); (case hx => first | assumption | k_mem); (case hdx => first | assumption | k_mem); (case h0 => omega); (case ha => first | assumption | omega); (case hb => first | assumption | omega); (case hn => first | assumption | omega | ((rename (_ = Mine.trn _ _) => e9'); rw [e9']; omega))); k_dflt (intro a' b' t' u' k1' k2' x' d' h' tk' e1' F' N' l1' l2'; (try (replace e1' := Mine.frac_part (by assumption) (by assumption) e1'; (have e2' := e1'); obtain ⟨e3', e4', e5', e6'⟩ := e2')); (try simp only [AllLt, and_true] at l1'); (try k_lt2 l2'); (try k_sweep); (try dsimp only); (try dsimp only [PySem.W.CmpBack]); (try (refine ⟨rfl, ?_⟩)); (try (refine handed_on rfl ?_)); (try dsimp only); (try k_fold))))
local macro_rules | `(tactic| walk_at "call ref") => `(tactic| (k_here; (with_reducible show wpAny _ _ (call (Value.ref 167) [Value.ref _, Value.int 1000 _]) _ _ _); k_dflt (refine' Mine.cx_use (Mine.nf_T _ _ _ _ _ _ _ _ _ _ _ _ _ _ _ ?hx ?hdx (show Mine.AbsOf _ _ from rfl) ?hn0 ?hnb ?h0 ?hb) ?k1 ?k2 ?k3 ?k4 ?k5 ?kK ?kd ?ku ?_; (case k1 => first | k_asm | fail "cx: below"); (case k2 => first | k_asm | fail "cx: frame"); (case k3 => first | k_asm | fail "cx: part"); (case k4 => first | k_asm | fail "cx: news"); (case k5 => first | k_asm | fail "cx: top"); (case kK => first | exact rfl | assumption | fail "cx: kind"); (case kd => first | ktr_room | fail "cx: room"); (case ku => first | ktr_units | fail "cx: units"); (case hx => first | assumption | k_mem); (case hdx => first | assumption | k_mem); (case hn0 => omega); (case hnb => omega); (case h0 => omega); (case hb => omega)); k_dflt (intro a' b' t' u' D' c' h' tk' e1' F' N' l1'; (obtain ⟨p', e1', e2'⟩ := e1'); (have e3' := Mine.nfres_bd e1' e2'); (obtain ⟨e3', e4', e5', e6', e7'⟩ := e3'); (try simp only [AllLt, and_true] at l1'); (try k_sweep); (try dsimp only); (try k_fold))))
local macro_rules | `(tactic| walk_at "call ref") => `(tactic| (k_here; (with_reducible show wpAny _ _ (call (Value.ref 153) [Value.str _ _]) _ _ _); k_dflt (refine' Mine.cx_use (Mine.plain_T _ _ _ _ _ _ _ ?hx ?h0 ?hd) ?k1 ?k2 ?k3 ?k4 ?k5 ?kK ?kd ?ku ?_; (case k1 => first | k_asm | fail "cx: below"); (case k2 => first | k_asm | fail "cx: frame"); (case k3 => first | k_asm | fail "cx: part"); (case k4 => first | k_asm | fail "cx: news"); (case k5 => first | k_asm | fail "cx: top"); (case kK => first | exact rfl | assumption | fail "cx: kind"); (case kd => first | ktr_room | fail "cx: room"); (case ku => first | ktr_units | fail "cx: units"); (case hx => first | assumption | omega); (case h0 => assumption); (case hd => assumption)); k_dflt (intro h' tk' F' N'; (try k_sweep); (try dsimp only); (try k_fold))))
namespace Mine
theorem store_s {M : Model} {A : Around} {E : Value → Shared → Prop} {s : Shared} {env : Env} {x : Str} {e y : Str} {t : Tok} {Q : Unit → Shared → Prop} (h : e = y) (k : wpAny M A (storeName env x (.str y t)) Q E s) : wpAny M A (storeName env x (.str e t)) Q E s := by subst h; exact k
theorem pow10_g {prog : Program} {w : World} {A : Around} {E : Value → Shared → Prop} {s : Shared} {t u : Tok} {Q : Value → Shared → Prop} {n v : Int} (hv : (n = 0 ∧ v = 1) ∨ (n = 5 ∧ v = 100000)) (h : ∀ u tk, Q (.int v u) { s with toks := tk }) :
    wpAny (model prog w) A (binaryOp .Pow (.int 10 t) (.int n u)) Q E s := by
  have hn : 0 ≤ n ∧ n ≤ 1000000 := by omega
  refine pow_int_small hn.1 hn.2 (by decide) ?_
  rcases hv with ⟨rfl, rfl⟩ | ⟨rfl, rfl⟩
  · exact h _ _
  · exact h _ _
theorem sgn_eq {v sg N : Int} (h2 : sg = -1) (h1 : v = -1) : v * N * 1 = sg * N := by rw [h1, h2, Int.mul_one]
theorem sgp_eq {sg N : Int} (h2 : sg = 1) : 1 * N * 1 = sg * N := by rw [h2, Int.mul_one]
theorem dbl_as {n n' d a b : Int} (e : n = n') (h : DblP n d a b) : DblP n' d a b := e ▸ h
end Mine
local macro_rules | `(tactic| walk_at "binaryOp Pow int int") => `(tactic| (k_here; (first | (with_reducible refine Mine.pow10_g (v := 1) (Or.inl (And.intro ?_ rfl)) ?_; (focus omega)) | (with_reducible refine Mine.pow10_g (v := 100000) (Or.inr (And.intro ?_ rfl)) ?_; (focus omega))); intro u' tk'))
local macro_rules | `(tactic| walk_at "storeName") => `(tactic| (k_here; (with_reducible show wpAny _ _ (storeName _ _ (Value.str _ _)) _ _ _); (refine Mine.store_s (by with_reducible assumption) ?_); k_dflt (refine' storeX_L ?F ?N ?_ ?a ?b; (case F => k_asm); (case N => k_asm); (case a => rfl); (case b => rfl); k_whole; intro h' F' N'; (try k_sweep))))
namespace Mine
theorem read_T (w : World) (mean mg mb) (news) (x y z W dot P : Str) (t : Tok) (N D sg : Int) (hx : x.length ≤ 60) (hyl : y.length ≤ 60) (hzl : z.length ≤ 60) (hWl : W.length ≤ 60) (hDl : dot.length ≤ 1) (hPl : P.length ≤ 60) (hy : Txt.lower (Txt.strip x) = y)
    (hs : ((Txt.slice y none (some 1) == Str.ofString "-") = true ∧ ([Str.ofString "-", Str.ofString "+"].any fun a => a == Txt.slice y none (some 1)) = true ∧ Txt.slice y (some 1) none = z ∧ sg = -1) ∨
      ((Txt.slice y none (some 1) == Str.ofString "-") = false ∧ ([Str.ofString "-", Str.ofString "+"].any fun a => a == Txt.slice y none (some 1)) = false ∧ y = z ∧ sg = 1))
    (hinf : ([Str.ofString "inf", Str.ofString "infinity"].any fun a => a == z) = false) (hnan : (z == Str.ofString "nan") = false)
    (pe1 : (Txt.partition z (Str.ofString "e")).1 = z) (pe2 : (Txt.partition z (Str.ofString "e")).2.1 = Str.ofString "") (pe3 : (Txt.partition z (Str.ofString "e")).2.2 = Str.ofString "")
    (pd1 : (Txt.partition z (Str.ofString ".")).1 = W) (pd2 : (Txt.partition z (Str.ofString ".")).2.1 = dot) (pd3 : (Txt.partition z (Str.ofString ".")).2.2 = P)
    (hl : (W ++ P).length ≤ 60) (hne : (W ++ P != Str.ofString "") = true) (hd : isDig (W ++ P)) (hN : PySem.intText? (W ++ P) = some N) (hN0 : 0 ≤ N) (hN1 : N < 10 ^ 13) (hD : (P.length = 0 ∧ D = 1) ∨ (P.length = 5 ∧ D = 100000)) :
    Cx w mean mg mb 160 news 26 [.str x t] (RetD w news fun a b => DblP (sg * N) D a b) := by
  rcases hs with ⟨hs1, hs2, hs3, hsg⟩ | ⟨hs1, hs2, rfl, hsg⟩
  · rcases hD with ⟨hk, rfl⟩ | ⟨hk, rfl⟩
    all_goals dsimp only [Cx, PG, RetD]
    all_goals k_fill
    all_goals (intros; rename_i hret; refine wpAny_call ?_; k_dflt cell_enter)
    all_goals k_steps
    all_goals (refine' hret _ _ _ _ _ _ _ _ _ _ ?e1 ?e2 ?e3 ?e4 ?e5; (case e2 => k_asm); (case e3 => (refine' cb_drop ?cbN ?cbS; (case cbN => assumption); (case cbS => repeat' (first | with_reducible exact sub_refl | with_reducible refine sub_cons ?_ | refine sub_skip ?_)))); (case e4 => first | with_reducible assumption | exact And.right (And.right (And.right (And.right (by with_reducible assumption))))); (case e5 => assumption); (case e1 => first | exact dbl_as (sgn_eq hsg (by with_reducible assumption)) ⟨by with_reducible assumption, by with_reducible assumption, by with_reducible assumption, by with_reducible assumption⟩ | exact dbl_as (sgp_eq hsg) ⟨by with_reducible assumption, by with_reducible assumption, by with_reducible assumption, by with_reducible assumption⟩))
  · rcases hD with ⟨hk, rfl⟩ | ⟨hk, rfl⟩
    all_goals dsimp only [Cx, PG, RetD]
    all_goals k_fill
    all_goals (intros; rename_i hret; refine wpAny_call ?_; k_dflt cell_enter)
    all_goals k_steps
    all_goals (refine' hret _ _ _ _ _ _ _ _ _ _ ?e1 ?e2 ?e3 ?e4 ?e5; (case e2 => k_asm); (case e3 => (refine' cb_drop ?cbN ?cbS; (case cbN => assumption); (case cbS => repeat' (first | with_reducible exact sub_refl | with_reducible refine sub_cons ?_ | refine sub_skip ?_)))); (case e4 => first | with_reducible assumption | exact And.right (And.right (And.right (And.right (by with_reducible assumption))))); (case e5 => assumption); (case e1 => first | exact dbl_as (sgn_eq hsg (by with_reducible assumption)) ⟨by with_reducible assumption, by with_reducible assumption, by with_reducible assumption, by with_reducible assumption⟩ | exact dbl_as (sgp_eq hsg) ⟨by with_reducible assumption, by with_reducible assumption, by with_reducible assumption, by with_reducible assumption⟩))
end Mine
end
section
local macro_rules | `(tactic| ktr_units) => `(tactic| ((simp only [Mine.units_make, units_in1, units_deeper, Around.mark_units, ktrTop]); (have hcL9 := cLine_is); omega))
local macro_rules | `(tactic| ktr_room) => `(tactic| ((simp only [depth_mark, depth_under_make, depth_under_kw, depth_in1, depth_deeper, ktrTop]); omega))
local macro_rules | `(tactic| bits_by_make) => `(tactic| with_reducible assumption)
local macro_rules | `(tactic| walk_at "call builtin:divmod") => `(tactic| (k_here; (with_reducible show wpAny _ _ (call (Value.builtin _) [Value.int _ _, Value.int _ _]) _ _ _); refine' divmod_N ?F ?N ?b ?_ (Or.inl (Mine.noPy ?hp)); (case F => k_asm); (case N => k_asm); (case b => omega); (case hp => omega); k_whole; intro h' F' N'; (try k_sweep)))
local macro_rules | `(tactic| walk_at "call builtin:max") => `(tactic| (k_here; (with_reducible show wpAny _ _ (call (Value.builtin _) [Value.int _ _, Value.int _ _]) _ _ _); k_dflt (refine' Mine.max_g ?hh ?F ?N ?_; (case hh => exact rfl); (case F => k_asm); (case N => k_asm); k_whole); intro v' r' h' tk' e1' e2' e3' F' N'; (first | (have e4' := Or.resolve_left e3' (by omega); clear e3') | (have e4' := Or.resolve_right e3' (by omega); clear e3') | skip); (try k_sweep)))
local macro_rules | `(tactic| walk_at "call builtin:min") => `(tactic| (k_here; (with_reducible show wpAny _ _ (call (Value.builtin _) [Value.int _ _, Value.int _ _]) _ _ _); k_dflt (refine' Mine.min_g ?hh ?F ?N ?_; (case hh => exact rfl); (case F => k_asm); (case N => k_asm); k_whole); intro v' r' h' tk' e1' e2' e3' F' N'; (first | (have e4' := Or.resolve_left e3' (by omega); clear e3') | (have e4' := Or.resolve_right e3' (by omega); clear e3') | skip); (try k_sweep)))
local macro_rules | `(tactic| walk_at "call builtin:abs") => `(tactic| (k_here; (with_reducible refine Mine.abs_g ?_); intro v' u' tk' e1' e2' e3'))
local macro_rules | `(tactic| walk_at "binaryOp LShift int int") => `(tactic| (k_here; (with_reducible refine Mine.lshift_g ?kbn ?kbs ?_); (case kbn => omega); (case kbs => omega); intro v' u' tk' e1' e2' e3'; (first | replace e2' := e2' (by omega) | clear e2')))
local macro_rules | `(tactic| walk_at "storeName") => `(tactic| (k_here; (with_reducible first | show wpAny _ _ (storeName _ _ (Value.int (HAdd.hAdd _ _) _)) _ _ _ | show wpAny _ _ (storeName _ _ (Value.int (HSub.hSub _ _) _)) _ _ _ | show wpAny _ _ (storeName _ _ (Value.int (HMul.hMul _ _) _)) _ _ _ | show wpAny _ _ (storeName _ _ (Value.int (Neg.neg _) _)) _ _ _ | show wpAny _ _ (storeName _ _ (Value.int (Int.fdiv _ _) _)) _ _ _ | show wpAny _ _ (storeName _ _ (Value.int (Int.fmod _ _) _)) _ _ _ | show wpAny _ _ (storeName _ _ (Value.int (ite _ _ _) _)) _ _ _); (refine Mine.store_g (fun v' e1' => ?_)); k_dflt (refine' storeX_L ?F ?N ?_ ?a ?b; (case F => k_asm); (case N => k_asm); (case a => rfl); (case b => rfl); k_whole; intro h' F' N'; (try k_sweep))))
local macro_rules | `(tactic| walk_at "call ref") => `(tactic| (k_here; (with_reducible show wpAny _ _ (call (Value.ref 116) _) _ _ _); k_dflt (refine' call_cls ?k1 ?k2 ?k3 ?k4 ?k5 ?k6 ?_; (case k1 => k_asm); (case k2 => k_asm); (case k3 => k_asm); (case k4 => k_is); (case k5 => k_is); (case k6 => k_is); k_whole; intro x' d' h' F' N' l1 l2; (try k_lt l1); (try k_lt2 l2); (try k_sweep); (refine' code_def ?k1 ?k2 ?k3 ?k4 ?k5 ?kA ?kF ?kK ?k6 ?k7 ?k8 ?k9 ?kB ?_ ?c2 ?c3 ?c4 ?c5; (case kA => exact rfl); (case kF => exact rfl); (case kK => first | exact rfl | assumption); (case k1 => k_asm); (case k2 => k_asm); (case k3 => k_asm); (case k4 => k_asm); (case k5 => k_asm); (case k6 => k_is); (case k7 => k_is); (case k8 => ktr_room); (case k9 => first | exact BindsTo.of_eq rfl | exact binds_K (by k_in) rfl (by k_is) rfl rfl rfl); (case c5 => decide); (case kB => exact locs rfl); (case c2 => exact rfl); (case c3 => exact rfl); (case c4 => exact rfl); k_whole; intro g' L' h' FG' F' N' B' X' T'; (try dsimp only); (try k_lift B'); (try k_fold)))))
local macro_rules | `(tactic| walk_at "binaryOp FloorDiv int int") => `(tactic| (k_here; (with_reducible refine floordiv_int ?kbn ?_ (Or.inl (Mine.noPy ?kbp))); (case kbn => omega); (case kbp => first | omega | (refine' Nat.le_trans ?ba ?bb; (case ba => bits_by_make); (case bb => omega)))))
local macro_rules | `(tactic| walk_at "binaryOp Mod int int") => `(tactic| (k_here; (with_reducible refine mod_int' ?kbn ?_); (case kbn => omega)))
local macro_rules | `(tactic| walk_at "binaryOp Mult int int") => `(tactic| (k_here; (with_reducible refine P.mul_int ?_ ?kbn); (case kbn => first | exact PySem.IntMulOk.of_left (PySem.intBits_le_64 (by omega) (by omega)) | exact PySem.IntMulOk.of_right (PySem.intBits_le_64 (by omega) (by omega)) | exact Mine.mulOk (by omega))))
local macro_rules | `(tactic| walk_at "call type:int") => `(tactic| (k_here; (with_reducible show wpAny _ _ (call (Value.type "int") [Value.ref _]) _ _ _); k_dflt (refine' Mine.int_inst ?k1 ?k2 ?k3 ?k4 ?_; (case k1 => k_in); (case k2 => k_inst); (case k3 => k_is); (case k4 => k_is); k_whole)))
local macro_rules | `(tactic| k_mem) => `(tactic| assumption)
local macro_rules | `(tactic| walk_at "formatField int") => `(tactic| (k_here; (with_reducible refine Mine.fmt_g ?kbn ?_); (case kbn => first | omega | exact Mine.absBd (by assumption) (by omega)); intro v' u' tk' e1' e2'))
local macro_rules | `(tactic| walk_at "call ref") => `(tactic| (k_here; (with_reducible show wpAny _ _ (call (Value.ref 28) [Value.int _ _, Value.int _ _]) _ _ _); k_dflt (refine' Mine.cx_use (Mine.rounded_T _ _ _ _ _ _ _ _ _ ?h0 ?hd) ?k1 ?k2 ?k3 ?k4 ?k5 ?kK ?kd ?ku ?_; (case k1 => first | k_asm | fail "cx: below"); (case k2 => first | k_asm | fail "cx: frame"); (case k3 => first | k_asm | fail "cx: part"); (case k4 => first | k_asm | fail "cx: news"); (case k5 => first | k_asm | fail "cx: top"); (case kK => first | exact rfl | assumption | fail "cx: kind"); (case kd => first | ktr_room | fail "cx: room"); (case ku => first | ktr_units | fail "cx: units"); (case h0 => first | assumption | omega); (case hd => first | assumption | omega)); k_dflt (intro v' t' h' tk' e1' F' N'; obtain ⟨e1', e2'⟩ := e1'; (try k_sweep); (try dsimp only); (try k_fold))))
local macro_rules | `(tactic| walk_at "call ref") => `(tactic| (k_here; (with_reducible show wpAny _ _ (call (Value.ref 35) [Value.int _ _, Value.int _ _]) _ _ _); k_dflt (refine' Mine.cx_use (Mine.nearest_T _ _ _ _ _ _ _ _ _ ?h0 ?hn0 ?hn ?hd) ?k1 ?k2 ?k3 ?k4 ?k5 ?kK ?kd ?ku ?_; (case k1 => first | k_asm | fail "cx: below"); (case k2 => first | k_asm | fail "cx: frame"); (case k3 => first | k_asm | fail "cx: part"); (case k4 => first | k_asm | fail "cx: news"); (case k5 => first | k_asm | fail "cx: top"); (case kK => first | exact rfl | assumption | fail "cx: kind"); (case kd => first | ktr_room | fail "cx: room"); (case ku => first | ktr_units | fail "cx: units"); (case h0 => first | assumption | omega); (case hn0 => first | assumption | omega); (case hn => first | assumption | omega); (case hd => first | assumption | omega)); k_dflt (intro a' b' t' u' D' c' h' tk' e1' F' N' l1'; (try simp only [AllLt, and_true] at l1'); (try k_sweep); (try dsimp only); (try k_fold))))
local macro_rules | `(tactic| walk_at "call ref") => `(tactic| (k_here; (with_reducible show wpAny _ _ (call (Value.ref 71) [Value.ref _]) _ _ _); k_dflt (refine' Mine.cx_use (Mine.dint_T _ _ _ _ _ _ _ _ _ _ _ _ _ ?hx ?hdx ?h0 ?hb) ?k1 ?k2 ?k3 ?k4 ?k5 ?kK ?kd ?ku ?_; (case k1 => first | k_asm | fail "cx: below"); (case k2 => first | k_asm | fail "cx: frame"); (case k3 => first | k_asm | fail "cx: part"); (case k4 => first | k_asm | fail "cx: news"); (case k5 => first | k_asm | fail "cx: top"); (case kK => first | exact rfl | assumption | fail "cx: kind"); (case kd => first | ktr_room | fail "cx: room"); (case ku => first | ktr_units | fail "cx: units"); (case hx => first | assumption | k_mem); (case hdx => first | assumption | k_mem); (case h0 => omega); (case hb => omega)); k_dflt (intro v' t' h' tk' e1' F' N'; (try k_sweep); (try dsimp only [Mine.IntBack]); (try k_fold))))
local macro_rules | `(tactic| walk_at "call ref") => `(tactic| (k_here; (with_reducible show wpAny _ _ (call (Value.ref 42) [Value.ref _]) _ _ _); k_dflt (refine' Mine.cx_use (Mine.parts_T _ _ _ _ _ _ _ _ _ _ _ _ _ ?hx ?hdx) ?k1 ?k2 ?k3 ?k4 ?k5 ?kK ?kd ?ku ?_; (case k1 => first | k_asm | fail "cx: below"); (case k2 => first | k_asm | fail "cx: frame"); (case k3 => first | k_asm | fail "cx: part"); (case k4 => first | k_asm | fail "cx: news"); (case k5 => first | k_asm | fail "cx: top"); (case kK => first | exact rfl | assumption | fail "cx: kind"); (case kd => first | ktr_room | fail "cx: room"); (case ku => first | ktr_units | fail "cx: units"); (case hx => first | assumption | k_mem); (case hdx => first | assumption | k_mem)); k_dflt (intro a' b' t' u' D' c' h' tk' e1' F' N' l1'; obtain ⟨e1', e2'⟩ := e1'; subst e1'; subst e2'; (try simp only [AllLt, and_true] at l1'); (try k_sweep); (try dsimp only); (try k_fold))))
local macro_rules | `(tactic| walk_at "call ref") => `(tactic| (k_here; (with_reducible show wpAny _ _ (call (Value.ref 116) [Value.int _ _, Value.int _ _]) _ _ _); k_dflt (refine' Mine.cx_use (Mine.Double_T _ _ _ _ _ _ _ _ _ ?h0 ?hn ?hd) ?k1 ?k2 ?k3 ?k4 ?k5 ?kK ?kd ?ku ?_; (case k1 => first | k_asm | fail "cx: below"); (case k2 => first | k_asm | fail "cx: frame"); (case k3 => first | k_asm | fail "cx: part"); (case k4 => first | k_asm | fail "cx: news"); (case k5 => first | k_asm | fail "cx: top"); (case kK => first | exact rfl | assumption | fail "cx: kind"); (case kd => first | ktr_room | fail "cx: room"); (case ku => first | ktr_units | fail "cx: units"); (case h0 => first | omega | exact Int.mul_pos (by assumption) (by assumption)); (case hn => first | assumption | omega | (refine' Nat.le_trans ?ba ?bb; (case ba => bits_by_make); (case bb => omega))); (case hd => first | assumption | omega | (refine' Nat.le_trans ?ba ?bb; (case ba => bits_by_make); (case bb => omega)))); k_dflt (intro a' b' t' u' k1' k2' x' d' h' tk' e1' F' N' l1' l2'; obtain ⟨e1', e2', e3', e4'⟩ := e1'; (try simp only [AllLt, and_true] at l1'); (try k_lt2 l2'); (try k_sweep); (try dsimp only); (try k_fold))))
local macro_rules | `(tactic| walk_at "call ref") => `(tactic| (k_here; (with_reducible show wpAny _ _ (call (Value.ref 116) [Value.int _ _]) _ _ _); k_dflt (refine' Mine.cx_use (Mine.Double1_T _ _ _ _ _ _ _ ?hn) ?k1 ?k2 ?k3 ?k4 ?k5 ?kK ?kd ?ku ?_; (case k1 => first | k_asm | fail "cx: below"); (case k2 => first | k_asm | fail "cx: frame"); (case k3 => first | k_asm | fail "cx: part"); (case k4 => first | k_asm | fail "cx: news"); (case k5 => first | k_asm | fail "cx: top"); (case kK => first | exact rfl | assumption | fail "cx: kind"); (case kd => first | ktr_room | fail "cx: room"); (case ku => first | ktr_units | fail "cx: units"); (case hn => first | assumption | omega)); k_dflt (intro a' b' t' u' k1' k2' x' d' h' tk' e1' F' N' l1' l2'; obtain ⟨e1', e2', e3', e4'⟩ := e1'; (try simp only [AllLt, and_true] at l1'); (try k_lt2 l2'); (try k_sweep); (try dsimp only); (try k_fold))))
local macro_rules | `(tactic| walk_at "call ref") => `(tactic| (k_here; (with_reducible show wpAny _ _ (call (Value.ref 134) [Value.ref _]) _ _ _); k_dflt (refine' Mine.cx_use (Mine.isfin_T _ _ _ _ _ _ _ _ _ _ _ _ _ ?hx ?hdx ?h0) ?k1 ?k2 ?k3 ?k4 ?k5 ?kK ?kd ?ku ?_; (case k1 => first | k_asm | fail "cx: below"); (case k2 => first | k_asm | fail "cx: frame"); (case k3 => first | k_asm | fail "cx: part"); (case k4 => first | k_asm | fail "cx: news"); (case k5 => first | k_asm | fail "cx: top"); (case kK => first | exact rfl | assumption | fail "cx: kind"); (case kd => first | ktr_room | fail "cx: room"); (case ku => first | ktr_units | fail "cx: units"); (case hx => first | assumption | k_mem); (case hdx => first | assumption | k_mem); (case h0 => omega)); k_dflt (intro h' tk' F' N'; (try k_sweep); (try dsimp only); (try k_fold))))
local macro_rules | `(tactic| walk_at "call ref") => `(tactic| (k_here; (with_reducible show wpAny _ _ (call (Value.ref 127) [Value.int _ _]) _ _ _); k_dflt (refine' Mine.cx_use (Mine.dblI_T _ _ _ _ _ _ _ ?hn) ?k1 ?k2 ?k3 ?k4 ?k5 ?kK ?kd ?ku ?_; (case k1 => first | k_asm | fail "cx: below"); (case k2 => first | k_asm | fail "cx: frame"); (case k3 => first | k_asm | fail "cx: part"); (case k4 => first | k_asm | fail "cx: news"); (case k5 => first | k_asm | fail "cx: top"); (case kK => first | exact rfl | assumption | fail "cx: kind"); (case kd => first | ktr_room | fail "cx: room"); (case ku => first | ktr_units | fail "cx: units"); (case hn => first | assumption | omega)); k_dflt (intro a' b' t' u' k1' k2' x' d' h' tk' e1' F' N' l1' l2'; obtain ⟨e1', e2', e3', e4'⟩ := e1'; (try simp only [AllLt, and_true] at l1'); (try k_lt2 l2'); (try k_sweep); (try dsimp only); (try k_fold))))
local macro_rules | `(tactic| walk_at "call ref") => `(tactic| (k_here; (with_reducible show wpAny _ _ (call (Value.ref 106) [Value.ref _, Value.int _ _]) _ _ _); k_dflt (refine' Mine.cx_use (Mine.sub_T _ _ _ _ _ _ _ _ _ _ _ _ _ _ _ ?hx ?hdx ?h0 ?ha ?hb ?hn) ?k1 ?k2 ?k3 ?k4 ?k5 ?kK ?kd ?ku ?_; (case k1 => first | k_asm | fail "cx: below"); (case k2 => first | k_asm | fail "cx: frame"); (case k3 => first | k_asm | fail "cx: part"); (case k4 => first | k_asm | fail "cx: news"); (case k5 => first | k_asm | fail "cx: top"); (case kK => first | exact rfl | assumption | fail "cx: kind"); (case kd => first | ktr_room | fail "cx: room"); (case ku => first | ktr_units | fail "cx: units"); (case hx => first | assumption | k_mem); (case hdx => first | assumption | k_mem); (case h0 => omega); (case ha => first | assumption | omega); (case hb => first | assumption | omega); (case hn => first | assumption | omega | ((rename (_ = Mine.trn _ _) => e9'); rw [e9']; omega))); k_dflt (intro a' b' t' u' k1' k2' x' d' h' tk' e1' F' N' l1' l2'; (try (replace e1' := Mine.frac_part (by assumption) (by assumption) e1'; (have e2' := e1'); obtain ⟨e3', e4', e5', e6'⟩ := e2')); (try simp only [AllLt, and_true] at l1'); (try k_lt2 l2'); (try k_sweep); (try dsimp only); (try dsimp only [PySem.W.CmpBack]); (try (refine ⟨rfl, ?_⟩)); (try (refine handed_on rfl ?_)); (try dsimp only); (try k_fold))))
local macro_rules | `(tactic| walk_at "call ref") => `(tactic| (k_here; (with_reducible show wpAny _ _ (call (Value.ref 167) [Value.ref _, Value.int 1000 _]) _ _ _); k_dflt (refine' Mine.cx_use (Mine.nf_T _ _ _ _ _ _ _ _ _ _ _ _ _ _ _ ?hx ?hdx (show Mine.AbsOf _ _ from rfl) ?hn0 ?hnb ?h0 ?hb) ?k1 ?k2 ?k3 ?k4 ?k5 ?kK ?kd ?ku ?_; (case k1 => first | k_asm | fail "cx: below"); (case k2 => first | k_asm | fail "cx: frame"); (case k3 => first | k_asm | fail "cx: part"); (case k4 => first | k_asm | fail "cx: news"); (case k5 => first | k_asm | fail "cx: top"); (case kK => first | exact rfl | assumption | fail "cx: kind"); (case kd => first | ktr_room | fail "cx: room"); (case ku => first | ktr_units | fail "cx: units"); (case hx => first | assumption | k_mem); (case hdx => first | assumption | k_mem); (case hn0 => omega); (case hnb => omega); (case h0 => omega); (case hb => omega)); k_dflt (intro a' b' t' u' D' c' h' tk' e1' F' N' l1'; (obtain ⟨p', e1', e2'⟩ := e1'); (have e3' := Mine.nfres_bd e1' e2'); (obtain ⟨e3', e4', e5', e6', e7'⟩ := e3'); (try simp only [AllLt, and_true] at l1'); (try k_sweep); (try dsimp only); (try k_fold))))
local macro_rules | `(tactic| walk_at "call ref") => `(tactic| (k_here; (with_reducible show wpAny _ _ (call (Value.ref 153) [Value.str _ _]) _ _ _); k_dflt (refine' Mine.cx_use (Mine.plain_T _ _ _ _ _ _ _ ?hx ?h0 ?hd) ?k1 ?k2 ?k3 ?k4 ?k5 ?kK ?kd ?ku ?_; (case k1 => first | k_asm | fail "cx: below"); (case k2 => first | k_asm | fail "cx: frame"); (case k3 => first | k_asm | fail "cx: part"); (case k4 => first | k_asm | fail "cx: news"); (case k5 => first | k_asm | fail "cx: top"); (case kK => first | exact rfl | assumption | fail "cx: kind"); (case kd => first | ktr_room | fail "cx: room"); (case ku => first | ktr_units | fail "cx: units"); (case hx => first | assumption | omega); (case h0 => assumption); (case hd => assumption)); k_dflt (intro h' tk' F' N'; (try k_sweep); (try dsimp only); (try k_fold))))
namespace Mine
/-- v is a shifted by n (hidden) -/
def ShlOf (v a n : Int) : Prop := v = a * 2 ^ n.toNat
theorem shl_h {prog : Program} {w : World} {A : Around} {E : Value → Shared → Prop} {s : Shared} {a n : Int} {t u : Tok} {Q : Value → Shared → Prop} (hn : 0 ≤ n) (hsz : (intBits a : Int) + n ≤ 2 ^ 27)
    (h : ∀ (v : Int) u tk, ShlOf v a n → (0 < a → 0 < v) → (intBits v : Int) ≤ intBits a + n → Q (.int v u) { s with toks := tk }) : wpAny (model prog w) A (binaryOp .LShift (.int a t) (.int n u)) Q E s := lshift_g hn hsz h
theorem pl_bits {n d x pl : Int} (e : pl = x.fdiv d) (hx : ShlOf x n 200) (h0 : 0 < d) (hn : 0 < n) (bn : intBits n ≤ 60) (bd : intBits d ≤ 31) : 0 < pl ∧ 100 ≤ intBits pl ∧ intBits pl ≤ 260 := by
  have h2 : d < 2 ^ 31 := by have := intBits_le_iff.mp bd; omega
  have e1 : (2 : Int) ^ Int.toNat 200 = 2 ^ 200 := rfl
  unfold ShlOf at hx
  rw [e1] at hx
  have hbig : (2 : Int) ^ 168 ≤ pl := by
    have f := fdiv_fmod_facts x d
    have f2 := f.2.2.1 h0
    rw [← e] at f
    rcases Int.lt_or_le pl (2 ^ 168) with z | z
    · have : pl * d ≤ (2 ^ 168 - 1) * d := Int.mul_le_mul_of_nonneg_right (by omega) (by omega)
      rw [Int.sub_mul] at this
      omega
    · exact z
  have hl : ¬ intBits pl ≤ 99 := fun h => by
    have := intBits_le_iff.mp h
    omega
  have hu : intBits pl ≤ intBits x := by rw [e]; exact intBits_fdiv_le (Nat.le_refl _)
  have hx' : intBits x ≤ intBits n + 200 := by rw [hx]; exact bits_shl n 200
  omega
theorem lnear_e {n d a b H k pl x m hd tl rest : Int} (ea : ShlOf a H k) (eb : ShlOf b 1 200) (ek : k = intBits pl - 53) (epl : pl = x.fdiv d) (ex : ShlOf x n 200) (eh : hd = pl.fdiv m) (et : tl = pl.fmod m) (em : ShlOf m 1 k) (er : rest = x.fmod d) (hk : 100 ≤ intBits pl)
    (c : ((m < 2 * tl ∨ (2 * tl = m ∧ (0 < rest ∨ hd.fmod 2 = 1))) ∧ H = hd + 1) ∨ (¬ (m < 2 * tl ∨ (2 * tl = m ∧ (0 < rest ∨ hd.fmod 2 = 1))) ∧ H = hd)) : LNear n d a b := by
  have ex' : x = n * 2 ^ 200 := ex
  have em' : m = 2 ^ k.toNat := by rw [show m = 1 * 2 ^ k.toNat from em]; exact Int.one_mul _
  have eb' : b = 2 ^ 200 := by rw [show b = 1 * 2 ^ Int.toNat 200 from eb]; exact Int.one_mul _
  subst ex' em' eh et er
  exact ⟨pl, H, k, epl, ek, by omega, eb', ea, c⟩
theorem shl_u {m m' k : Int} (h : ShlOf m 1 k) (h' : ShlOf m' 1 k) : m' = m := Eq.trans h' (Eq.symm h)
theorem c_lt {m m' k tl : Int} (c : m' < 2 * tl) (h : ShlOf m 1 k) (h' : ShlOf m' 1 k) : m < 2 * tl := shl_u h h' ▸ c
theorem c_eq {m m' k tl : Int} (c : 2 * tl = m') (h : ShlOf m 1 k) (h' : ShlOf m' 1 k) : 2 * tl = m := shl_u h h' ▸ c
theorem c_nlt {m m' k tl : Int} (c : ¬ m' < 2 * tl) (h : ShlOf m 1 k) (h' : ShlOf m' 1 k) : ¬ m < 2 * tl := shl_u h h' ▸ c
theorem c_neq {m m' k tl : Int} (c : ¬ 2 * tl = m') (h : ShlOf m 1 k) (h' : ShlOf m' 1 k) : ¬ 2 * tl = m := shl_u h h' ▸ c
theorem bits_fd {x y d : Int} (e : y = x.fdiv d) : intBits y ≤ intBits x := by rw [e]; exact intBits_fdiv_le (Nat.le_refl _)
theorem bits_succ {x y : Int} (e : y = x + 1) : intBits y ≤ intBits x + 2 := by
  have b1 : intBits (1 : Int) = 1 := by decide
  have := intBits_add_le (Nat.le_refl (intBits x)) (Nat.le_of_eq b1)
  rw [e]
  omega
end Mine
local macro_rules | `(tactic| walk_at "exec If") => `(tactic| (k_here; refine wpAny_If ?_))
local macro_rules | `(tactic| walk_at "ite") => `(tactic| (first | with_reducible refine ite_tt ?_ | with_reducible refine ite_ff ?_ | with_reducible refine ite_True_then ?_ | with_reducible refine ite_False_else ?_ | (with_reducible refine split_ine ?_ ?_ <;> intro _) | (with_reducible refine split_ieq ?_ ?_ <;> intro _) | with_reducible refine split_not ?_ | (with_reducible refine split_dec ?_ ?_ <;> intro _) | (with_reducible refine split_bool ?_ ?_ <;> intro _)))
local macro_rules | `(tactic| walk_at "execs nil") => `(tactic| (k_here; (with_reducible refine wpAny_execs_nil ?_)))
local macro_rules | `(tactic| walk_at "execs cons") => `(tactic| (k_here; (with_reducible refine wpAny_execs_cons ?_)))
local macro_rules | `(tactic| walk_at "binaryOp LShift int int") => `(tactic| (k_here; (with_reducible refine Mine.shl_h ?kbn ?kbs ?_); (case kbn => omega); (case kbs => omega); intro v' u' tk' e1' e2' e3'; (first | replace e2' := e2' (by omega) | clear e2')))
local macro_rules | `(tactic| walk_at "storeName") => `(tactic| (k_here; (with_reducible show wpAny _ _ (storeName _ _ (Value.int (Int.fdiv _ _) _)) _ _ _); (refine Mine.store_g (fun v' e1' => ?_)); k_dflt (refine' storeX_L ?F ?N ?_ ?a ?b; (case F => k_asm); (case N => k_asm); (case a => rfl); (case b => rfl); k_whole; intro h' F' N'; (try k_sweep)); k_dflt (first | (have e2' := Mine.pl_bits e1' (by with_reducible assumption) (by with_reducible assumption) (by with_reducible assumption) (by with_reducible assumption) (by with_reducible assumption); obtain ⟨e2', e3', e4'⟩ := e2') | (have e2' := Mine.bits_fd e1'))))
local macro_rules | `(tactic| walk_at "storeName") => `(tactic| (k_here; (with_reducible show wpAny _ _ (storeName _ _ (Value.int (HAdd.hAdd _ _) _)) _ _ _); (refine Mine.store_g (fun v' e1' => ?_)); k_dflt (refine' storeX_L ?F ?N ?_ ?a ?b; (case F => k_asm); (case N => k_asm); (case a => rfl); (case b => rfl); k_whole; intro h' F' N'; (try k_sweep)); k_dflt ((have e2' := Mine.bits_succ e1'))))
namespace Mine
theorem lnear_T (w : World) (mean mg mb) (news) (n d : Int) (t u : Tok) (h0 : 0 < d) (hn : 0 < n) (bn : intBits n ≤ 60) (bd : intBits d ≤ 31) :
    Cx w mean mg mb 188 news 2 [.int n t, .int d u] (RetII news fun a b => LNear n d a b) := by
  have b1 : intBits 1 = 1 := by decide
  dsimp only [Cx, PG, RetII]
  k_fill
  intros; rename_i hret
  refine wpAny_call ?_
  k_dflt cell_enter
  k_steps
  all_goals (refine' hret _ _ _ _ _ _ _ _ ?_ ?e2 ?e3 ?e4; (case e2 => k_asm); (case e3 => (refine' cb_drop ?cbN ?cbS; (case cbN => assumption); (case cbS => repeat' (first | with_reducible exact sub_refl | with_reducible refine sub_cons ?_ | refine sub_skip ?_)))); (case e4 => first | with_reducible assumption | exact And.right (And.right (by with_reducible assumption))); refine' lnear_e (by with_reducible assumption) (by with_reducible assumption) (by with_reducible assumption) (by with_reducible assumption) (by with_reducible assumption) (by with_reducible assumption) (by with_reducible assumption) (by with_reducible assumption) (by with_reducible assumption) (by with_reducible assumption) ?_)
  · exact .inl ⟨.inl (c_lt (by with_reducible assumption) (by with_reducible assumption) (by with_reducible assumption)), (by with_reducible assumption)⟩
  · exact .inl ⟨.inr ⟨c_eq (by with_reducible assumption) (by with_reducible assumption) (by with_reducible assumption), .inl (by with_reducible assumption)⟩, (by with_reducible assumption)⟩
  · exact .inl ⟨.inr ⟨c_eq (by with_reducible assumption) (by with_reducible assumption) (by with_reducible assumption), .inr (by with_reducible assumption)⟩, (by with_reducible assumption)⟩
  · refine .inr ⟨fun h => ?_, rfl⟩
    rcases h with h | ⟨_, h | h⟩
    · exact absurd h (c_nlt (by with_reducible assumption) (by with_reducible assumption) (by with_reducible assumption))
    · exact absurd h (by with_reducible assumption)
    · exact absurd h (by with_reducible assumption)
  · refine .inr ⟨fun h => ?_, rfl⟩
    rcases h with h | ⟨h, _⟩
    · exact absurd h (c_nlt (by with_reducible assumption) (by with_reducible assumption) (by with_reducible assumption))
    · exact absurd h (c_neq (by with_reducible assumption) (by with_reducible assumption) (by with_reducible assumption))
end Mine
end
section
local macro_rules | `(tactic| ktr_units) => `(tactic| ((simp only [Mine.units_make, units_in1, units_deeper, Around.mark_units, ktrTop]); (have hcL9 := cLine_is); omega))
local macro_rules | `(tactic| ktr_room) => `(tactic| ((simp only [depth_mark, depth_under_make, depth_under_kw, depth_in1, depth_deeper, ktrTop]); omega))
local macro_rules | `(tactic| bits_by_make) => `(tactic| with_reducible assumption)
local macro_rules | `(tactic| walk_at "call builtin:divmod") => `(tactic| (k_here; (with_reducible show wpAny _ _ (call (Value.builtin _) [Value.int _ _, Value.int _ _]) _ _ _); refine' divmod_N ?F ?N ?b ?_ (Or.inl (Mine.noPy ?hp)); (case F => k_asm); (case N => k_asm); (case b => omega); (case hp => omega); k_whole; intro h' F' N'; (try k_sweep)))
local macro_rules | `(tactic| walk_at "call builtin:max") => `(tactic| (k_here; (with_reducible show wpAny _ _ (call (Value.builtin _) [Value.int _ _, Value.int _ _]) _ _ _); k_dflt (refine' Mine.max_g ?hh ?F ?N ?_; (case hh => exact rfl); (case F => k_asm); (case N => k_asm); k_whole); intro v' r' h' tk' e1' e2' e3' F' N'; (first | (have e4' := Or.resolve_left e3' (by omega); clear e3') | (have e4' := Or.resolve_right e3' (by omega); clear e3') | skip); (try k_sweep)))
local macro_rules | `(tactic| walk_at "call builtin:min") => `(tactic| (k_here; (with_reducible show wpAny _ _ (call (Value.builtin _) [Value.int _ _, Value.int _ _]) _ _ _); k_dflt (refine' Mine.min_g ?hh ?F ?N ?_; (case hh => exact rfl); (case F => k_asm); (case N => k_asm); k_whole); intro v' r' h' tk' e1' e2' e3' F' N'; (first | (have e4' := Or.resolve_left e3' (by omega); clear e3') | (have e4' := Or.resolve_right e3' (by omega); clear e3') | skip); (try k_sweep)))
local macro_rules | `(tactic| walk_at "call builtin:abs") => `(tactic| (k_here; (with_reducible refine Mine.abs_g ?_); intro v' u' tk' e1' e2' e3'))
local macro_rules | `(tactic| walk_at "binaryOp LShift int int") => `(tactic| (k_here; (with_reducible refine Mine.lshift_g ?kbn ?kbs ?_); (case kbn => omega); (case kbs => omega); intro v' u' tk' e1' e2' e3'; (first | replace e2' := e2' (by omega) | clear e2')))
local macro_rules | `(tactic| walk_at "storeName") => `(tactic| (k_here; (with_reducible first | show wpAny _ _ (storeName _ _ (Value.int (HAdd.hAdd _ _) _)) _ _ _ | show wpAny _ _ (storeName _ _ (Value.int (HSub.hSub _ _) _)) _ _ _ | show wpAny _ _ (storeName _ _ (Value.int (HMul.hMul _ _) _)) _ _ _ | show wpAny _ _ (storeName _ _ (Value.int (Neg.neg _) _)) _ _ _ | show wpAny _ _ (storeName _ _ (Value.int (Int.fdiv _ _) _)) _ _ _ | show wpAny _ _ (storeName _ _ (Value.int (Int.fmod _ _) _)) _ _ _ | show wpAny _ _ (storeName _ _ (Value.int (ite _ _ _) _)) _ _ _); (refine Mine.store_g (fun v' e1' => ?_)); k_dflt (refine' storeX_L ?F ?N ?_ ?a ?b; (case F => k_asm); (case N => k_asm); (case a => rfl); (case b => rfl); k_whole; intro h' F' N'; (try k_sweep))))
local macro_rules | `(tactic| walk_at "call ref") => `(tactic| (k_here; (with_reducible show wpAny _ _ (call (Value.ref 116) _) _ _ _); k_dflt (refine' call_cls ?k1 ?k2 ?k3 ?k4 ?k5 ?k6 ?_; (case k1 => k_asm); (case k2 => k_asm); (case k3 => k_asm); (case k4 => k_is); (case k5 => k_is); (case k6 => k_is); k_whole; intro x' d' h' F' N' l1 l2; (try k_lt l1); (try k_lt2 l2); (try k_sweep); (refine' code_def ?k1 ?k2 ?k3 ?k4 ?k5 ?kA ?kF ?kK ?k6 ?k7 ?k8 ?k9 ?kB ?_ ?c2 ?c3 ?c4 ?c5; (case kA => exact rfl); (case kF => exact rfl); (case kK => first | exact rfl | assumption); (case k1 => k_asm); (case k2 => k_asm); (case k3 => k_asm); (case k4 => k_asm); (case k5 => k_asm); (case k6 => k_is); (case k7 => k_is); (case k8 => ktr_room); (case k9 => first | exact BindsTo.of_eq rfl | exact binds_K (by k_in) rfl (by k_is) rfl rfl rfl); (case c5 => decide); (case kB => exact locs rfl); (case c2 => exact rfl); (case c3 => exact rfl); (case c4 => exact rfl); k_whole; intro g' L' h' FG' F' N' B' X' T'; (try dsimp only); (try k_lift B'); (try k_fold)))))
local macro_rules | `(tactic| walk_at "binaryOp FloorDiv int int") => `(tactic| (k_here; (with_reducible refine floordiv_int ?kbn ?_ (Or.inl (Mine.noPy ?kbp))); (case kbn => omega); (case kbp => first | omega | (refine' Nat.le_trans ?ba ?bb; (case ba => bits_by_make); (case bb => omega)))))
local macro_rules | `(tactic| walk_at "binaryOp Mod int int") => `(tactic| (k_here; (with_reducible refine mod_int' ?kbn ?_); (case kbn => omega)))
local macro_rules | `(tactic| walk_at "binaryOp Mult int int") => `(tactic| (k_here; (with_reducible refine P.mul_int ?_ ?kbn); (case kbn => first | exact PySem.IntMulOk.of_left (PySem.intBits_le_64 (by omega) (by omega)) | exact PySem.IntMulOk.of_right (PySem.intBits_le_64 (by omega) (by omega)) | exact Mine.mulOk (by omega))))
local macro_rules | `(tactic| walk_at "call type:int") => `(tactic| (k_here; (with_reducible show wpAny _ _ (call (Value.type "int") [Value.ref _]) _ _ _); k_dflt (refine' Mine.int_inst ?k1 ?k2 ?k3 ?k4 ?_; (case k1 => k_in); (case k2 => k_inst); (case k3 => k_is); (case k4 => k_is); k_whole)))
local macro_rules | `(tactic| k_mem) => `(tactic| assumption)
local macro_rules | `(tactic| walk_at "formatField int") => `(tactic| (k_here; (with_reducible refine Mine.fmt_g ?kbn ?_); (case kbn => first | omega | exact Mine.absBd (by assumption) (by omega)); intro v' u' tk' e1' e2'))
local macro_rules | `(tactic| walk_at "call ref") => `(tactic| (k_here; (with_reducible show wpAny _ _ (call (Value.ref 28) [Value.int _ _, Value.int _ _]) _ _ _); k_dflt (refine' Mine.cx_use (Mine.rounded_T _ _ _ _ _ _ _ _ _ ?h0 ?hd) ?k1 ?k2 ?k3 ?k4 ?k5 ?kK ?kd ?ku ?_; (case k1 => first | k_asm | fail "cx: below"); (case k2 => first | k_asm | fail "cx: frame"); (case k3 => first | k_asm | fail "cx: part"); (case k4 => first | k_asm | fail "cx: news"); (case k5 => first | k_asm | fail "cx: top"); (case kK => first | exact rfl | assumption | fail "cx: kind"); (case kd => first | ktr_room | fail "cx: room"); (case ku => first | ktr_units | fail "cx: units"); (case h0 => first | assumption | omega); (case hd => first | assumption | omega)); k_dflt (intro v' t' h' tk' e1' F' N'; obtain ⟨e1', e2'⟩ := e1'; (try k_sweep); (try dsimp only); (try k_fold))))
local macro_rules | `(tactic| walk_at "call ref") => `(tactic| (k_here; (with_reducible show wpAny _ _ (call (Value.ref 35) [Value.int _ _, Value.int _ _]) _ _ _); k_dflt (refine' Mine.cx_use (Mine.nearest_T _ _ _ _ _ _ _ _ _ ?h0 ?hn0 ?hn ?hd) ?k1 ?k2 ?k3 ?k4 ?k5 ?kK ?kd ?ku ?_; (case k1 => first | k_asm | fail "cx: below"); (case k2 => first | k_asm | fail "cx: frame"); (case k3 => first | k_asm | fail "cx: part"); (case k4 => first | k_asm | fail "cx: news"); (case k5 => first | k_asm | fail "cx: top"); (case kK => first | exact rfl | assumption | fail "cx: kind"); (case kd => first | ktr_room | fail "cx: room"); (case ku => first | ktr_units | fail "cx: units"); (case h0 => first | assumption | omega); (case hn0 => first | assumption | omega); (case hn => first | assumption | omega); (case hd => first | assumption | omega)); k_dflt (intro a' b' t' u' D' c' h' tk' e1' F' N' l1'; (try simp only [AllLt, and_true] at l1'); (try k_sweep); (try dsimp only); (try k_fold))))
local macro_rules | `(tactic| walk_at "call ref") => `(tactic| (k_here; (with_reducible show wpAny _ _ (call (Value.ref 71) [Value.ref _]) _ _ _); k_dflt (refine' Mine.cx_use (Mine.dint_T _ _ _ _ _ _ _ _ _ _ _ _ _ ?hx ?hdx ?h0 ?hb) ?k1 ?k2 ?k3 ?k4 ?k5 ?kK ?kd ?ku ?_; (case k1 => first | k_asm | fail "cx: below"); (case k2 => first | k_asm | fail "cx: frame"); (case k3 => first | k_asm | fail "cx: part"); (case k4 => first | k_asm | fail "cx: news"); (case k5 => first | k_asm | fail "cx: top"); (case kK => first | exact rfl | assumption | fail "cx: kind"); (case kd => first | ktr_room | fail "cx: room"); (case ku => first | ktr_units | fail "cx: units"); (case hx => first | assumption | k_mem); (case hdx => first | assumption | k_mem); (case h0 => omega); (case hb => omega)); k_dflt (intro v' t' h' tk' e1' F' N'; (try k_sweep); (try dsimp only [Mine.IntBack]); (try k_fold))))
local macro_rules | `(tactic| walk_at "call ref") => `(tactic| (k_here; (with_reducible show wpAny _ _ (call (Value.ref 42) [Value.ref _]) _ _ _); k_dflt (refine' Mine.cx_use (Mine.parts_T _ _ _ _ _ _ _ _ _ _ _ _ _ ?hx ?hdx) ?k1 ?k2 ?k3 ?k4 ?k5 ?kK ?kd ?ku ?_; (case k1 => first | k_asm | fail "cx: below"); (case k2 => first | k_asm | fail "cx: frame"); (case k3 => first | k_asm | fail "cx: part"); (case k4 => first | k_asm | fail "cx: news"); (case k5 => first | k_asm | fail "cx: top"); (case kK => first | exact rfl | assumption | fail "cx: kind"); (case kd => first | ktr_room | fail "cx: room"); (case ku => first | ktr_units | fail "cx: units"); (case hx => first | assumption | k_mem); (case hdx => first | assumption | k_mem)); k_dflt (intro a' b' t' u' D' c' h' tk' e1' F' N' l1'; obtain ⟨e1', e2'⟩ := e1'; subst e1'; subst e2'; (try simp only [AllLt, and_true] at l1'); (try k_sweep); (try dsimp only); (try k_fold))))
local macro_rules | `(tactic| walk_at "call ref") => `(tactic| (k_here; (with_reducible show wpAny _ _ (call (Value.ref 116) [Value.int _ _, Value.int _ _]) _ _ _); k_dflt (refine' Mine.cx_use (Mine.Double_T _ _ _ _ _ _ _ _ _ ?h0 ?hn ?hd) ?k1 ?k2 ?k3 ?k4 ?k5 ?kK ?kd ?ku ?_; (case k1 => first | k_asm | fail "cx: below"); (case k2 => first | k_asm | fail "cx: frame"); (case k3 => first | k_asm | fail "cx: part"); (case k4 => first | k_asm | fail "cx: news"); (case k5 => first | k_asm | fail "cx: top"); (case kK => first | exact rfl | assumption | fail "cx: kind"); (case kd => first | ktr_room | fail "cx: room"); (case ku => first | ktr_units | fail "cx: units"); (case h0 => first | omega | exact Int.mul_pos (by assumption) (by assumption)); (case hn => first | assumption | omega | (refine' Nat.le_trans ?ba ?bb; (case ba => bits_by_make); (case bb => omega))); (case hd => first | assumption | omega | (refine' Nat.le_trans ?ba ?bb; (case ba => bits_by_make); (case bb => omega)))); k_dflt (intro a' b' t' u' k1' k2' x' d' h' tk' e1' F' N' l1' l2'; obtain ⟨e1', e2', e3', e4'⟩ := e1'; (try simp only [AllLt, and_true] at l1'); (try k_lt2 l2'); (try k_sweep); (try dsimp only); (try k_fold))))
local macro_rules | `(tactic| walk_at "call ref") => `(tactic| (k_here; (with_reducible show wpAny _ _ (call (Value.ref 116) [Value.int _ _]) _ _ _); k_dflt (refine' Mine.cx_use (Mine.Double1_T _ _ _ _ _ _ _ ?hn) ?k1 ?k2 ?k3 ?k4 ?k5 ?kK ?kd ?ku ?_; (case k1 => first | k_asm | fail "cx: below"); (case k2 => first | k_asm | fail "cx: frame"); (case k3 => first | k_asm | fail "cx: part"); (case k4 => first | k_asm | fail "cx: news"); (case k5 => first | k_asm | fail "cx: top"); (case kK => first | exact rfl | assumption | fail "cx: kind"); (case kd => first | ktr_room | fail "cx: room"); (case ku => first | ktr_units | fail "cx: units"); (case hn => first | assumption | omega)); k_dflt (intro a' b' t' u' k1' k2' x' d' h' tk' e1' F' N' l1' l2'; obtain ⟨e1', e2', e3', e4'⟩ := e1'; (try simp only [AllLt, and_true] at l1'); (try k_lt2 l2'); (try k_sweep); (try dsimp only); (try k_fold))))
local macro_rules | `(tactic| walk_at "call ref") => `(tactic| (k_here; (with_reducible show wpAny _ _ (call (Value.ref 134) [Value.ref _]) _ _ _); k_dflt (refine' Mine.cx_use (Mine.isfin_T _ _ _ _ _ _ _ _ _ _ _ _ _ ?hx ?hdx ?h0) ?k1 ?k2 ?k3 ?k4 ?k5 ?kK ?kd ?ku ?_; (case k1 => first | k_asm | fail "cx: below"); (case k2 => first | k_asm | fail "cx: frame"); (case k3 => first | k_asm | fail "cx: part"); (case k4 => first | k_asm | fail "cx: news"); (case k5 => first | k_asm | fail "cx: top"); (case kK => first | exact rfl | assumption | fail "cx: kind"); (case kd => first | ktr_room | fail "cx: room"); (case ku => first | ktr_units | fail "cx: units"); (case hx => first | assumption | k_mem); (case hdx => first | assumption | k_mem); (case h0 => omega)); k_dflt (intro h' tk' F' N'; (try k_sweep); (try dsimp only); (try k_fold))))
local macro_rules | `(tactic| walk_at "call ref") => `(tactic| (k_here; (with_reducible show wpAny _ _ (call (Value.ref 127) [Value.int _ _]) _ _ _); k_dflt (refine' Mine.cx_use (Mine.dblI_T _ _ _ _ _ _ _ ?hn) ?k1 ?k2 ?k3 ?k4 ?k5 ?kK ?kd ?ku ?_; (case k1 => first | k_asm | fail "cx: below"); (case k2 => first | k_asm | fail "cx: frame"); (case k3 => first | k_asm | fail "cx: part"); (case k4 => first | k_asm | fail "cx: news"); (case k5 => first | k_asm | fail "cx: top"); (case kK => first | exact rfl | assumption | fail "cx: kind"); (case kd => first | ktr_room | fail "cx: room"); (case ku => first | ktr_units | fail "cx: units"); (case hn => first | assumption | omega)); k_dflt (intro a' b' t' u' k1' k2' x' d' h' tk' e1' F' N' l1' l2'; obtain ⟨e1', e2', e3', e4'⟩ := e1'; (try simp only [AllLt, and_true] at l1'); (try k_lt2 l2'); (try k_sweep); (try dsimp only); (try k_fold))))
local macro_rules | `(tactic| walk_at "call ref") => `(tactic| (k_here; (with_reducible show wpAny _ _ (call (Value.ref 106) [Value.ref _, Value.int _ _]) _ _ _); k_dflt (refine' Mine.cx_use (Mine.sub_T _ _ _ _ _ _ _ _ _ _ _ _ _ _ _ ?hx ?hdx ?h0 ?ha ?hb ?hn) ?k1 ?k2 ?k3 ?k4 ?k5 ?kK ?kd ?ku ?_; (case k1 => first | k_asm | fail "cx: below"); (case k2 => first | k_asm | fail "cx: frame"); (case k3 => first | k_asm | fail "cx: part"); (case k4 => first | k_asm | fail "cx: news"); (case k5 => first | k_asm | fail "cx: top"); (case kK => first | exact rfl | assumption | fail "cx: kind"); (case kd => first | ktr_room | fail "cx: room"); (case ku => first | ktr_units | fail "cx: units"); (case hx => first | assumption | k_mem); (case hdx => first | assumption | k_mem); (case h0 => omega); (case ha => first | assumption | omega); (case hb => first | assumption | omega); (case hn => first | assumption | omega | ((rename (_ = Mine.trn _ _) => e9'); rw [e9']; omega))); k_dflt (intro a' b' t' u' k1' k2' x' d' h' tk' e1' F' N' l1' l2'; (try (replace e1' := Mine.frac_part (by assumption) (by assumption) e1'; (have e2' := e1'); obtain ⟨e3', e4', e5', e6'⟩ := e2')); (try simp only [AllLt, and_true] at l1'); (try k_lt2 l2'); (try k_sweep); (try dsimp only); (try dsimp only [PySem.W.CmpBack]); (try (refine ⟨rfl, ?_⟩)); (try (refine handed_on rfl ?_)); (try dsimp only); (try k_fold))))
local macro_rules | `(tactic| walk_at "call ref") => `(tactic| (k_here; (with_reducible show wpAny _ _ (call (Value.ref 167) [Value.ref _, Value.int 1000 _]) _ _ _); k_dflt (refine' Mine.cx_use (Mine.nf_T _ _ _ _ _ _ _ _ _ _ _ _ _ _ _ ?hx ?hdx (show Mine.AbsOf _ _ from rfl) ?hn0 ?hnb ?h0 ?hb) ?k1 ?k2 ?k3 ?k4 ?k5 ?kK ?kd ?ku ?_; (case k1 => first | k_asm | fail "cx: below"); (case k2 => first | k_asm | fail "cx: frame"); (case k3 => first | k_asm | fail "cx: part"); (case k4 => first | k_asm | fail "cx: news"); (case k5 => first | k_asm | fail "cx: top"); (case kK => first | exact rfl | assumption | fail "cx: kind"); (case kd => first | ktr_room | fail "cx: room"); (case ku => first | ktr_units | fail "cx: units"); (case hx => first | assumption | k_mem); (case hdx => first | assumption | k_mem); (case hn0 => omega); (case hnb => omega); (case h0 => omega); (case hb => omega)); k_dflt (intro a' b' t' u' D' c' h' tk' e1' F' N' l1'; (obtain ⟨p', e1', e2'⟩ := e1'); (have e3' := Mine.nfres_bd e1' e2'); (obtain ⟨e3', e4', e5', e6', e7'⟩ := e3'); (try simp only [AllLt, and_true] at l1'); (try k_sweep); (try dsimp only); (try k_fold))))
local macro_rules | `(tactic| walk_at "call ref") => `(tactic| (k_here; (with_reducible show wpAny _ _ (call (Value.ref 153) [Value.str _ _]) _ _ _); k_dflt (refine' Mine.cx_use (Mine.plain_T _ _ _ _ _ _ _ ?hx ?h0 ?hd) ?k1 ?k2 ?k3 ?k4 ?k5 ?kK ?kd ?ku ?_; (case k1 => first | k_asm | fail "cx: below"); (case k2 => first | k_asm | fail "cx: frame"); (case k3 => first | k_asm | fail "cx: part"); (case k4 => first | k_asm | fail "cx: news"); (case k5 => first | k_asm | fail "cx: top"); (case kK => first | exact rfl | assumption | fail "cx: kind"); (case kd => first | ktr_room | fail "cx: room"); (case ku => first | ktr_units | fail "cx: units"); (case hx => first | assumption | omega); (case h0 => assumption); (case hd => assumption)); k_dflt (intro h' tk' F' N'; (try k_sweep); (try dsimp only); (try k_fold))))
local macro_rules | `(tactic| walk_at "call ref") => `(tactic| (k_here; (with_reducible show wpAny _ _ (call (Value.ref 188) [Value.int _ _, Value.int _ _]) _ _ _); k_dflt (refine' Mine.cx_use (Mine.lnear_T _ _ _ _ _ _ _ _ _ ?h0 ?hn ?bn ?bd) ?k1 ?k2 ?k3 ?k4 ?k5 ?kK ?kd ?ku ?_; (case k1 => first | k_asm | fail "cx: below"); (case k2 => first | k_asm | fail "cx: frame"); (case k3 => first | k_asm | fail "cx: part"); (case k4 => first | k_asm | fail "cx: news"); (case k5 => first | k_asm | fail "cx: top"); (case kK => first | exact rfl | assumption | fail "cx: kind"); (case kd => first | ktr_room | fail "cx: room"); (case ku => first | ktr_units | fail "cx: units"); (case h0 => first | assumption | omega); (case hn => first | assumption | omega); (case bn => first | assumption | omega); (case bd => first | assumption | omega)); k_dflt (intro a' b' t' u' D' c' h' tk' e1' F' N' l1'; (try simp only [AllLt, and_true] at l1'); (try k_sweep); (try dsimp only); (try k_fold))))
namespace Mine
theorem gcd_step {x y v : Int} {g : Nat} (e : v = x.fmod y) (h0 : y ≠ 0) (h5 : x.gcd y = g) (h1 : 0 ≤ x) (h2 : 0 ≤ y) (h4 : y ≤ 1000000) : (0 ≤ y ∧ 0 ≤ v ∧ y ≤ 1000000 ∧ v ≤ 1000000 ∧ y.gcd v = g) ∧ v.toNat < y.toNat := by
  have f := (fdiv_fmod_facts x y).2.2.1 (by omega)
  rw [← e] at f
  refine ⟨⟨h2, f.1, h4, by omega, ?_⟩, by omega⟩
  have em : v = x % y := by rw [e]; exact Int.fmod_eq_emod_of_nonneg _ h2
  obtain ⟨m, rfl⟩ := Int.eq_ofNat_of_zero_le h1
  obtain ⟨k, rfl⟩ := Int.eq_ofNat_of_zero_le h2
  rw [em, ← Int.natCast_emod, ← h5]
  show Nat.gcd k (m % k) = Nat.gcd m k
  rw [Nat.gcd_comm k (m % k), ← Nat.gcd_rec, Nat.gcd_comm]
theorem gcd_end {x y : Int} {g : Nat} (h5 : x.gcd y = g) (h0 : y = 0) (h1 : 0 ≤ x) : x = g := by
  subst h0
  rw [Int.gcd_zero_right] at h5
  omega
theorem lcommon_T (w : World) (mean mg mb) (news) (a b : Int) (t u : Tok) (ha : 0 ≤ a) (hb : 0 ≤ b) (ha1 : a ≤ 1000000) (hb1 : b ≤ 1000000) :
    Cx w mean mg mb 195 news 2 [.int a t, .int b u] (RetI news fun v => v = (Int.gcd a b : Int)) := by
  dsimp only [Cx, PG, RetI]
  k_fill
  intros; rename_i hret
  refine wpAny_call ?_
  k_dflt cell_enter
  k_with "exec While Name cons nil" => k_dflt (k_while (fun _ x y => 0 ≤ x ∧ 0 ≤ y ∧ x ≤ 1000000 ∧ y ≤ 1000000 ∧ Int.gcd x y = Int.gcd a b) (fun _ x y => y.toNat) "a" "b")
  k_with "state" => first | exact ⟨ha, hb, ha1, hb1, rfl⟩ | exact (gcd_step (by with_reducible assumption) (by with_reducible assumption) (by with_reducible assumption) (by with_reducible assumption) (by with_reducible assumption) (by with_reducible assumption)).1
  k_with "measure" => exact (gcd_step (by with_reducible assumption) (by with_reducible assumption) (by with_reducible assumption) (by with_reducible assumption) (by with_reducible assumption) (by with_reducible assumption)).2
  k_steps
  all_goals (refine' hret _ _ _ _ ?e1 ?e2 ?e3; (case e2 => k_asm); (case e3 => k_asm); (case e1 => exact gcd_end (by with_reducible assumption) (by with_reducible assumption) (by with_reducible assumption)))
end Mine
end
section
local macro_rules | `(tactic| ktr_units) => `(tactic| ((simp only [Mine.units_make, units_in1, units_deeper, Around.mark_units, ktrTop]); (have hcL9 := cLine_is); omega))
local macro_rules | `(tactic| ktr_room) => `(tactic| ((simp only [depth_mark, depth_under_make, depth_under_kw, depth_in1, depth_deeper, ktrTop]); omega))
local macro_rules | `(tactic| bits_by_make) => `(tactic| with_reducible assumption)
local macro_rules | `(tactic| walk_at "call builtin:divmod") => `(tactic| (k_here; (with_reducible show wpAny _ _ (call (Value.builtin _) [Value.int _ _, Value.int _ _]) _ _ _); refine' divmod_N ?F ?N ?b ?_ (Or.inl (Mine.noPy ?hp)); (case F => k_asm); (case N => k_asm); (case b => omega); (case hp => omega); k_whole; intro h' F' N'; (try k_sweep)))
local macro_rules | `(tactic| walk_at "call builtin:max") => `(tactic| (k_here; (with_reducible show wpAny _ _ (call (Value.builtin _) [Value.int _ _, Value.int _ _]) _ _ _); k_dflt (refine' Mine.max_g ?hh ?F ?N ?_; (case hh => exact rfl); (case F => k_asm); (case N => k_asm); k_whole); intro v' r' h' tk' e1' e2' e3' F' N'; (first | (have e4' := Or.resolve_left e3' (by omega); clear e3') | (have e4' := Or.resolve_right e3' (by omega); clear e3') | skip); (try k_sweep)))
local macro_rules | `(tactic| walk_at "call builtin:min") => `(tactic| (k_here; (with_reducible show wpAny _ _ (call (Value.builtin _) [Value.int _ _, Value.int _ _]) _ _ _); k_dflt (refine' Mine.min_g ?hh ?F ?N ?_; (case hh => exact rfl); (case F => k_asm); (case N => k_asm); k_whole); intro v' r' h' tk' e1' e2' e3' F' N'; (first | (have e4' := Or.resolve_left e3' (by omega); clear e3') | (have e4' := Or.resolve_right e3' (by omega); clear e3') | skip); (try k_sweep)))
local macro_rules | `(tactic| walk_at "call builtin:abs") => `(tactic| (k_here; (with_reducible refine Mine.abs_g ?_); intro v' u' tk' e1' e2' e3'))
local macro_rules | `(tactic| walk_at "binaryOp LShift int int") => `(tactic| (k_here; (with_reducible refine Mine.lshift_g ?kbn ?kbs ?_); (case kbn => omega); (case kbs => omega); intro v' u' tk' e1' e2' e3'; (first | replace e2' := e2' (by omega) | clear e2')))
local macro_rules | `(tactic| walk_at "storeName") => `(tactic| (k_here; (with_reducible first | show wpAny _ _ (storeName _ _ (Value.int (HAdd.hAdd _ _) _)) _ _ _ | show wpAny _ _ (storeName _ _ (Value.int (HSub.hSub _ _) _)) _ _ _ | show wpAny _ _ (storeName _ _ (Value.int (HMul.hMul _ _) _)) _ _ _ | show wpAny _ _ (storeName _ _ (Value.int (Neg.neg _) _)) _ _ _ | show wpAny _ _ (storeName _ _ (Value.int (Int.fdiv _ _) _)) _ _ _ | show wpAny _ _ (storeName _ _ (Value.int (Int.fmod _ _) _)) _ _ _ | show wpAny _ _ (storeName _ _ (Value.int (ite _ _ _) _)) _ _ _); (refine Mine.store_g (fun v' e1' => ?_)); k_dflt (refine' storeX_L ?F ?N ?_ ?a ?b; (case F => k_asm); (case N => k_asm); (case a => rfl); (case b => rfl); k_whole; intro h' F' N'; (try k_sweep))))
local macro_rules | `(tactic| walk_at "call ref") => `(tactic| (k_here; (with_reducible show wpAny _ _ (call (Value.ref 116) _) _ _ _); k_dflt (refine' call_cls ?k1 ?k2 ?k3 ?k4 ?k5 ?k6 ?_; (case k1 => k_asm); (case k2 => k_asm); (case k3 => k_asm); (case k4 => k_is); (case k5 => k_is); (case k6 => k_is); k_whole; intro x' d' h' F' N' l1 l2; (try k_lt l1); (try k_lt2 l2); (try k_sweep); (refine' code_def ?k1 ?k2 ?k3 ?k4 ?k5 ?kA ?kF ?kK ?k6 ?k7 ?k8 ?k9 ?kB ?_ ?c2 ?c3 ?c4 ?c5; (case kA => exact rfl); (case kF => exact rfl); (case kK => first | exact rfl | assumption); (case k1 => k_asm); (case k2 => k_asm); (case k3 => k_asm); (case k4 => k_asm); (case k5 => k_asm); (case k6 => k_is); (case k7 => k_is); (case k8 => ktr_room); (case k9 => first | exact BindsTo.of_eq rfl | exact binds_K (by k_in) rfl (by k_is) rfl rfl rfl); (case c5 => decide); (case kB => exact locs rfl); (case c2 => exact rfl); (case c3 => exact rfl); (case c4 => exact rfl); k_whole; intro g' L' h' FG' F' N' B' X' T'; (try dsimp only); (try k_lift B'); (try k_fold)))))
local macro_rules | `(tactic| walk_at "binaryOp FloorDiv int int") => `(tactic| (k_here; (with_reducible refine floordiv_int ?kbn ?_ (Or.inl (Mine.noPy ?kbp))); (case kbn => omega); (case kbp => first | omega | (refine' Nat.le_trans ?ba ?bb; (case ba => bits_by_make); (case bb => omega)))))
local macro_rules | `(tactic| walk_at "binaryOp Mod int int") => `(tactic| (k_here; (with_reducible refine mod_int' ?kbn ?_); (case kbn => omega)))
local macro_rules | `(tactic| walk_at "binaryOp Mult int int") => `(tactic| (k_here; (with_reducible refine P.mul_int ?_ ?kbn); (case kbn => first | exact PySem.IntMulOk.of_left (PySem.intBits_le_64 (by omega) (by omega)) | exact PySem.IntMulOk.of_right (PySem.intBits_le_64 (by omega) (by omega)) | exact Mine.mulOk (by omega))))
local macro_rules | `(tactic| walk_at "call type:int") => `(tactic| (k_here; (with_reducible show wpAny _ _ (call (Value.type "int") [Value.ref _]) _ _ _); k_dflt (refine' Mine.int_inst ?k1 ?k2 ?k3 ?k4 ?_; (case k1 => k_in); (case k2 => k_inst); (case k3 => k_is); (case k4 => k_is); k_whole)))
local macro_rules | `(tactic| k_mem) => `(tactic| assumption)
local macro_rules | `(tactic| walk_at "formatField int") => `(tactic| (k_here; (with_reducible refine Mine.fmt_g ?kbn ?_); (case kbn => first | omega | exact Mine.absBd (by assumption) (by omega)); intro v' u' tk' e1' e2'))
local macro_rules | `(tactic| walk_at "call ref") => `(tactic| (k_here; (with_reducible show wpAny _ _ (call (Value.ref 28) [Value.int _ _, Value.int _ _]) _ _ _); k_dflt (refine' Mine.cx_use (Mine.rounded_T _ _ _ _ _ _ _ _ _ ?h0 ?hd) ?k1 ?k2 ?k3 ?k4 ?k5 ?kK ?kd ?ku ?_; (case k1 => first | k_asm | fail "cx: below"); (case k2 => first | k_asm | fail "cx: frame"); (case k3 => first | k_asm | fail "cx: part"); (case k4 => first | k_asm | fail "cx: news"); (case k5 => first | k_asm | fail "cx: top"); (case kK => first | exact rfl | assumption | fail "cx: kind"); (case kd => first | ktr_room | fail "cx: room"); (case ku => first | ktr_units | fail "cx: units"); (case h0 => first | assumption | omega); (case hd => first | assumption | omega)); k_dflt (intro v' t' h' tk' e1' F' N'; obtain ⟨e1', e2'⟩ := e1'; (try k_sweep); (try dsimp only); (try k_fold))))
local macro_rules | `(tactic| walk_at "call ref") => `(tactic| (k_here; (with_reducible show wpAny _ _ (call (Value.ref 35) [Value.int _ _, Value.int _ _]) _ _ _); k_dflt (refine' Mine.cx_use (Mine.nearest_T _ _ _ _ _ _ _ _ _ ?h0 ?hn0 ?hn ?hd) ?k1 ?k2 ?k3 ?k4 ?k5 ?kK ?kd ?ku ?_; (case k1 => first | k_asm | fail "cx: below"); (case k2 => first | k_asm | fail "cx: frame"); (case k3 => first | k_asm | fail "cx: part"); (case k4 => first | k_asm | fail "cx: news"); (case k5 => first | k_asm | fail "cx: top"); (case kK => first | exact rfl | assumption | fail "cx: kind"); (case kd => first | ktr_room | fail "cx: room"); (case ku => first | ktr_units | fail "cx: units"); (case h0 => first | assumption | omega); (case hn0 => first | assumption | omega); (case hn => first | assumption | omega); (case hd => first | assumption | omega)); k_dflt (intro a' b' t' u' D' c' h' tk' e1' F' N' l1'; (try simp only [AllLt, and_true] at l1'); (try k_sweep); (try dsimp only); (try k_fold))))
local macro_rules | `(tactic| walk_at "call ref") => `(tactic| (k_here; (with_reducible show wpAny _ _ (call (Value.ref 71) [Value.ref _]) _ _ _); k_dflt (refine' Mine.cx_use (Mine.dint_T _ _ _ _ _ _ _ _ _ _ _ _ _ ?hx ?hdx ?h0 ?hb) ?k1 ?k2 ?k3 ?k4 ?k5 ?kK ?kd ?ku ?_; (case k1 => first | k_asm | fail "cx: below"); (case k2 => first | k_asm | fail "cx: frame"); (case k3 => first | k_asm | fail "cx: part"); (case k4 => first | k_asm | fail "cx: news"); (case k5 => first | k_asm | fail "cx: top"); (case kK => first | exact rfl | assumption | fail "cx: kind"); (case kd => first | ktr_room | fail "cx: room"); (case ku => first | ktr_units | fail "cx: units"); (case hx => first | assumption | k_mem); (case hdx => first | assumption | k_mem); (case h0 => omega); (case hb => omega)); k_dflt (intro v' t' h' tk' e1' F' N'; (try k_sweep); (try dsimp only [Mine.IntBack]); (try k_fold))))
local macro_rules | `(tactic| walk_at "call ref") => `(tactic| (k_here; (with_reducible show wpAny _ _ (call (Value.ref 42) [Value.ref _]) _ _ _); k_dflt (refine' Mine.cx_use (Mine.parts_T _ _ _ _ _ _ _ _ _ _ _ _ _ ?hx ?hdx) ?k1 ?k2 ?k3 ?k4 ?k5 ?kK ?kd ?ku ?_; (case k1 => first | k_asm | fail "cx: below"); (case k2 => first | k_asm | fail "cx: frame"); (case k3 => first | k_asm | fail "cx: part"); (case k4 => first | k_asm | fail "cx: news"); (case k5 => first | k_asm | fail "cx: top"); (case kK => first | exact rfl | assumption | fail "cx: kind"); (case kd => first | ktr_room | fail "cx: room"); (case ku => first | ktr_units | fail "cx: units"); (case hx => first | assumption | k_mem); (case hdx => first | assumption | k_mem)); k_dflt (intro a' b' t' u' D' c' h' tk' e1' F' N' l1'; obtain ⟨e1', e2'⟩ := e1'; subst e1'; subst e2'; (try simp only [AllLt, and_true] at l1'); (try k_sweep); (try dsimp only); (try k_fold))))
local macro_rules | `(tactic| walk_at "call ref") => `(tactic| (k_here; (with_reducible show wpAny _ _ (call (Value.ref 116) [Value.int _ _, Value.int _ _]) _ _ _); k_dflt (refine' Mine.cx_use (Mine.Double_T _ _ _ _ _ _ _ _ _ ?h0 ?hn ?hd) ?k1 ?k2 ?k3 ?k4 ?k5 ?kK ?kd ?ku ?_; (case k1 => first | k_asm | fail "cx: below"); (case k2 => first | k_asm | fail "cx: frame"); (case k3 => first | k_asm | fail "cx: part"); (case k4 => first | k_asm | fail "cx: news"); (case k5 => first | k_asm | fail "cx: top"); (case kK => first | exact rfl | assumption | fail "cx: kind"); (case kd => first | ktr_room | fail "cx: room"); (case ku => first | ktr_units | fail "cx: units"); (case h0 => first | omega | exact Int.mul_pos (by assumption) (by assumption)); (case hn => first | assumption | omega | (refine' Nat.le_trans ?ba ?bb; (case ba => bits_by_make); (case bb => omega))); (case hd => first | assumption | omega | (refine' Nat.le_trans ?ba ?bb; (case ba => bits_by_make); (case bb => omega)))); k_dflt (intro a' b' t' u' k1' k2' x' d' h' tk' e1' F' N' l1' l2'; obtain ⟨e1', e2', e3', e4'⟩ := e1'; (try simp only [AllLt, and_true] at l1'); (try k_lt2 l2'); (try k_sweep); (try dsimp only); (try k_fold))))
local macro_rules | `(tactic| walk_at "call ref") => `(tactic| (k_here; (with_reducible show wpAny _ _ (call (Value.ref 116) [Value.int _ _]) _ _ _); k_dflt (refine' Mine.cx_use (Mine.Double1_T _ _ _ _ _ _ _ ?hn) ?k1 ?k2 ?k3 ?k4 ?k5 ?kK ?kd ?ku ?_; (case k1 => first | k_asm | fail "cx: below"); (case k2 => first | k_asm | fail "cx: frame"); (case k3 => first | k_asm | fail "cx: part"); (case k4 => first | k_asm | fail "cx: news"); (case k5 => first | k_asm | fail "cx: top"); (case kK => first | exact rfl | assumption | fail "cx: kind"); (case kd => first | ktr_room | fail "cx: room"); (case ku => first | ktr_units | fail "cx: units"); (case hn => first | assumption | omega)); k_dflt (intro a' b' t' u' k1' k2' x' d' h' tk' e1' F' N' l1' l2'; obtain ⟨e1', e2', e3', e4'⟩ := e1'; (try simp only [AllLt, and_true] at l1'); (try k_lt2 l2'); (try k_sweep); (try dsimp only); (try k_fold))))
local macro_rules | `(tactic| walk_at "call ref") => `(tactic| (k_here; (with_reducible show wpAny _ _ (call (Value.ref 134) [Value.ref _]) _ _ _); k_dflt (refine' Mine.cx_use (Mine.isfin_T _ _ _ _ _ _ _ _ _ _ _ _ _ ?hx ?hdx ?h0) ?k1 ?k2 ?k3 ?k4 ?k5 ?kK ?kd ?ku ?_; (case k1 => first | k_asm | fail "cx: below"); (case k2 => first | k_asm | fail "cx: frame"); (case k3 => first | k_asm | fail "cx: part"); (case k4 => first | k_asm | fail "cx: news"); (case k5 => first | k_asm | fail "cx: top"); (case kK => first | exact rfl | assumption | fail "cx: kind"); (case kd => first | ktr_room | fail "cx: room"); (case ku => first | ktr_units | fail "cx: units"); (case hx => first | assumption | k_mem); (case hdx => first | assumption | k_mem); (case h0 => omega)); k_dflt (intro h' tk' F' N'; (try k_sweep); (try dsimp only); (try k_fold))))
local macro_rules | `(tactic| walk_at "call ref") => `(tactic| (k_here; (with_reducible show wpAny _ _ (call (Value.ref 127) [Value.int _ _]) _ _ _); k_dflt (refine' Mine.cx_use (Mine.dblI_T _ _ _ _ _ _ _ ?hn) ?k1 ?k2 ?k3 ?k4 ?k5 ?kK ?kd ?ku ?_; (case k1 => first | k_asm | fail "cx: below"); (case k2 => first | k_asm | fail "cx: frame"); (case k3 => first | k_asm | fail "cx: part"); (case k4 => first | k_asm | fail "cx: news"); (case k5 => first | k_asm | fail "cx: top"); (case kK => first | exact rfl | assumption | fail "cx: kind"); (case kd => first | ktr_room | fail "cx: room"); (case ku => first | ktr_units | fail "cx: units"); (case hn => first | assumption | omega)); k_dflt (intro a' b' t' u' k1' k2' x' d' h' tk' e1' F' N' l1' l2'; obtain ⟨e1', e2', e3', e4'⟩ := e1'; (try simp only [AllLt, and_true] at l1'); (try k_lt2 l2'); (try k_sweep); (try dsimp only); (try k_fold))))
local macro_rules | `(tactic| walk_at "call ref") => `(tactic| (k_here; (with_reducible show wpAny _ _ (call (Value.ref 106) [Value.ref _, Value.int _ _]) _ _ _); k_dflt (refine' Mine.cx_use (Mine.sub_T _ _ _ _ _ _ _ _ _ _ _ _ _ _ _ ?hx ?hdx ?h0 ?ha ?hb ?hn) ?k1 ?k2 ?k3 ?k4 ?k5 ?kK ?kd ?ku ?_; (case k1 => first | k_asm | fail "cx: below"); (case k2 => first | k_asm | fail "cx: frame"); (case k3 => first | k_asm | fail "cx: part"); (case k4 => first | k_asm | fail "cx: news"); (case k5 => first | k_asm | fail "cx: top"); (case kK => first | exact rfl | assumption | fail "cx: kind"); (case kd => first | ktr_room | fail "cx: room"); (case ku => first | ktr_units | fail "cx: units"); (case hx => first | assumption | k_mem); (case hdx => first | assumption | k_mem); (case h0 => omega); (case ha => first | assumption | omega); (case hb => first | assumption | omega); (case hn => first | assumption | omega | ((rename (_ = Mine.trn _ _) => e9'); rw [e9']; omega))); k_dflt (intro a' b' t' u' k1' k2' x' d' h' tk' e1' F' N' l1' l2'; (try (replace e1' := Mine.frac_part (by assumption) (by assumption) e1'; (have e2' := e1'); obtain ⟨e3', e4', e5', e6'⟩ := e2')); (try simp only [AllLt, and_true] at l1'); (try k_lt2 l2'); (try k_sweep); (try dsimp only); (try dsimp only [PySem.W.CmpBack]); (try (refine ⟨rfl, ?_⟩)); (try (refine handed_on rfl ?_)); (try dsimp only); (try k_fold))))
local macro_rules | `(tactic| walk_at "call ref") => `(tactic| (k_here; (with_reducible show wpAny _ _ (call (Value.ref 167) [Value.ref _, Value.int 1000 _]) _ _ _); k_dflt (refine' Mine.cx_use (Mine.nf_T _ _ _ _ _ _ _ _ _ _ _ _ _ _ _ ?hx ?hdx (show Mine.AbsOf _ _ from rfl) ?hn0 ?hnb ?h0 ?hb) ?k1 ?k2 ?k3 ?k4 ?k5 ?kK ?kd ?ku ?_; (case k1 => first | k_asm | fail "cx: below"); (case k2 => first | k_asm | fail "cx: frame"); (case k3 => first | k_asm | fail "cx: part"); (case k4 => first | k_asm | fail "cx: news"); (case k5 => first | k_asm | fail "cx: top"); (case kK => first | exact rfl | assumption | fail "cx: kind"); (case kd => first | ktr_room | fail "cx: room"); (case ku => first | ktr_units | fail "cx: units"); (case hx => first | assumption | k_mem); (case hdx => first | assumption | k_mem); (case hn0 => omega); (case hnb => omega); (case h0 => omega); (case hb => omega)); k_dflt (intro a' b' t' u' D' c' h' tk' e1' F' N' l1'; (obtain ⟨p', e1', e2'⟩ := e1'); (have e3' := Mine.nfres_bd e1' e2'); (obtain ⟨e3', e4', e5', e6', e7'⟩ := e3'); (try simp only [AllLt, and_true] at l1'); (try k_sweep); (try dsimp only); (try k_fold))))
local macro_rules | `(tactic| walk_at "call ref") => `(tactic| (k_here; (with_reducible show wpAny _ _ (call (Value.ref 153) [Value.str _ _]) _ _ _); k_dflt (refine' Mine.cx_use (Mine.plain_T _ _ _ _ _ _ _ ?hx ?h0 ?hd) ?k1 ?k2 ?k3 ?k4 ?k5 ?kK ?kd ?ku ?_; (case k1 => first | k_asm | fail "cx: below"); (case k2 => first | k_asm | fail "cx: frame"); (case k3 => first | k_asm | fail "cx: part"); (case k4 => first | k_asm | fail "cx: news"); (case k5 => first | k_asm | fail "cx: top"); (case kK => first | exact rfl | assumption | fail "cx: kind"); (case kd => first | ktr_room | fail "cx: room"); (case ku => first | ktr_units | fail "cx: units"); (case hx => first | assumption | omega); (case h0 => assumption); (case hd => assumption)); k_dflt (intro h' tk' F' N'; (try k_sweep); (try dsimp only); (try k_fold))))
local macro_rules | `(tactic| walk_at "call ref") => `(tactic| (k_here; (with_reducible show wpAny _ _ (call (Value.ref 188) [Value.int _ _, Value.int _ _]) _ _ _); k_dflt (refine' Mine.cx_use (Mine.lnear_T _ _ _ _ _ _ _ _ _ ?h0 ?hn ?bn ?bd) ?k1 ?k2 ?k3 ?k4 ?k5 ?kK ?kd ?ku ?_; (case k1 => first | k_asm | fail "cx: below"); (case k2 => first | k_asm | fail "cx: frame"); (case k3 => first | k_asm | fail "cx: part"); (case k4 => first | k_asm | fail "cx: news"); (case k5 => first | k_asm | fail "cx: top"); (case kK => first | exact rfl | assumption | fail "cx: kind"); (case kd => first | ktr_room | fail "cx: room"); (case ku => first | ktr_units | fail "cx: units"); (case h0 => first | assumption | omega); (case hn => first | assumption | omega); (case bn => first | assumption | omega); (case bd => first | assumption | omega)); k_dflt (intro a' b' t' u' D' c' h' tk' e1' F' N' l1'; (try simp only [AllLt, and_true] at l1'); (try k_sweep); (try dsimp only); (try k_fold))))
local macro_rules | `(tactic| walk_at "call ref") => `(tactic| (k_here; (with_reducible show wpAny _ _ (call (Value.ref 195) [Value.int _ _, Value.int _ _]) _ _ _); k_dflt (refine' Mine.cx_use (Mine.lcommon_T _ _ _ _ _ _ _ _ _ ?h0 ?hb ?ha1 ?hb1) ?k1 ?k2 ?k3 ?k4 ?k5 ?kK ?kd ?ku ?_; (case k1 => first | k_asm | fail "cx: below"); (case k2 => first | k_asm | fail "cx: frame"); (case k3 => first | k_asm | fail "cx: part"); (case k4 => first | k_asm | fail "cx: news"); (case k5 => first | k_asm | fail "cx: top"); (case kK => first | exact rfl | assumption | fail "cx: kind"); (case kd => first | ktr_room | fail "cx: room"); (case ku => first | ktr_units | fail "cx: units"); (case h0 => first | assumption | omega); (case hb => first | assumption | omega); (case ha1 => first | assumption | omega); (case hb1 => first | assumption | omega)); k_dflt (intro v' t' h' tk' e1' F' N'; (try k_sweep); (try dsimp only); (try k_fold))))
local macro_rules | `(tactic| walk_at "testChain") => `(tactic| (k_here; k_dflt (dsimp only [evalEach]); (first | with_reducible refine test_link ?_ | (k_dflt (refine test_last ?_)))))
local macro_rules | `(tactic| walk_at "storeName") => `(tactic| (k_here; (with_reducible show wpAny _ _ (storeName _ _ (Value.str _ _)) _ _ _); (refine Mine.store_s (by with_reducible assumption) ?_); k_dflt (refine' storeX_L ?F ?N ?_ ?a ?b; (case F => k_asm); (case N => k_asm); (case a => rfl); (case b => rfl); k_whole; intro h' F' N'; (try k_sweep))))
namespace Mine
theorem lread1_T (w : World) (mean mg mb) (news) (x f b k a r e : Str) (t : Tok) (n : Int) (hx : x.length ≤ 60) (hal : a.length ≤ 60) (hfl : f.length ≤ 60) (hkl : k.length ≤ 60)
    (r1 : (Txt.rpartition x (Str.ofString " ")).1 = f) (r2 : (Txt.rpartition x (Str.ofString " ")).2.1 = b) (r3 : (Txt.rpartition x (Str.ofString " ")).2.2 = k)
    (p1 : (Txt.partition k (Str.ofString "/")).1 = a) (p2 : (Txt.partition k (Str.ofString "/")).2.1 = r) (p3 : (Txt.partition k (Str.ofString "/")).2.2 = e)
    (ha : Txt.isdigit a = true) (hr : (r != Str.ofString "") = false) (hr2 : (r == Str.ofString "") = true) (hb : (b != Str.ofString "") = false) (hN : PySem.intText? a = some n) (hn0 : 0 ≤ n) (hn1 : n < 10 ^ 13) (he : (a == Str.ofString (toString n)) = true) :
    Cx w mean mg mb 202 news 10 [.str x t] (RetII news fun c q => c = n ∧ q = 1) := by
  dsimp only [Cx, PG, RetII]
  k_fill
  intros; rename_i hret
  refine wpAny_call ?_
  k_dflt cell_enter
  k_steps
  all_goals (refine' hret _ _ _ _ _ _ _ _ ?e1 ?e2 ?e3 ?e4; (case e2 => k_asm); (case e3 => (refine' cb_drop ?cbN ?cbS; (case cbN => assumption); (case cbS => repeat' (first | with_reducible exact sub_refl | with_reducible refine sub_cons ?_ | refine sub_skip ?_)))); (case e4 => first | with_reducible assumption | exact And.right (And.right (by with_reducible assumption))); (case e1 => first | exact ⟨rfl, rfl⟩ | exact ⟨by omega, rfl⟩))
theorem lread2_T (w : World) (mean mg mb) (news) (x f b k a r e : Str) (t : Tok) (p q : Int) (hx : x.length ≤ 60) (hal : a.length ≤ 60) (hel : e.length ≤ 60) (hfl : f.length ≤ 60) (hkl : k.length ≤ 60)
    (r1 : (Txt.rpartition x (Str.ofString " ")).1 = f) (r2 : (Txt.rpartition x (Str.ofString " ")).2.1 = b) (r3 : (Txt.rpartition x (Str.ofString " ")).2.2 = k)
    (p1 : (Txt.partition k (Str.ofString "/")).1 = a) (p2 : (Txt.partition k (Str.ofString "/")).2.1 = r) (p3 : (Txt.partition k (Str.ofString "/")).2.2 = e)
    (ha : Txt.isdigit a = true) (hr : (r != Str.ofString "") = true) (hr2 : (r == Str.ofString "") = false) (he : Txt.isdigit e = true)
    (hN : PySem.intText? a = some p) (hp0 : 0 < p) (hpq : p < q) (hq : q ≤ 1000) (hM : PySem.intText? e = some q) (hg : (Int.gcd p q : Int) = 1) (hs : (Str.ofString (toString p) ++ Str.ofString "/" ++ Str.ofString (toString q) != k) = false)
    (hb : (b != Str.ofString "") = false) (hb2 : b.length = 0) :
    Cx w mean mg mb 202 news 10 [.str x t] (RetII news fun c d => c = p ∧ d = q) := by
  dsimp only [Cx, PG, RetII]
  k_fill
  intros; rename_i hret
  refine wpAny_call ?_
  k_dflt cell_enter
  k_steps
  all_goals (first | (exfalso; omega) | (refine' hret _ _ _ _ _ _ _ _ ?e1 ?e2 ?e3 ?e4; (case e2 => k_asm); (case e3 => (refine' cb_drop ?cbN ?cbS; (case cbN => assumption); (case cbS => repeat' (first | with_reducible exact sub_refl | with_reducible refine sub_cons ?_ | refine sub_skip ?_)))); (case e4 => first | with_reducible assumption | exact And.right (And.right (And.right (by with_reducible assumption)))); (case e1 => first | exact ⟨rfl, rfl⟩ | exact ⟨by omega, rfl⟩)))
theorem lread3_T (w : World) (mean mg mb) (news) (x f b k a r e : Str) (t : Tok) (p q W : Int) (hx : x.length ≤ 60) (hal : a.length ≤ 60) (hel : e.length ≤ 60) (hfl : f.length ≤ 60) (hkl : k.length ≤ 60)
    (r1 : (Txt.rpartition x (Str.ofString " ")).1 = f) (r2 : (Txt.rpartition x (Str.ofString " ")).2.1 = b) (r3 : (Txt.rpartition x (Str.ofString " ")).2.2 = k)
    (p1 : (Txt.partition k (Str.ofString "/")).1 = a) (p2 : (Txt.partition k (Str.ofString "/")).2.1 = r) (p3 : (Txt.partition k (Str.ofString "/")).2.2 = e)
    (ha : Txt.isdigit a = true) (hr : (r != Str.ofString "") = true) (hr2 : (r == Str.ofString "") = false) (he : Txt.isdigit e = true)
    (hN : PySem.intText? a = some p) (hp0 : 0 < p) (hpq : p < q) (hq : q ≤ 1000) (hM : PySem.intText? e = some q) (hg : (Int.gcd p q : Int) = 1) (hs : (Str.ofString (toString p) ++ Str.ofString "/" ++ Str.ofString (toString q) != k) = false)
    (hb : (b != Str.ofString "") = true) (hb2 : b.length = 1) (hf : Txt.isdigit f = true) (hW : PySem.intText? f = some W) (hW0 : 0 < W) (hW1 : W < 10 ^ 13) (hfs : (Str.ofString (toString W) != f) = false) :
    Cx w mean mg mb 202 news 10 [.str x t] (RetII news fun c d => c = W * q + p ∧ d = q) := by
  dsimp only [Cx, PG, RetII]
  k_fill
  intros; rename_i hret
  refine wpAny_call ?_
  k_dflt cell_enter
  k_steps
  all_goals (first | (exfalso; omega) | (refine' hret _ _ _ _ _ _ _ _ ?e1 ?e2 ?e3 ?e4; (case e2 => k_asm); (case e3 => (refine' cb_drop ?cbN ?cbS; (case cbN => assumption); (case cbS => repeat' (first | with_reducible exact sub_refl | with_reducible refine sub_cons ?_ | refine sub_skip ?_)))); (case e4 => first | with_reducible assumption | exact And.right (And.right (And.right (by with_reducible assumption)))); (case e1 => first | exact ⟨rfl, rfl⟩ | exact ⟨by omega, rfl⟩)))
theorem lread_T (w : World) (mean mg mb) (news) (x : Str) (t : Tok) (c q : Int) (h : ReadsTo x c q) : Cx w mean mg mb 202 news 10 [.str x t] (RetII news fun a b => a = c ∧ b = q) := by
  rcases h with ⟨f, b, k, a, r, e, h, rfl⟩ | ⟨f, b, k, a, r, e, h⟩ | ⟨f, b, k, a, r, e, p, W, h, rfl⟩
  · exact lread1_T w mean mg mb news x f b k a r e t c h.hx h.hal h.hfl h.hkl h.r1 h.r2 h.r3 h.p1 h.p2 h.p3 h.ha h.hr h.hr2 h.hb h.hN h.hn0 h.hn1 h.he
  · exact lread2_T w mean mg mb news x f b k a r e t c q h.h.hx h.h.hal h.h.hel h.h.hfl h.h.hkl h.h.r1 h.h.r2 h.h.r3 h.h.p1 h.h.p2 h.h.p3 h.h.ha h.h.hr h.h.hr2 h.h.he h.h.hN h.h.hp0 h.h.hpq h.h.hq h.h.hM h.h.hg h.h.hs h.hb h.hb2
  · exact lread3_T w mean mg mb news x f b k a r e t p q W h.h.hx h.h.hal h.h.hel h.h.hfl h.h.hkl h.h.r1 h.h.r2 h.h.r3 h.h.p1 h.h.p2 h.h.p3 h.h.ha h.h.hr h.h.hr2 h.h.he h.h.hN h.h.hp0 h.h.hpq h.h.hq h.h.hM h.h.hg h.h.hs h.hb h.hb2 h.hf h.hW h.hW0 h.hW1 h.hfs
end Mine
end
section
local macro_rules | `(tactic| ktr_units) => `(tactic| ((simp only [Mine.units_make, units_in1, units_deeper, Around.mark_units, ktrTop]); (have hcL9 := cLine_is); omega))
local macro_rules | `(tactic| ktr_room) => `(tactic| ((simp only [depth_mark, depth_under_make, depth_under_kw, depth_in1, depth_deeper, ktrTop]); omega))
local macro_rules | `(tactic| bits_by_make) => `(tactic| with_reducible assumption)
local macro_rules | `(tactic| walk_at "call builtin:divmod") => `(tactic| (k_here; (with_reducible show wpAny _ _ (call (Value.builtin _) [Value.int _ _, Value.int _ _]) _ _ _); refine' divmod_N ?F ?N ?b ?_ (Or.inl (Mine.noPy ?hp)); (case F => k_asm); (case N => k_asm); (case b => omega); (case hp => omega); k_whole; intro h' F' N'; (try k_sweep)))
local macro_rules | `(tactic| walk_at "call builtin:max") => `(tactic| (k_here; (with_reducible show wpAny _ _ (call (Value.builtin _) [Value.int _ _, Value.int _ _]) _ _ _); k_dflt (refine' Mine.max_g ?hh ?F ?N ?_; (case hh => exact rfl); (case F => k_asm); (case N => k_asm); k_whole); intro v' r' h' tk' e1' e2' e3' F' N'; (first | (have e4' := Or.resolve_left e3' (by omega); clear e3') | (have e4' := Or.resolve_right e3' (by omega); clear e3') | skip); (try k_sweep)))
local macro_rules | `(tactic| walk_at "call builtin:min") => `(tactic| (k_here; (with_reducible show wpAny _ _ (call (Value.builtin _) [Value.int _ _, Value.int _ _]) _ _ _); k_dflt (refine' Mine.min_g ?hh ?F ?N ?_; (case hh => exact rfl); (case F => k_asm); (case N => k_asm); k_whole); intro v' r' h' tk' e1' e2' e3' F' N'; (first | (have e4' := Or.resolve_left e3' (by omega); clear e3') | (have e4' := Or.resolve_right e3' (by omega); clear e3') | skip); (try k_sweep)))
local macro_rules | `(tactic| walk_at "call builtin:abs") => `(tactic| (k_here; (with_reducible refine Mine.abs_g ?_); intro v' u' tk' e1' e2' e3'))
local macro_rules | `(tactic| walk_at "binaryOp LShift int int") => `(tactic| (k_here; (with_reducible refine Mine.lshift_g ?kbn ?kbs ?_); (case kbn => omega); (case kbs => omega); intro v' u' tk' e1' e2' e3'; (first | replace e2' := e2' (by omega) | clear e2')))
local macro_rules | `(tactic| walk_at "storeName") => `(tactic| (k_here; (with_reducible first | show wpAny _ _ (storeName _ _ (Value.int (HAdd.hAdd _ _) _)) _ _ _ | show wpAny _ _ (storeName _ _ (Value.int (HSub.hSub _ _) _)) _ _ _ | show wpAny _ _ (storeName _ _ (Value.int (HMul.hMul _ _) _)) _ _ _ | show wpAny _ _ (storeName _ _ (Value.int (Neg.neg _) _)) _ _ _ | show wpAny _ _ (storeName _ _ (Value.int (Int.fdiv _ _) _)) _ _ _ | show wpAny _ _ (storeName _ _ (Value.int (Int.fmod _ _) _)) _ _ _ | show wpAny _ _ (storeName _ _ (Value.int (ite _ _ _) _)) _ _ _); (refine Mine.store_g (fun v' e1' => ?_)); k_dflt (refine' storeX_L ?F ?N ?_ ?a ?b; (case F => k_asm); (case N => k_asm); (case a => rfl); (case b => rfl); k_whole; intro h' F' N'; (try k_sweep))))
local macro_rules | `(tactic| walk_at "call ref") => `(tactic| (k_here; (with_reducible show wpAny _ _ (call (Value.ref 116) _) _ _ _); k_dflt (refine' call_cls ?k1 ?k2 ?k3 ?k4 ?k5 ?k6 ?_; (case k1 => k_asm); (case k2 => k_asm); (case k3 => k_asm); (case k4 => k_is); (case k5 => k_is); (case k6 => k_is); k_whole; intro x' d' h' F' N' l1 l2; (try k_lt l1); (try k_lt2 l2); (try k_sweep); (refine' code_def ?k1 ?k2 ?k3 ?k4 ?k5 ?kA ?kF ?kK ?k6 ?k7 ?k8 ?k9 ?kB ?_ ?c2 ?c3 ?c4 ?c5; (case kA => exact rfl); (case kF => exact rfl); (case kK => first | exact rfl | assumption); (case k1 => k_asm); (case k2 => k_asm); (case k3 => k_asm); (case k4 => k_asm); (case k5 => k_asm); (case k6 => k_is); (case k7 => k_is); (case k8 => ktr_room); (case k9 => first | exact BindsTo.of_eq rfl | exact binds_K (by k_in) rfl (by k_is) rfl rfl rfl); (case c5 => decide); (case kB => exact locs rfl); (case c2 => exact rfl); (case c3 => exact rfl); (case c4 => exact rfl); k_whole; intro g' L' h' FG' F' N' B' X' T'; (try dsimp only); (try k_lift B'); (try k_fold)))))
local macro_rules | `(tactic| walk_at "binaryOp FloorDiv int int") => `(tactic| (k_here; (with_reducible refine floordiv_int ?kbn ?_ (Or.inl (Mine.noPy ?kbp))); (case kbn => omega); (case kbp => first | omega | (refine' Nat.le_trans ?ba ?bb; (case ba => bits_by_make); (case bb => omega)))))
local macro_rules | `(tactic| walk_at "binaryOp Mod int int") => `(tactic| (k_here; (with_reducible refine mod_int' ?kbn ?_); (case kbn => omega)))
local macro_rules | `(tactic| walk_at "binaryOp Mult int int") => `(tactic| (k_here; (with_reducible refine P.mul_int ?_ ?kbn); (case kbn => first | exact PySem.IntMulOk.of_left (PySem.intBits_le_64 (by omega) (by omega)) | exact PySem.IntMulOk.of_right (PySem.intBits_le_64 (by omega) (by omega)) | exact Mine.mulOk (by omega))))
local macro_rules | `(tactic| walk_at "call type:int") => `(tactic| (k_here; (with_reducible show wpAny _ _ (call (Value.type "int") [Value.ref _]) _ _ _); k_dflt (refine' Mine.int_inst ?k1 ?k2 ?k3 ?k4 ?_; (case k1 => k_in); (case k2 => k_inst); (case k3 => k_is); (case k4 => k_is); k_whole)))
local macro_rules | `(tactic| k_mem) => `(tactic| assumption)
local macro_rules | `(tactic| walk_at "formatField int") => `(tactic| (k_here; (with_reducible refine Mine.fmt_g ?kbn ?_); (case kbn => first | omega | exact Mine.absBd (by assumption) (by omega)); intro v' u' tk' e1' e2'))
local macro_rules | `(tactic| walk_at "call ref") => `(tactic| (k_here; (with_reducible show wpAny _ _ (call (Value.ref 28) [Value.int _ _, Value.int _ _]) _ _ _); k_dflt (refine' Mine.cx_use (Mine.rounded_T _ _ _ _ _ _ _ _ _ ?h0 ?hd) ?k1 ?k2 ?k3 ?k4 ?k5 ?kK ?kd ?ku ?_; (case k1 => first | k_asm | fail "cx: below"); (case k2 => first | k_asm | fail "cx: frame"); (case k3 => first | k_asm | fail "cx: part"); (case k4 => first | k_asm | fail "cx: news"); (case k5 => first | k_asm | fail "cx: top"); (case kK => first | exact rfl | assumption | fail "cx: kind"); (case kd => first | ktr_room | fail "cx: room"); (case ku => first | ktr_units | fail "cx: units"); (case h0 => first | assumption | omega); (case hd => first | assumption | omega)); k_dflt (intro v' t' h' tk' e1' F' N'; obtain ⟨e1', e2'⟩ := e1'; (try k_sweep); (try dsimp only); (try k_fold))))
local macro_rules | `(tactic| walk_at "call ref") => `(tactic| (k_here; (with_reducible show wpAny _ _ (call (Value.ref 35) [Value.int _ _, Value.int _ _]) _ _ _); k_dflt (refine' Mine.cx_use (Mine.nearest_T _ _ _ _ _ _ _ _ _ ?h0 ?hn0 ?hn ?hd) ?k1 ?k2 ?k3 ?k4 ?k5 ?kK ?kd ?ku ?_; (case k1 => first | k_asm | fail "cx: below"); (case k2 => first | k_asm | fail "cx: frame"); (case k3 => first | k_asm | fail "cx: part"); (case k4 => first | k_asm | fail "cx: news"); (case k5 => first | k_asm | fail "cx: top"); (case kK => first | exact rfl | assumption | fail "cx: kind"); (case kd => first | ktr_room | fail "cx: room"); (case ku => first | ktr_units | fail "cx: units"); (case h0 => first | assumption | omega); (case hn0 => first | assumption | omega); (case hn => first | assumption | omega); (case hd => first | assumption | omega)); k_dflt (intro a' b' t' u' D' c' h' tk' e1' F' N' l1'; (try simp only [AllLt, and_true] at l1'); (try k_sweep); (try dsimp only); (try k_fold))))
local macro_rules | `(tactic| walk_at "call ref") => `(tactic| (k_here; (with_reducible show wpAny _ _ (call (Value.ref 71) [Value.ref _]) _ _ _); k_dflt (refine' Mine.cx_use (Mine.dint_T _ _ _ _ _ _ _ _ _ _ _ _ _ ?hx ?hdx ?h0 ?hb) ?k1 ?k2 ?k3 ?k4 ?k5 ?kK ?kd ?ku ?_; (case k1 => first | k_asm | fail "cx: below"); (case k2 => first | k_asm | fail "cx: frame"); (case k3 => first | k_asm | fail "cx: part"); (case k4 => first | k_asm | fail "cx: news"); (case k5 => first | k_asm | fail "cx: top"); (case kK => first | exact rfl | assumption | fail "cx: kind"); (case kd => first | ktr_room | fail "cx: room"); (case ku => first | ktr_units | fail "cx: units"); (case hx => first | assumption | k_mem); (case hdx => first | assumption | k_mem); (case h0 => omega); (case hb => omega)); k_dflt (intro v' t' h' tk' e1' F' N'; (try k_sweep); (try dsimp only [Mine.IntBack]); (try k_fold))))
local macro_rules | `(tactic| walk_at "call ref") => `(tactic| (k_here; (with_reducible show wpAny _ _ (call (Value.ref 42) [Value.ref _]) _ _ _); k_dflt (refine' Mine.cx_use (Mine.parts_T _ _ _ _ _ _ _ _ _ _ _ _ _ ?hx ?hdx) ?k1 ?k2 ?k3 ?k4 ?k5 ?kK ?kd ?ku ?_; (case k1 => first | k_asm | fail "cx: below"); (case k2 => first | k_asm | fail "cx: frame"); (case k3 => first | k_asm | fail "cx: part"); (case k4 => first | k_asm | fail "cx: news"); (case k5 => first | k_asm | fail "cx: top"); (case kK => first | exact rfl | assumption | fail "cx: kind"); (case kd => first | ktr_room | fail "cx: room"); (case ku => first | ktr_units | fail "cx: units"); (case hx => first | assumption | k_mem); (case hdx => first | assumption | k_mem)); k_dflt (intro a' b' t' u' D' c' h' tk' e1' F' N' l1'; obtain ⟨e1', e2'⟩ := e1'; subst e1'; subst e2'; (try simp only [AllLt, and_true] at l1'); (try k_sweep); (try dsimp only); (try k_fold))))
local macro_rules | `(tactic| walk_at "call ref") => `(tactic| (k_here; (with_reducible show wpAny _ _ (call (Value.ref 116) [Value.int _ _, Value.int _ _]) _ _ _); k_dflt (refine' Mine.cx_use (Mine.Double_T _ _ _ _ _ _ _ _ _ ?h0 ?hn ?hd) ?k1 ?k2 ?k3 ?k4 ?k5 ?kK ?kd ?ku ?_; (case k1 => first | k_asm | fail "cx: below"); (case k2 => first | k_asm | fail "cx: frame"); (case k3 => first | k_asm | fail "cx: part"); (case k4 => first | k_asm | fail "cx: news"); (case k5 => first | k_asm | fail "cx: top"); (case kK => first | exact rfl | assumption | fail "cx: kind"); (case kd => first | ktr_room | fail "cx: room"); (case ku => first | ktr_units | fail "cx: units"); (case h0 => first | omega | exact Int.mul_pos (by assumption) (by assumption)); (case hn => first | assumption | omega | (refine' Nat.le_trans ?ba ?bb; (case ba => bits_by_make); (case bb => omega))); (case hd => first | assumption | omega | (refine' Nat.le_trans ?ba ?bb; (case ba => bits_by_make); (case bb => omega)))); k_dflt (intro a' b' t' u' k1' k2' x' d' h' tk' e1' F' N' l1' l2'; obtain ⟨e1', e2', e3', e4'⟩ := e1'; (try simp only [AllLt, and_true] at l1'); (try k_lt2 l2'); (try k_sweep); (try dsimp only); (try k_fold))))
local macro_rules | `(tactic| walk_at "call ref") => `(tactic| (k_here; (with_reducible show wpAny _ _ (call (Value.ref 116) [Value.int _ _]) _ _ _); k_dflt (refine' Mine.cx_use (Mine.Double1_T _ _ _ _ _ _ _ ?hn) ?k1 ?k2 ?k3 ?k4 ?k5 ?kK ?kd ?ku ?_; (case k1 => first | k_asm | fail "cx: below"); (case k2 => first | k_asm | fail "cx: frame"); (case k3 => first | k_asm | fail "cx: part"); (case k4 => first | k_asm | fail "cx: news"); (case k5 => first | k_asm | fail "cx: top"); (case kK => first | exact rfl | assumption | fail "cx: kind"); (case kd => first | ktr_room | fail "cx: room"); (case ku => first | ktr_units | fail "cx: units"); (case hn => first | assumption | omega)); k_dflt (intro a' b' t' u' k1' k2' x' d' h' tk' e1' F' N' l1' l2'; obtain ⟨e1', e2', e3', e4'⟩ := e1'; (try simp only [AllLt, and_true] at l1'); (try k_lt2 l2'); (try k_sweep); (try dsimp only); (try k_fold))))
local macro_rules | `(tactic| walk_at "call ref") => `(tactic| (k_here; (with_reducible show wpAny _ _ (call (Value.ref 134) [Value.ref _]) _ _ _); k_dflt (refine' Mine.cx_use (Mine.isfin_T _ _ _ _ _ _ _ _ _ _ _ _ _ ?hx ?hdx ?h0) ?k1 ?k2 ?k3 ?k4 ?k5 ?kK ?kd ?ku ?_; (case k1 => first | k_asm | fail "cx: below"); (case k2 => first | k_asm | fail "cx: frame"); (case k3 => first | k_asm | fail "cx: part"); (case k4 => first | k_asm | fail "cx: news"); (case k5 => first | k_asm | fail "cx: top"); (case kK => first | exact rfl | assumption | fail "cx: kind"); (case kd => first | ktr_room | fail "cx: room"); (case ku => first | ktr_units | fail "cx: units"); (case hx => first | assumption | k_mem); (case hdx => first | assumption | k_mem); (case h0 => omega)); k_dflt (intro h' tk' F' N'; (try k_sweep); (try dsimp only); (try k_fold))))
local macro_rules | `(tactic| walk_at "call ref") => `(tactic| (k_here; (with_reducible show wpAny _ _ (call (Value.ref 127) [Value.int _ _]) _ _ _); k_dflt (refine' Mine.cx_use (Mine.dblI_T _ _ _ _ _ _ _ ?hn) ?k1 ?k2 ?k3 ?k4 ?k5 ?kK ?kd ?ku ?_; (case k1 => first | k_asm | fail "cx: below"); (case k2 => first | k_asm | fail "cx: frame"); (case k3 => first | k_asm | fail "cx: part"); (case k4 => first | k_asm | fail "cx: news"); (case k5 => first | k_asm | fail "cx: top"); (case kK => first | exact rfl | assumption | fail "cx: kind"); (case kd => first | ktr_room | fail "cx: room"); (case ku => first | ktr_units | fail "cx: units"); (case hn => first | assumption | omega)); k_dflt (intro a' b' t' u' k1' k2' x' d' h' tk' e1' F' N' l1' l2'; obtain ⟨e1', e2', e3', e4'⟩ := e1'; (try simp only [AllLt, and_true] at l1'); (try k_lt2 l2'); (try k_sweep); (try dsimp only); (try k_fold))))
local macro_rules | `(tactic| walk_at "call ref") => `(tactic| (k_here; (with_reducible show wpAny _ _ (call (Value.ref 106) [Value.ref _, Value.int _ _]) _ _ _); k_dflt (refine' Mine.cx_use (Mine.sub_T _ _ _ _ _ _ _ _ _ _ _ _ _ _ _ ?hx ?hdx ?h0 ?ha ?hb ?hn) ?k1 ?k2 ?k3 ?k4 ?k5 ?kK ?kd ?ku ?_; (case k1 => first | k_asm | fail "cx: below"); (case k2 => first | k_asm | fail "cx: frame"); (case k3 => first | k_asm | fail "cx: part"); (case k4 => first | k_asm | fail "cx: news"); (case k5 => first | k_asm | fail "cx: top"); (case kK => first | exact rfl | assumption | fail "cx: kind"); (case kd => first | ktr_room | fail "cx: room"); (case ku => first | ktr_units | fail "cx: units"); (case hx => first | assumption | k_mem); (case hdx => first | assumption | k_mem); (case h0 => omega); (case ha => first | assumption | omega); (case hb => first | assumption | omega); (case hn => first | assumption | omega | ((rename (_ = Mine.trn _ _) => e9'); rw [e9']; omega))); k_dflt (intro a' b' t' u' k1' k2' x' d' h' tk' e1' F' N' l1' l2'; (try (replace e1' := Mine.frac_part (by assumption) (by assumption) e1'; (have e2' := e1'); obtain ⟨e3', e4', e5', e6'⟩ := e2')); (try simp only [AllLt, and_true] at l1'); (try k_lt2 l2'); (try k_sweep); (try dsimp only); (try dsimp only [PySem.W.CmpBack]); (try (refine ⟨rfl, ?_⟩)); (try (refine handed_on rfl ?_)); (try dsimp only); (try k_fold))))
local macro_rules | `(tactic| walk_at "call ref") => `(tactic| (k_here; (with_reducible show wpAny _ _ (call (Value.ref 167) [Value.ref _, Value.int 1000 _]) _ _ _); k_dflt (refine' Mine.cx_use (Mine.nf_T _ _ _ _ _ _ _ _ _ _ _ _ _ _ _ ?hx ?hdx (show Mine.AbsOf _ _ from rfl) ?hn0 ?hnb ?h0 ?hb) ?k1 ?k2 ?k3 ?k4 ?k5 ?kK ?kd ?ku ?_; (case k1 => first | k_asm | fail "cx: below"); (case k2 => first | k_asm | fail "cx: frame"); (case k3 => first | k_asm | fail "cx: part"); (case k4 => first | k_asm | fail "cx: news"); (case k5 => first | k_asm | fail "cx: top"); (case kK => first | exact rfl | assumption | fail "cx: kind"); (case kd => first | ktr_room | fail "cx: room"); (case ku => first | ktr_units | fail "cx: units"); (case hx => first | assumption | k_mem); (case hdx => first | assumption | k_mem); (case hn0 => omega); (case hnb => omega); (case h0 => omega); (case hb => omega)); k_dflt (intro a' b' t' u' D' c' h' tk' e1' F' N' l1'; (obtain ⟨p', e1', e2'⟩ := e1'); (have e3' := Mine.nfres_bd e1' e2'); (obtain ⟨e3', e4', e5', e6', e7'⟩ := e3'); (try simp only [AllLt, and_true] at l1'); (try k_sweep); (try dsimp only); (try k_fold))))
local macro_rules | `(tactic| walk_at "call ref") => `(tactic| (k_here; (with_reducible show wpAny _ _ (call (Value.ref 153) [Value.str _ _]) _ _ _); k_dflt (refine' Mine.cx_use (Mine.plain_T _ _ _ _ _ _ _ ?hx ?h0 ?hd) ?k1 ?k2 ?k3 ?k4 ?k5 ?kK ?kd ?ku ?_; (case k1 => first | k_asm | fail "cx: below"); (case k2 => first | k_asm | fail "cx: frame"); (case k3 => first | k_asm | fail "cx: part"); (case k4 => first | k_asm | fail "cx: news"); (case k5 => first | k_asm | fail "cx: top"); (case kK => first | exact rfl | assumption | fail "cx: kind"); (case kd => first | ktr_room | fail "cx: room"); (case ku => first | ktr_units | fail "cx: units"); (case hx => first | assumption | omega); (case h0 => assumption); (case hd => assumption)); k_dflt (intro h' tk' F' N'; (try k_sweep); (try dsimp only); (try k_fold))))
local macro_rules | `(tactic| walk_at "call ref") => `(tactic| (k_here; (with_reducible show wpAny _ _ (call (Value.ref 188) [Value.int _ _, Value.int _ _]) _ _ _); k_dflt (refine' Mine.cx_use (Mine.lnear_T _ _ _ _ _ _ _ _ _ ?h0 ?hn ?bn ?bd) ?k1 ?k2 ?k3 ?k4 ?k5 ?kK ?kd ?ku ?_; (case k1 => first | k_asm | fail "cx: below"); (case k2 => first | k_asm | fail "cx: frame"); (case k3 => first | k_asm | fail "cx: part"); (case k4 => first | k_asm | fail "cx: news"); (case k5 => first | k_asm | fail "cx: top"); (case kK => first | exact rfl | assumption | fail "cx: kind"); (case kd => first | ktr_room | fail "cx: room"); (case ku => first | ktr_units | fail "cx: units"); (case h0 => first | assumption | omega); (case hn => first | assumption | omega); (case bn => first | assumption | omega); (case bd => first | assumption | omega)); k_dflt (intro a' b' t' u' D' c' h' tk' e1' F' N' l1'; (try simp only [AllLt, and_true] at l1'); (try k_sweep); (try dsimp only); (try k_fold))))
local macro_rules | `(tactic| walk_at "call ref") => `(tactic| (k_here; (with_reducible show wpAny _ _ (call (Value.ref 195) [Value.int _ _, Value.int _ _]) _ _ _); k_dflt (refine' Mine.cx_use (Mine.lcommon_T _ _ _ _ _ _ _ _ _ ?h0 ?hb ?ha1 ?hb1) ?k1 ?k2 ?k3 ?k4 ?k5 ?kK ?kd ?ku ?_; (case k1 => first | k_asm | fail "cx: below"); (case k2 => first | k_asm | fail "cx: frame"); (case k3 => first | k_asm | fail "cx: part"); (case k4 => first | k_asm | fail "cx: news"); (case k5 => first | k_asm | fail "cx: top"); (case kK => first | exact rfl | assumption | fail "cx: kind"); (case kd => first | ktr_room | fail "cx: room"); (case ku => first | ktr_units | fail "cx: units"); (case h0 => first | assumption | omega); (case hb => first | assumption | omega); (case ha1 => first | assumption | omega); (case hb1 => first | assumption | omega)); k_dflt (intro v' t' h' tk' e1' F' N'; (try k_sweep); (try dsimp only); (try k_fold))))
local macro_rules | `(tactic| walk_at "call ref") => `(tactic| (k_here; (with_reducible show wpAny _ _ (call (Value.ref 202) [Value.str _ _]) _ _ _); k_dflt (refine' Mine.cx_use (Mine.lread_T _ _ _ _ _ _ _ _ _ ?hR) ?k1 ?k2 ?k3 ?k4 ?k5 ?kK ?kd ?ku ?_; (case k1 => first | k_asm | fail "cx: below"); (case k2 => first | k_asm | fail "cx: frame"); (case k3 => first | k_asm | fail "cx: part"); (case k4 => first | k_asm | fail "cx: news"); (case k5 => first | k_asm | fail "cx: top"); (case kK => first | exact rfl | assumption | fail "cx: kind"); (case kd => first | ktr_room | fail "cx: room"); (case ku => first | ktr_units | fail "cx: units"); (case hR => assumption)); k_dflt (intro a' b' t' u' D' c' h' tk' e1' F' N' l1'; (try (obtain ⟨e1', e2'⟩ := e1'; subst e1'; subst e2')); (try simp only [AllLt, and_true] at l1'); (try k_sweep); (try dsimp only); (try k_fold))))
local macro_rules | `(tactic| walk_at "no such key") => `(tactic| (fail "none"))
namespace Mine
theorem read_B (w : World) (mean mg mb) (news) (x : Str) (t : Tok) (n D : Int) (h : ReadsNum x n D) : Cx w mean mg mb 160 news 26 [.str x t] (RetD w news fun a b => DblP n D a b) := by
  obtain ⟨y, z, W, dot, P, N, sg, h, rfl⟩ := h
  exact read_T w mean mg mb news x y z W dot P t N D sg h.hx h.hyl h.hzl h.hWl h.hDl h.hPl h.hy h.hs h.hinf h.hnan h.pe1 h.pe2 h.pe3 h.pd1 h.pd2 h.pd3 h.hl h.hne h.hd h.hN h.hN0 h.hN1 h.hD
end Mine
local macro_rules | `(tactic| walk_at "call ref") => `(tactic| (k_here; (with_reducible show wpAny _ _ (call (Value.ref 160) [Value.str _ _]) _ _ _); k_dflt (refine' Mine.cx_use (Mine.read_B _ _ _ _ _ _ _ _ _ ?hR) ?k1 ?k2 ?k3 ?k4 ?k5 ?kK ?kd ?ku ?_; (case hR => assumption); (case k1 => k_asm); (case k2 => k_asm); (case k3 => k_asm); (case k4 => k_asm); (case k5 => k_asm); (case kK => first | exact rfl | assumption); (case kd => ktr_room); (case ku => ktr_units)); k_dflt (intro a' b' t' u' k1' k2' x' d' h' tk' e1' F' N' l1' l2'; (try simp only [AllLt, and_true] at l1'); (try k_lt2 l2'); (try k_sweep); (try dsimp only); (try k_fold))))
namespace Mine
theorem dblCS (w : World) (mean mg mb) (news) (x : Str) (t : Tok) (n D : Int) (h : ReadsNum x n D) (h0 : 0 < D) (hn : intBits n ≤ 60) (hD : intBits D ≤ 60) (hs : (n.natAbs : Int) < 2 ^ 49 * D) :
    DblC w mean mg mb news (.str x t) (fun p q => DblP n D p q) := by
  refine ⟨fun p q h => numP_of h0 hn hD hs h, ?_⟩
  dsimp only [Cx, PG, RetDM]
  k_fill
  intros; rename_i hret
  refine wpAny_call ?_
  k_dflt cell_enter
  k_steps
  all_goals (refine' hret _ _ _ _ _ _ _ _ _ _ _ (by with_reducible assumption) (sub_skip (sub_skip sub_refl)) ?e2 ?e3 (.head _) (.tail _ (.head _)); (case e2 => k_asm); (case e3 => k_asm))
end Mine
end
section
local macro_rules | `(tactic| ktr_units) => `(tactic| ((simp only [Mine.units_make, units_in1, units_deeper, Around.mark_units, ktrTop]); (have hcL9 := cLine_is); omega))
local macro_rules | `(tactic| ktr_room) => `(tactic| ((simp only [depth_mark, depth_under_make, depth_under_kw, depth_in1, depth_deeper, ktrTop]); omega))
local macro_rules | `(tactic| bits_by_make) => `(tactic| with_reducible assumption)
local macro_rules | `(tactic| walk_at "call builtin:divmod") => `(tactic| (k_here; (with_reducible show wpAny _ _ (call (Value.builtin _) [Value.int _ _, Value.int _ _]) _ _ _); refine' divmod_N ?F ?N ?b ?_ (Or.inl (Mine.noPy ?hp)); (case F => k_asm); (case N => k_asm); (case b => omega); (case hp => omega); k_whole; intro h' F' N'; (try k_sweep)))
local macro_rules | `(tactic| walk_at "call builtin:max") => `(tactic| (k_here; (with_reducible show wpAny _ _ (call (Value.builtin _) [Value.int _ _, Value.int _ _]) _ _ _); k_dflt (refine' Mine.max_g ?hh ?F ?N ?_; (case hh => exact rfl); (case F => k_asm); (case N => k_asm); k_whole); intro v' r' h' tk' e1' e2' e3' F' N'; (first | (have e4' := Or.resolve_left e3' (by omega); clear e3') | (have e4' := Or.resolve_right e3' (by omega); clear e3') | skip); (try k_sweep)))
local macro_rules | `(tactic| walk_at "call builtin:min") => `(tactic| (k_here; (with_reducible show wpAny _ _ (call (Value.builtin _) [Value.int _ _, Value.int _ _]) _ _ _); k_dflt (refine' Mine.min_g ?hh ?F ?N ?_; (case hh => exact rfl); (case F => k_asm); (case N => k_asm); k_whole); intro v' r' h' tk' e1' e2' e3' F' N'; (first | (have e4' := Or.resolve_left e3' (by omega); clear e3') | (have e4' := Or.resolve_right e3' (by omega); clear e3') | skip); (try k_sweep)))
local macro_rules | `(tactic| walk_at "call builtin:abs") => `(tactic| (k_here; (with_reducible refine Mine.abs_g ?_); intro v' u' tk' e1' e2' e3'))
local macro_rules | `(tactic| walk_at "binaryOp LShift int int") => `(tactic| (k_here; (with_reducible refine Mine.lshift_g ?kbn ?kbs ?_); (case kbn => omega); (case kbs => omega); intro v' u' tk' e1' e2' e3'; (first | replace e2' := e2' (by omega) | clear e2')))
local macro_rules | `(tactic| walk_at "storeName") => `(tactic| (k_here; (with_reducible first | show wpAny _ _ (storeName _ _ (Value.int (HAdd.hAdd _ _) _)) _ _ _ | show wpAny _ _ (storeName _ _ (Value.int (HSub.hSub _ _) _)) _ _ _ | show wpAny _ _ (storeName _ _ (Value.int (HMul.hMul _ _) _)) _ _ _ | show wpAny _ _ (storeName _ _ (Value.int (Neg.neg _) _)) _ _ _ | show wpAny _ _ (storeName _ _ (Value.int (Int.fdiv _ _) _)) _ _ _ | show wpAny _ _ (storeName _ _ (Value.int (Int.fmod _ _) _)) _ _ _ | show wpAny _ _ (storeName _ _ (Value.int (ite _ _ _) _)) _ _ _); (refine Mine.store_g (fun v' e1' => ?_)); k_dflt (refine' storeX_L ?F ?N ?_ ?a ?b; (case F => k_asm); (case N => k_asm); (case a => rfl); (case b => rfl); k_whole; intro h' F' N'; (try k_sweep))))
local macro_rules | `(tactic| walk_at "call ref") => `(tactic| (k_here; (with_reducible show wpAny _ _ (call (Value.ref 116) _) _ _ _); k_dflt (refine' call_cls ?k1 ?k2 ?k3 ?k4 ?k5 ?k6 ?_; (case k1 => k_asm); (case k2 => k_asm); (case k3 => k_asm); (case k4 => k_is); (case k5 => k_is); (case k6 => k_is); k_whole; intro x' d' h' F' N' l1 l2; (try k_lt l1); (try k_lt2 l2); (try k_sweep); (refine' code_def ?k1 ?k2 ?k3 ?k4 ?k5 ?kA ?kF ?kK ?k6 ?k7 ?k8 ?k9 ?kB ?_ ?c2 ?c3 ?c4 ?c5; (case kA => exact rfl); (case kF => exact rfl); (case kK => first | exact rfl | assumption); (case k1 => k_asm); (case k2 => k_asm); (case k3 => k_asm); (case k4 => k_asm); (case k5 => k_asm); (case k6 => k_is); (case k7 => k_is); (case k8 => ktr_room); (case k9 => first | exact BindsTo.of_eq rfl | exact binds_K (by k_in) rfl (by k_is) rfl rfl rfl); (case c5 => decide); (case kB => exact locs rfl); (case c2 => exact rfl); (case c3 => exact rfl); (case c4 => exact rfl); k_whole; intro g' L' h' FG' F' N' B' X' T'; (try dsimp only); (try k_lift B'); (try k_fold)))))
local macro_rules | `(tactic| walk_at "binaryOp FloorDiv int int") => `(tactic| (k_here; (with_reducible refine floordiv_int ?kbn ?_ (Or.inl (Mine.noPy ?kbp))); (case kbn => omega); (case kbp => first | omega | (refine' Nat.le_trans ?ba ?bb; (case ba => bits_by_make); (case bb => omega)))))
local macro_rules | `(tactic| walk_at "binaryOp Mod int int") => `(tactic| (k_here; (with_reducible refine mod_int' ?kbn ?_); (case kbn => omega)))
local macro_rules | `(tactic| walk_at "binaryOp Mult int int") => `(tactic| (k_here; (with_reducible refine P.mul_int ?_ ?kbn); (case kbn => first | exact PySem.IntMulOk.of_left (PySem.intBits_le_64 (by omega) (by omega)) | exact PySem.IntMulOk.of_right (PySem.intBits_le_64 (by omega) (by omega)) | exact Mine.mulOk (by omega))))
local macro_rules | `(tactic| walk_at "call type:int") => `(tactic| (k_here; (with_reducible show wpAny _ _ (call (Value.type "int") [Value.ref _]) _ _ _); k_dflt (refine' Mine.int_inst ?k1 ?k2 ?k3 ?k4 ?_; (case k1 => k_in); (case k2 => k_inst); (case k3 => k_is); (case k4 => k_is); k_whole)))
local macro_rules | `(tactic| k_mem) => `(tactic| assumption)
local macro_rules | `(tactic| walk_at "formatField int") => `(tactic| (k_here; (with_reducible refine Mine.fmt_g ?kbn ?_); (case kbn => first | omega | exact Mine.absBd (by assumption) (by omega)); intro v' u' tk' e1' e2'))
local macro_rules | `(tactic| walk_at "call ref") => `(tactic| (k_here; (with_reducible show wpAny _ _ (call (Value.ref 28) [Value.int _ _, Value.int _ _]) _ _ _); k_dflt (refine' Mine.cx_use (Mine.rounded_T _ _ _ _ _ _ _ _ _ ?h0 ?hd) ?k1 ?k2 ?k3 ?k4 ?k5 ?kK ?kd ?ku ?_; (case k1 => first | k_asm | fail "cx: below"); (case k2 => first | k_asm | fail "cx: frame"); (case k3 => first | k_asm | fail "cx: part"); (case k4 => first | k_asm | fail "cx: news"); (case k5 => first | k_asm | fail "cx: top"); (case kK => first | exact rfl | assumption | fail "cx: kind"); (case kd => first | ktr_room | fail "cx: room"); (case ku => first | ktr_units | fail "cx: units"); (case h0 => first | assumption | omega); (case hd => first | assumption | omega)); k_dflt (intro v' t' h' tk' e1' F' N'; obtain ⟨e1', e2'⟩ := e1'; (try k_sweep); (try dsimp only); (try k_fold))))
local macro_rules | `(tactic| walk_at "call ref") => `(tactic| (k_here; (with_reducible show wpAny _ _ (call (Value.ref 35) [Value.int _ _, Value.int _ _]) _ _ _); k_dflt (refine' Mine.cx_use (Mine.nearest_T _ _ _ _ _ _ _ _ _ ?h0 ?hn0 ?hn ?hd) ?k1 ?k2 ?k3 ?k4 ?k5 ?kK ?kd ?ku ?_; (case k1 => first | k_asm | fail "cx: below"); (case k2 => first | k_asm | fail "cx: frame"); (case k3 => first | k_asm | fail "cx: part"); (case k4 => first | k_asm | fail "cx: news"); (case k5 => first | k_asm | fail "cx: top"); (case kK => first | exact rfl | assumption | fail "cx: kind"); (case kd => first | ktr_room | fail "cx: room"); (case ku => first | ktr_units | fail "cx: units"); (case h0 => first | assumption | omega); (case hn0 => first | assumption | omega); (case hn => first | assumption | omega); (case hd => first | assumption | omega)); k_dflt (intro a' b' t' u' D' c' h' tk' e1' F' N' l1'; (try simp only [AllLt, and_true] at l1'); (try k_sweep); (try dsimp only); (try k_fold))))
local macro_rules | `(tactic| walk_at "call ref") => `(tactic| (k_here; (with_reducible show wpAny _ _ (call (Value.ref 71) [Value.ref _]) _ _ _); k_dflt (refine' Mine.cx_use (Mine.dint_T _ _ _ _ _ _ _ _ _ _ _ _ _ ?hx ?hdx ?h0 ?hb) ?k1 ?k2 ?k3 ?k4 ?k5 ?kK ?kd ?ku ?_; (case k1 => first | k_asm | fail "cx: below"); (case k2 => first | k_asm | fail "cx: frame"); (case k3 => first | k_asm | fail "cx: part"); (case k4 => first | k_asm | fail "cx: news"); (case k5 => first | k_asm | fail "cx: top"); (case kK => first | exact rfl | assumption | fail "cx: kind"); (case kd => first | ktr_room | fail "cx: room"); (case ku => first | ktr_units | fail "cx: units"); (case hx => first | assumption | k_mem); (case hdx => first | assumption | k_mem); (case h0 => omega); (case hb => omega)); k_dflt (intro v' t' h' tk' e1' F' N'; (try k_sweep); (try dsimp only [Mine.IntBack]); (try k_fold))))
local macro_rules | `(tactic| walk_at "call ref") => `(tactic| (k_here; (with_reducible show wpAny _ _ (call (Value.ref 42) [Value.ref _]) _ _ _); k_dflt (refine' Mine.cx_use (Mine.parts_T _ _ _ _ _ _ _ _ _ _ _ _ _ ?hx ?hdx) ?k1 ?k2 ?k3 ?k4 ?k5 ?kK ?kd ?ku ?_; (case k1 => first | k_asm | fail "cx: below"); (case k2 => first | k_asm | fail "cx: frame"); (case k3 => first | k_asm | fail "cx: part"); (case k4 => first | k_asm | fail "cx: news"); (case k5 => first | k_asm | fail "cx: top"); (case kK => first | exact rfl | assumption | fail "cx: kind"); (case kd => first | ktr_room | fail "cx: room"); (case ku => first | ktr_units | fail "cx: units"); (case hx => first | assumption | k_mem); (case hdx => first | assumption | k_mem)); k_dflt (intro a' b' t' u' D' c' h' tk' e1' F' N' l1'; obtain ⟨e1', e2'⟩ := e1'; subst e1'; subst e2'; (try simp only [AllLt, and_true] at l1'); (try k_sweep); (try dsimp only); (try k_fold))))
local macro_rules | `(tactic| walk_at "call ref") => `(tactic| (k_here; (with_reducible show wpAny _ _ (call (Value.ref 116) [Value.int _ _, Value.int _ _]) _ _ _); k_dflt (refine' Mine.cx_use (Mine.Double_T _ _ _ _ _ _ _ _ _ ?h0 ?hn ?hd) ?k1 ?k2 ?k3 ?k4 ?k5 ?kK ?kd ?ku ?_; (case k1 => first | k_asm | fail "cx: below"); (case k2 => first | k_asm | fail "cx: frame"); (case k3 => first | k_asm | fail "cx: part"); (case k4 => first | k_asm | fail "cx: news"); (case k5 => first | k_asm | fail "cx: top"); (case kK => first | exact rfl | assumption | fail "cx: kind"); (case kd => first | ktr_room | fail "cx: room"); (case ku => first | ktr_units | fail "cx: units"); (case h0 => first | omega | exact Int.mul_pos (by assumption) (by assumption)); (case hn => first | assumption | omega | (refine' Nat.le_trans ?ba ?bb; (case ba => bits_by_make); (case bb => omega))); (case hd => first | assumption | omega | (refine' Nat.le_trans ?ba ?bb; (case ba => bits_by_make); (case bb => omega)))); k_dflt (intro a' b' t' u' k1' k2' x' d' h' tk' e1' F' N' l1' l2'; obtain ⟨e1', e2', e3', e4'⟩ := e1'; (try simp only [AllLt, and_true] at l1'); (try k_lt2 l2'); (try k_sweep); (try dsimp only); (try k_fold))))
local macro_rules | `(tactic| walk_at "call ref") => `(tactic| (k_here; (with_reducible show wpAny _ _ (call (Value.ref 116) [Value.int _ _]) _ _ _); k_dflt (refine' Mine.cx_use (Mine.Double1_T _ _ _ _ _ _ _ ?hn) ?k1 ?k2 ?k3 ?k4 ?k5 ?kK ?kd ?ku ?_; (case k1 => first | k_asm | fail "cx: below"); (case k2 => first | k_asm | fail "cx: frame"); (case k3 => first | k_asm | fail "cx: part"); (case k4 => first | k_asm | fail "cx: news"); (case k5 => first | k_asm | fail "cx: top"); (case kK => first | exact rfl | assumption | fail "cx: kind"); (case kd => first | ktr_room | fail "cx: room"); (case ku => first | ktr_units | fail "cx: units"); (case hn => first | assumption | omega)); k_dflt (intro a' b' t' u' k1' k2' x' d' h' tk' e1' F' N' l1' l2'; obtain ⟨e1', e2', e3', e4'⟩ := e1'; (try simp only [AllLt, and_true] at l1'); (try k_lt2 l2'); (try k_sweep); (try dsimp only); (try k_fold))))
local macro_rules | `(tactic| walk_at "call ref") => `(tactic| (k_here; (with_reducible show wpAny _ _ (call (Value.ref 134) [Value.ref _]) _ _ _); k_dflt (refine' Mine.cx_use (Mine.isfin_T _ _ _ _ _ _ _ _ _ _ _ _ _ ?hx ?hdx ?h0) ?k1 ?k2 ?k3 ?k4 ?k5 ?kK ?kd ?ku ?_; (case k1 => first | k_asm | fail "cx: below"); (case k2 => first | k_asm | fail "cx: frame"); (case k3 => first | k_asm | fail "cx: part"); (case k4 => first | k_asm | fail "cx: news"); (case k5 => first | k_asm | fail "cx: top"); (case kK => first | exact rfl | assumption | fail "cx: kind"); (case kd => first | ktr_room | fail "cx: room"); (case ku => first | ktr_units | fail "cx: units"); (case hx => first | assumption | k_mem); (case hdx => first | assumption | k_mem); (case h0 => omega)); k_dflt (intro h' tk' F' N'; (try k_sweep); (try dsimp only); (try k_fold))))
local macro_rules | `(tactic| walk_at "call ref") => `(tactic| (k_here; (with_reducible show wpAny _ _ (call (Value.ref 127) [Value.int _ _]) _ _ _); k_dflt (refine' Mine.cx_use (Mine.dblI_T _ _ _ _ _ _ _ ?hn) ?k1 ?k2 ?k3 ?k4 ?k5 ?kK ?kd ?ku ?_; (case k1 => first | k_asm | fail "cx: below"); (case k2 => first | k_asm | fail "cx: frame"); (case k3 => first | k_asm | fail "cx: part"); (case k4 => first | k_asm | fail "cx: news"); (case k5 => first | k_asm | fail "cx: top"); (case kK => first | exact rfl | assumption | fail "cx: kind"); (case kd => first | ktr_room | fail "cx: room"); (case ku => first | ktr_units | fail "cx: units"); (case hn => first | assumption | omega)); k_dflt (intro a' b' t' u' k1' k2' x' d' h' tk' e1' F' N' l1' l2'; obtain ⟨e1', e2', e3', e4'⟩ := e1'; (try simp only [AllLt, and_true] at l1'); (try k_lt2 l2'); (try k_sweep); (try dsimp only); (try k_fold))))
local macro_rules | `(tactic| walk_at "call ref") => `(tactic| (k_here; (with_reducible show wpAny _ _ (call (Value.ref 106) [Value.ref _, Value.int _ _]) _ _ _); k_dflt (refine' Mine.cx_use (Mine.sub_T _ _ _ _ _ _ _ _ _ _ _ _ _ _ _ ?hx ?hdx ?h0 ?ha ?hb ?hn) ?k1 ?k2 ?k3 ?k4 ?k5 ?kK ?kd ?ku ?_; (case k1 => first | k_asm | fail "cx: below"); (case k2 => first | k_asm | fail "cx: frame"); (case k3 => first | k_asm | fail "cx: part"); (case k4 => first | k_asm | fail "cx: news"); (case k5 => first | k_asm | fail "cx: top"); (case kK => first | exact rfl | assumption | fail "cx: kind"); (case kd => first | ktr_room | fail "cx: room"); (case ku => first | ktr_units | fail "cx: units"); (case hx => first | assumption | k_mem); (case hdx => first | assumption | k_mem); (case h0 => omega); (case ha => first | assumption | omega); (case hb => first | assumption | omega); (case hn => first | assumption | omega | ((rename (_ = Mine.trn _ _) => e9'); rw [e9']; omega))); k_dflt (intro a' b' t' u' k1' k2' x' d' h' tk' e1' F' N' l1' l2'; (try (replace e1' := Mine.frac_part (by assumption) (by assumption) e1'; (have e2' := e1'); obtain ⟨e3', e4', e5', e6'⟩ := e2')); (try simp only [AllLt, and_true] at l1'); (try k_lt2 l2'); (try k_sweep); (try dsimp only); (try dsimp only [PySem.W.CmpBack]); (try (refine ⟨rfl, ?_⟩)); (try (refine handed_on rfl ?_)); (try dsimp only); (try k_fold))))
local macro_rules | `(tactic| walk_at "call ref") => `(tactic| (k_here; (with_reducible show wpAny _ _ (call (Value.ref 167) [Value.ref _, Value.int 1000 _]) _ _ _); k_dflt (refine' Mine.cx_use (Mine.nf_T _ _ _ _ _ _ _ _ _ _ _ _ _ _ _ ?hx ?hdx (show Mine.AbsOf _ _ from rfl) ?hn0 ?hnb ?h0 ?hb) ?k1 ?k2 ?k3 ?k4 ?k5 ?kK ?kd ?ku ?_; (case k1 => first | k_asm | fail "cx: below"); (case k2 => first | k_asm | fail "cx: frame"); (case k3 => first | k_asm | fail "cx: part"); (case k4 => first | k_asm | fail "cx: news"); (case k5 => first | k_asm | fail "cx: top"); (case kK => first | exact rfl | assumption | fail "cx: kind"); (case kd => first | ktr_room | fail "cx: room"); (case ku => first | ktr_units | fail "cx: units"); (case hx => first | assumption | k_mem); (case hdx => first | assumption | k_mem); (case hn0 => omega); (case hnb => omega); (case h0 => omega); (case hb => omega)); k_dflt (intro a' b' t' u' D' c' h' tk' e1' F' N' l1'; (obtain ⟨p', e1', e2'⟩ := e1'); (have e3' := Mine.nfres_bd e1' e2'); (obtain ⟨e3', e4', e5', e6', e7'⟩ := e3'); (try simp only [AllLt, and_true] at l1'); (try k_sweep); (try dsimp only); (try k_fold))))
local macro_rules | `(tactic| walk_at "call ref") => `(tactic| (k_here; (with_reducible show wpAny _ _ (call (Value.ref 153) [Value.str _ _]) _ _ _); k_dflt (refine' Mine.cx_use (Mine.plain_T _ _ _ _ _ _ _ ?hx ?h0 ?hd) ?k1 ?k2 ?k3 ?k4 ?k5 ?kK ?kd ?ku ?_; (case k1 => first | k_asm | fail "cx: below"); (case k2 => first | k_asm | fail "cx: frame"); (case k3 => first | k_asm | fail "cx: part"); (case k4 => first | k_asm | fail "cx: news"); (case k5 => first | k_asm | fail "cx: top"); (case kK => first | exact rfl | assumption | fail "cx: kind"); (case kd => first | ktr_room | fail "cx: room"); (case ku => first | ktr_units | fail "cx: units"); (case hx => first | assumption | omega); (case h0 => assumption); (case hd => assumption)); k_dflt (intro h' tk' F' N'; (try k_sweep); (try dsimp only); (try k_fold))))
local macro_rules | `(tactic| walk_at "call ref") => `(tactic| (k_here; (with_reducible show wpAny _ _ (call (Value.ref 188) [Value.int _ _, Value.int _ _]) _ _ _); k_dflt (refine' Mine.cx_use (Mine.lnear_T _ _ _ _ _ _ _ _ _ ?h0 ?hn ?bn ?bd) ?k1 ?k2 ?k3 ?k4 ?k5 ?kK ?kd ?ku ?_; (case k1 => first | k_asm | fail "cx: below"); (case k2 => first | k_asm | fail "cx: frame"); (case k3 => first | k_asm | fail "cx: part"); (case k4 => first | k_asm | fail "cx: news"); (case k5 => first | k_asm | fail "cx: top"); (case kK => first | exact rfl | assumption | fail "cx: kind"); (case kd => first | ktr_room | fail "cx: room"); (case ku => first | ktr_units | fail "cx: units"); (case h0 => first | assumption | omega); (case hn => first | assumption | omega); (case bn => first | assumption | omega); (case bd => first | assumption | omega)); k_dflt (intro a' b' t' u' D' c' h' tk' e1' F' N' l1'; (try simp only [AllLt, and_true] at l1'); (try k_sweep); (try dsimp only); (try k_fold))))
local macro_rules | `(tactic| walk_at "call ref") => `(tactic| (k_here; (with_reducible show wpAny _ _ (call (Value.ref 195) [Value.int _ _, Value.int _ _]) _ _ _); k_dflt (refine' Mine.cx_use (Mine.lcommon_T _ _ _ _ _ _ _ _ _ ?h0 ?hb ?ha1 ?hb1) ?k1 ?k2 ?k3 ?k4 ?k5 ?kK ?kd ?ku ?_; (case k1 => first | k_asm | fail "cx: below"); (case k2 => first | k_asm | fail "cx: frame"); (case k3 => first | k_asm | fail "cx: part"); (case k4 => first | k_asm | fail "cx: news"); (case k5 => first | k_asm | fail "cx: top"); (case kK => first | exact rfl | assumption | fail "cx: kind"); (case kd => first | ktr_room | fail "cx: room"); (case ku => first | ktr_units | fail "cx: units"); (case h0 => first | assumption | omega); (case hb => first | assumption | omega); (case ha1 => first | assumption | omega); (case hb1 => first | assumption | omega)); k_dflt (intro v' t' h' tk' e1' F' N'; (try k_sweep); (try dsimp only); (try k_fold))))
local macro_rules | `(tactic| walk_at "call ref") => `(tactic| (k_here; (with_reducible show wpAny _ _ (call (Value.ref 202) [Value.str _ _]) _ _ _); k_dflt (refine' Mine.cx_use (Mine.lread_T _ _ _ _ _ _ _ _ _ ?hR) ?k1 ?k2 ?k3 ?k4 ?k5 ?kK ?kd ?ku ?_; (case k1 => first | k_asm | fail "cx: below"); (case k2 => first | k_asm | fail "cx: frame"); (case k3 => first | k_asm | fail "cx: part"); (case k4 => first | k_asm | fail "cx: news"); (case k5 => first | k_asm | fail "cx: top"); (case kK => first | exact rfl | assumption | fail "cx: kind"); (case kd => first | ktr_room | fail "cx: room"); (case ku => first | ktr_units | fail "cx: units"); (case hR => assumption)); k_dflt (intro a' b' t' u' D' c' h' tk' e1' F' N' l1'; (try (obtain ⟨e1', e2'⟩ := e1'; subst e1'; subst e2')); (try simp only [AllLt, and_true] at l1'); (try k_sweep); (try dsimp only); (try k_fold))))
namespace Mine
/-- how fractional answers v, which stands for n/d -/
abbrev RetF (news : List (Addr × Obj)) (n d : Int) := RetS news fun y => ∃ a b c q B, DblP n d a b ∧ Said y B a b c q
theorem cx_imp {w : World} {mean : ExcName → Option Value} {mg mb : Str → Option Value} {f : Addr} {news : List (Addr × Obj)} {k : Nat} {vs : List Value} {P P' : Str → Prop}
    (C : Cx w mean mg mb f news k vs (RetS news P)) (h : ∀ y, P y → P' y) : Cx w mean mg mb f news k vs (RetS news P') :=
  fun dp un gd cn cs a ccd cl outer A₀ base h₀ L m s Q E B F X N T hk hd hu R =>
    C dp un gd cn cs a ccd cl outer A₀ base h₀ L m s Q E B F X N T hk hd hu fun v t h' tk' hP F' N' => R v t h' tk' (h v hP) F' N'
theorem dbl_said {n d a b : Int} (h0 : 0 < d) (hs : (n.natAbs : Int) < 10 ^ 9 * d) (D : DblP n d a b) : 0 < b ∧ (a.natAbs : Int) < 10 ^ 12 * b := by
  have hb := D.2.1
  have E := dbl_err h0 D
  refine ⟨hb, ?_⟩
  have e1 : (n.natAbs : Int) * b ≤ 10 ^ 9 * d * b := Int.mul_le_mul_of_nonneg_right (by omega) (by omega)
  have e2 : ((a * d).natAbs : Int) ≤ 2 * (n.natAbs * b) := by
    have : ((n * b).natAbs : Int) = n.natAbs * b := by
      rw [Int.natAbs_mul, Int.natCast_mul]
      have : (b.natAbs : Int) = b := by omega
      rw [this]
    omega
  have e3 : ((a * d).natAbs : Int) = a.natAbs * d := by
    rw [Int.natAbs_mul, Int.natCast_mul]
    have : (d.natAbs : Int) = d := by omega
    rw [this]
  have e4 : (a.natAbs : Int) * d < 10 ^ 12 * b * d := by
    have x1 : (10 : Int) ^ 9 * d * b = 10 ^ 9 * (b * d) := by grind
    have x2 : (10 : Int) ^ 12 * b * d = 10 ^ 12 * (b * d) := by grind
    have x3 : 0 < b * d := Int.mul_pos hb h0
    omega
  exact Int.lt_of_mul_lt_mul_right e4 (by omega)
theorem fracD_T (w : World) (mean mg mb) (news) (n d a b : Int) (t u k1 k2 : Tok) (x dx : Addr) (hx : (x, instObj 116 dx) ∈ news) (hdx : (dx, dblDict w.params a b t u k1 k2) ∈ news)
    (D : DblP n d a b) (h0 : 0 < d) (bn : intBits n ≤ 60) (bd : intBits d ≤ 60) (hs : (n.natAbs : Int) < 10 ^ 9 * d) : Cx w mean mg mb 181 news 50 [.ref x] (RetS news fun y => ∃ c q B, Said y B a b c q) :=
  cx_imp (frac_T w mean mg mb news _ _ (dblD_T w mean mg mb news a b t u k1 k2 x dx hx hdx (numP_of h0 bn bd (by omega) D))) fun y ⟨a', b', ⟨e1, e2⟩, hF⟩ => by
    subst e1 e2
    have := dbl_said h0 hs D
    exact said_of this.1 this.2 hF
theorem fracI_T (w : World) (mean mg mb) (news) (n : Int) (t : Tok) (hn : n.natAbs < 10 ^ 12) : Cx w mean mg mb 181 news 50 [.int n t] (RetS news fun y => y = iS n) :=
  cx_imp (frac_T w mean mg mb news _ _ (dblCI w mean mg mb news n t (intBits_le_iff.mpr (by omega)) (by omega))) fun y ⟨a', b', hD, hF⟩ => said_int (by omega) hD hF
theorem fracSI_T (w : World) (mean mg mb) (news) (x : Str) (n : Int) (t : Tok) (hn : n.natAbs < 10 ^ 12) (h : ReadsNum x n 1) : Cx w mean mg mb 181 news 50 [.str x t] (RetS news fun y => y = iS n) :=
  cx_imp (frac_T w mean mg mb news _ _ (dblCS w mean mg mb news x t n 1 h (by decide) (intBits_le_iff.mpr (by omega)) (by decide) (by omega))) fun y ⟨a', b', hD, hF⟩ => said_int (by omega) hD hF
theorem fracSD_T (w : World) (mean mg mb) (news) (x : Str) (n d : Int) (t : Tok) (h : ReadsNum x n d) (h0 : 0 < d) (bn : intBits n ≤ 60) (bd : intBits d ≤ 60) (hs : (n.natAbs : Int) < 10 ^ 9 * d) : Cx w mean mg mb 181 news 50 [.str x t] (RetF news n d) :=
  cx_imp (frac_T w mean mg mb news _ _ (dblCS w mean mg mb news x t n d h h0 bn bd (by omega))) fun y ⟨a', b', hD, hF⟩ => by
    have := dbl_said h0 hs hD
    obtain ⟨c, q, B, hS⟩ := said_of this.1 this.2 hF
    exact ⟨a', b', c, q, B, hD, hS⟩
theorem reads_int' {x : Str} {n : Int} (e : x = iS n) (hn : n.natAbs < 10 ^ 12) : ReadsNum (Str.ofString " " ++ x) n 1 := e ▸ reads_int hn
end Mine
end
section
namespace Mine
theorem bits_add (a b : Int) : (intBits (a + b) : Int) ≤ intBits a + intBits b + 1 := by
  have h1 := bits_hi a
  have h2 := bits_hi b
  have : intBits (a + b) ≤ intBits a + intBits b + 1 := intBits_le_iff.mpr (by
    have e1 : 2 ^ intBits a ≤ 2 ^ (intBits a + intBits b) := Nat.pow_le_pow_right (by decide) (by omega)
    have e2 : 2 ^ intBits b ≤ 2 ^ (intBits a + intBits b) := Nat.pow_le_pow_right (by decide) (by omega)
    rw [Nat.pow_succ]
    omega)
  omega
theorem bits_sub (a b : Int) : (intBits (a - b) : Int) ≤ intBits a + intBits b + 1 := by
  have h1 := bits_hi a
  have h2 := bits_hi b
  have : intBits (a - b) ≤ intBits a + intBits b + 1 := intBits_le_iff.mpr (by
    have e1 : 2 ^ intBits a ≤ 2 ^ (intBits a + intBits b) := Nat.pow_le_pow_right (by decide) (by omega)
    have e2 : 2 ^ intBits b ≤ 2 ^ (intBits a + intBits b) := Nat.pow_le_pow_right (by decide) (by omega)
    rw [Nat.pow_succ]
    omega)
  omega
theorem bits_mul (a b : Int) : (intBits (a * b) : Int) ≤ intBits a + intBits b := by
  have := intBits_mul_le (Nat.le_refl (intBits a)) (Nat.le_refl (intBits b))
  omega
theorem lnear_size {n d A B : Int} (L : LNear n d A B) (bn : intBits n ≤ 60) : 0 < B ∧ intBits A ≤ 600 ∧ intBits B ≤ 210 := by
  obtain ⟨pl, H, k, e1, e2, k1, rfl, rfl, c⟩ := L
  have b1 : intBits pl ≤ 260 := by
    have h1 : intBits pl ≤ intBits (n * 2 ^ 200) := by rw [e1]; exact intBits_fdiv_le (Nat.le_refl _)
    have h2 := bits_shl n 200
    omega
  have b2 : intBits H ≤ 262 := by
    have h1 : intBits (pl.fdiv (2 ^ k.toNat)) ≤ intBits pl := intBits_fdiv_le (Nat.le_refl _)
    have h3 : intBits (1 : Int) = 1 := by decide
    have h2 := intBits_le_iff.mp (show intBits (pl.fdiv (2 ^ k.toNat)) ≤ 260 by omega)
    refine intBits_le_iff.mpr ?_
    rcases c with ⟨_, rfl⟩ | ⟨_, rfl⟩
    · omega
    · omega
  have b3 := bits_shl H k.toNat
  refine ⟨by decide, by omega, by decide +kernel⟩
theorem tell_size {n d a b c q : Int} (D : DblP n d a b) (h0 : 0 < d) (ha : 0 ≤ a) (hs : (n.natAbs : Int) < 1000000000 * d) (hb : (a.natAbs : Int) < 1000000000000 * b) (T : Tell a b c q) : intBits c ≤ 60 ∧ intBits q ≤ 60 ∧ 1 ≤ q ∧ q ≤ 1000 := by
  obtain ⟨p, N, rfl⟩ := T
  have low := nfres_low N
  have hb0 := D.2.1
  have f := fdiv_fmod_facts a b
  have f2 := f.2.2.1 hb0
  have hW := Int.fdiv_nonneg ha (show 0 ≤ b by omega)
  generalize a.fdiv b = W at *
  have hW1 : W < 1000000000000 := Int.lt_of_mul_lt_mul_right (a := b) (by omega) (by omega)
  have e1 : W * q ≤ 1000000000000 * q := Int.mul_le_mul_of_nonneg_right (by omega) (by omega)
  have e0 := Int.mul_nonneg hW (show 0 ≤ q by omega)
  exact ⟨intBits_le_iff.mpr (by omega), intBits_le_iff.mpr (by omega), by omega, by omega⟩
theorem tell_sizes {n q A0 b c d : Int} (hD : DblP n q A0 b) (hT : Tell A0 b c d) (h0 : 0 < n) (hq : 0 < q) (hs : n < 1000000000 * q) : intBits c ≤ 60 ∧ intBits d ≤ 60 ∧ 1 ≤ d ∧ d ≤ 1000 := by
  have ha := dbl_pos hq h0 hD
  have hb := hD.2.1
  have E := dbl_err hq hD
  have en : (n.natAbs : Int) = n := by omega
  have hA : (A0.natAbs : Int) < 1000000000000 * b := by
    rw [en] at E
    have e1 : n * b ≤ 1000000000 * q * b := Int.mul_le_mul_of_nonneg_right (by omega) (by omega)
    have e4 : A0 * q < 1000000000000 * b * q := by
      have x1 : (1000000000 : Int) * q * b = 1000000000 * (b * q) := by grind
      have x2 : (1000000000000 : Int) * b * q = 1000000000000 * (b * q) := by grind
      have x3 : 0 < b * q := Int.mul_pos hb hq
      omega
    have := Int.lt_of_mul_lt_mul_right e4 (by omega)
    omega
  exact tell_size hD hq (by omega) (by omega) hA hT
/-- what holds between the law's last turns -/
def LoopQ (a b c d o : Int) : Prop := ∃ A0 b0, 0 < b0 ∧ 0 < b ∧ a * b0 = A0 * b ∧ Tell A0 b0 c d ∧ o = ((a * d - c * b).natAbs : Int)
theorem loop_start {n q A B A0 b c d o x y z : Int} (hL : LNear n q A B) (hD : DblP n q A0 b) (hT : Tell A0 b c d) (ho : AbsOf o x) (hx : x = y - z) (hy : y = A * d) (hz : z = c * B) (h0 : 0 < n) (hq : 0 < q) (bn : intBits n ≤ 60) (hs : n < 1000000000 * q) :
    LoopQ A B c d o ∧ 0 < B ∧ intBits A ≤ 600 ∧ intBits B ≤ 210 ∧ intBits c ≤ 60 ∧ intBits d ≤ 60 ∧ intBits o ≤ 1000 ∧ 1 ≤ d ∧ d ≤ 1000 := by
  have s1 := lnear_size hL bn
  have ha := dbl_pos hq h0 hD
  have hb := hD.2.1
  have s2 := tell_sizes hD hT h0 hq hs
  have e := lnear_eq hq h0 hL hD
  have eo : o = ((A * d - c * B).natAbs : Int) := by
    have : o = (x.natAbs : Int) := ho
    rw [this, hx, hy, hz]
  refine ⟨⟨A0, b, hb, s1.1, e.1, hT, eo⟩, s1.1, s1.2.1, s1.2.2, s2.1, s2.2.1, ?_, s2.2.2.1, s2.2.2.2⟩
  have b1 := bits_mul A d
  have b2 := bits_mul c B
  have b3 := bits_sub (A * d) (c * B)
  have b4 : intBits o ≤ intBits (A * d - c * B) := intBits_le_of_natAbs (y := A * d - c * B) (by omega) (Nat.le_refl _)
  omega
theorem loop_lt {a b c d o k h g x y z gd ok : Int} (cc : gd < ok) (hQ : LoopQ a b c d o) (h1 : gd = g * d) (h2 : ok = o * k) (hg : AbsOf g x) (hx : x = y - z) (hy : y = a * k) (hz : z = h * b) (k1 : 1 ≤ k) (k2 : k ≤ 1000) : False := by
  obtain ⟨A0, b0, hb0, hb, e, T, eo⟩ := hQ
  have t := (tell_gap (h := h) hb0 hb e T k1 k2).1
  have eg : g = ((a * k - h * b).natAbs : Int) := by
    have : g = (x.natAbs : Int) := hg
    rw [this, hx, hy, hz]
  rw [h1, h2, eg, eo] at cc
  omega
theorem loop_eq {a b c d o k h g x y z gd ok : Int} (cc : gd = ok) (hQ : LoopQ a b c d o) (h1 : gd = g * d) (h2 : ok = o * k) (hg : AbsOf g x) (hx : x = y - z) (hy : y = a * k) (hz : z = h * b) (k1 : 1 ≤ k) (k2 : k ≤ 1000) (hk : k < d) : False := by
  obtain ⟨A0, b0, hb0, hb, e, T, eo⟩ := hQ
  have t := (tell_gap (h := h) hb0 hb e T k1 k2).2
  have eg : g = ((a * k - h * b).natAbs : Int) := by
    have : g = (x.natAbs : Int) := hg
    rw [this, hx, hy, hz]
  rw [h1, h2, eg, eo] at cc
  have := t cc
  omega
theorem loop_end {a b c d o v1 v2 : Int} (h1 : v1 = o * 2000) (h2 : v2 = b * d) (hQ : LoopQ a b c d o) : v1 ≤ v2 := by
  obtain ⟨A0, b0, hb0, hb, e, T, eo⟩ := hQ
  have := tell_off hb0 hb e T
  rw [h1, h2, eo]
  exact this
end Mine
end
section
local macro_rules | `(tactic| ktr_units) => `(tactic| ((simp only [Mine.units_make, units_in1, units_deeper, Around.mark_units, ktrTop]); (have hcL9 := cLine_is); omega))
local macro_rules | `(tactic| ktr_room) => `(tactic| ((simp only [depth_mark, depth_under_make, depth_under_kw, depth_in1, depth_deeper, ktrTop]); omega))
local macro_rules | `(tactic| bits_by_make) => `(tactic| with_reducible assumption)
local macro_rules | `(tactic| walk_at "call builtin:divmod") => `(tactic| (k_here; (with_reducible show wpAny _ _ (call (Value.builtin _) [Value.int _ _, Value.int _ _]) _ _ _); refine' divmod_N ?F ?N ?b ?_ (Or.inl (Mine.noPy ?hp)); (case F => k_asm); (case N => k_asm); (case b => omega); (case hp => omega); k_whole; intro h' F' N'; (try k_sweep)))
local macro_rules | `(tactic| walk_at "call builtin:max") => `(tactic| (k_here; (with_reducible show wpAny _ _ (call (Value.builtin _) [Value.int _ _, Value.int _ _]) _ _ _); k_dflt (refine' Mine.max_g ?hh ?F ?N ?_; (case hh => exact rfl); (case F => k_asm); (case N => k_asm); k_whole); intro v' r' h' tk' e1' e2' e3' F' N'; (first | (have e4' := Or.resolve_left e3' (by omega); clear e3') | (have e4' := Or.resolve_right e3' (by omega); clear e3') | skip); (try k_sweep)))
local macro_rules | `(tactic| walk_at "call builtin:min") => `(tactic| (k_here; (with_reducible show wpAny _ _ (call (Value.builtin _) [Value.int _ _, Value.int _ _]) _ _ _); k_dflt (refine' Mine.min_g ?hh ?F ?N ?_; (case hh => exact rfl); (case F => k_asm); (case N => k_asm); k_whole); intro v' r' h' tk' e1' e2' e3' F' N'; (first | (have e4' := Or.resolve_left e3' (by omega); clear e3') | (have e4' := Or.resolve_right e3' (by omega); clear e3') | skip); (try k_sweep)))
local macro_rules | `(tactic| walk_at "call builtin:abs") => `(tactic| (k_here; (with_reducible refine Mine.abs_g ?_); intro v' u' tk' e1' e2' e3'))
local macro_rules | `(tactic| walk_at "binaryOp LShift int int") => `(tactic| (k_here; (with_reducible refine Mine.lshift_g ?kbn ?kbs ?_); (case kbn => omega); (case kbs => omega); intro v' u' tk' e1' e2' e3'; (first | replace e2' := e2' (by omega) | clear e2')))
local macro_rules | `(tactic| walk_at "storeName") => `(tactic| (k_here; (with_reducible first | show wpAny _ _ (storeName _ _ (Value.int (HAdd.hAdd _ _) _)) _ _ _ | show wpAny _ _ (storeName _ _ (Value.int (HSub.hSub _ _) _)) _ _ _ | show wpAny _ _ (storeName _ _ (Value.int (HMul.hMul _ _) _)) _ _ _ | show wpAny _ _ (storeName _ _ (Value.int (Neg.neg _) _)) _ _ _ | show wpAny _ _ (storeName _ _ (Value.int (Int.fdiv _ _) _)) _ _ _ | show wpAny _ _ (storeName _ _ (Value.int (Int.fmod _ _) _)) _ _ _ | show wpAny _ _ (storeName _ _ (Value.int (ite _ _ _) _)) _ _ _); (refine Mine.store_g (fun v' e1' => ?_)); k_dflt (refine' storeX_L ?F ?N ?_ ?a ?b; (case F => k_asm); (case N => k_asm); (case a => rfl); (case b => rfl); k_whole; intro h' F' N'; (try k_sweep))))
local macro_rules | `(tactic| walk_at "call ref") => `(tactic| (k_here; (with_reducible show wpAny _ _ (call (Value.ref 116) _) _ _ _); k_dflt (refine' call_cls ?k1 ?k2 ?k3 ?k4 ?k5 ?k6 ?_; (case k1 => k_asm); (case k2 => k_asm); (case k3 => k_asm); (case k4 => k_is); (case k5 => k_is); (case k6 => k_is); k_whole; intro x' d' h' F' N' l1 l2; (try k_lt l1); (try k_lt2 l2); (try k_sweep); (refine' code_def ?k1 ?k2 ?k3 ?k4 ?k5 ?kA ?kF ?kK ?k6 ?k7 ?k8 ?k9 ?kB ?_ ?c2 ?c3 ?c4 ?c5; (case kA => exact rfl); (case kF => exact rfl); (case kK => first | exact rfl | assumption); (case k1 => k_asm); (case k2 => k_asm); (case k3 => k_asm); (case k4 => k_asm); (case k5 => k_asm); (case k6 => k_is); (case k7 => k_is); (case k8 => ktr_room); (case k9 => first | exact BindsTo.of_eq rfl | exact binds_K (by k_in) rfl (by k_is) rfl rfl rfl); (case c5 => decide); (case kB => exact locs rfl); (case c2 => exact rfl); (case c3 => exact rfl); (case c4 => exact rfl); k_whole; intro g' L' h' FG' F' N' B' X' T'; (try dsimp only); (try k_lift B'); (try k_fold)))))
local macro_rules | `(tactic| walk_at "binaryOp FloorDiv int int") => `(tactic| (k_here; (with_reducible refine floordiv_int ?kbn ?_ (Or.inl (Mine.noPy ?kbp))); (case kbn => omega); (case kbp => first | omega | (refine' Nat.le_trans ?ba ?bb; (case ba => bits_by_make); (case bb => omega)))))
local macro_rules | `(tactic| walk_at "binaryOp Mod int int") => `(tactic| (k_here; (with_reducible refine mod_int' ?kbn ?_); (case kbn => omega)))
local macro_rules | `(tactic| walk_at "binaryOp Mult int int") => `(tactic| (k_here; (with_reducible refine P.mul_int ?_ ?kbn); (case kbn => first | exact PySem.IntMulOk.of_left (PySem.intBits_le_64 (by omega) (by omega)) | exact PySem.IntMulOk.of_right (PySem.intBits_le_64 (by omega) (by omega)) | exact Mine.mulOk (by omega))))
local macro_rules | `(tactic| walk_at "call type:int") => `(tactic| (k_here; (with_reducible show wpAny _ _ (call (Value.type "int") [Value.ref _]) _ _ _); k_dflt (refine' Mine.int_inst ?k1 ?k2 ?k3 ?k4 ?_; (case k1 => k_in); (case k2 => k_inst); (case k3 => k_is); (case k4 => k_is); k_whole)))
local macro_rules | `(tactic| k_mem) => `(tactic| assumption)
local macro_rules | `(tactic| walk_at "formatField int") => `(tactic| (k_here; (with_reducible refine Mine.fmt_g ?kbn ?_); (case kbn => first | omega | exact Mine.absBd (by assumption) (by omega)); intro v' u' tk' e1' e2'))
local macro_rules | `(tactic| walk_at "call ref") => `(tactic| (k_here; (with_reducible show wpAny _ _ (call (Value.ref 28) [Value.int _ _, Value.int _ _]) _ _ _); k_dflt (refine' Mine.cx_use (Mine.rounded_T _ _ _ _ _ _ _ _ _ ?h0 ?hd) ?k1 ?k2 ?k3 ?k4 ?k5 ?kK ?kd ?ku ?_; (case k1 => first | k_asm | fail "cx: below"); (case k2 => first | k_asm | fail "cx: frame"); (case k3 => first | k_asm | fail "cx: part"); (case k4 => first | k_asm | fail "cx: news"); (case k5 => first | k_asm | fail "cx: top"); (case kK => first | exact rfl | assumption | fail "cx: kind"); (case kd => first | ktr_room | fail "cx: room"); (case ku => first | ktr_units | fail "cx: units"); (case h0 => first | assumption | omega); (case hd => first | assumption | omega)); k_dflt (intro v' t' h' tk' e1' F' N'; obtain ⟨e1', e2'⟩ := e1'; (try k_sweep); (try dsimp only); (try k_fold))))
local macro_rules | `(tactic| walk_at "call ref") => `(tactic| (k_here; (with_reducible show wpAny _ _ (call (Value.ref 35) [Value.int _ _, Value.int _ _]) _ _ _); k_dflt (refine' Mine.cx_use (Mine.nearest_T _ _ _ _ _ _ _ _ _ ?h0 ?hn0 ?hn ?hd) ?k1 ?k2 ?k3 ?k4 ?k5 ?kK ?kd ?ku ?_; (case k1 => first | k_asm | fail "cx: below"); (case k2 => first | k_asm | fail "cx: frame"); (case k3 => first | k_asm | fail "cx: part"); (case k4 => first | k_asm | fail "cx: news"); (case k5 => first | k_asm | fail "cx: top"); (case kK => first | exact rfl | assumption | fail "cx: kind"); (case kd => first | ktr_room | fail "cx: room"); (case ku => first | ktr_units | fail "cx: units"); (case h0 => first | assumption | omega); (case hn0 => first | assumption | omega); (case hn => first | assumption | omega); (case hd => first | assumption | omega)); k_dflt (intro a' b' t' u' D' c' h' tk' e1' F' N' l1'; (try simp only [AllLt, and_true] at l1'); (try k_sweep); (try dsimp only); (try k_fold))))
local macro_rules | `(tactic| walk_at "call ref") => `(tactic| (k_here; (with_reducible show wpAny _ _ (call (Value.ref 71) [Value.ref _]) _ _ _); k_dflt (refine' Mine.cx_use (Mine.dint_T _ _ _ _ _ _ _ _ _ _ _ _ _ ?hx ?hdx ?h0 ?hb) ?k1 ?k2 ?k3 ?k4 ?k5 ?kK ?kd ?ku ?_; (case k1 => first | k_asm | fail "cx: below"); (case k2 => first | k_asm | fail "cx: frame"); (case k3 => first | k_asm | fail "cx: part"); (case k4 => first | k_asm | fail "cx: news"); (case k5 => first | k_asm | fail "cx: top"); (case kK => first | exact rfl | assumption | fail "cx: kind"); (case kd => first | ktr_room | fail "cx: room"); (case ku => first | ktr_units | fail "cx: units"); (case hx => first | assumption | k_mem); (case hdx => first | assumption | k_mem); (case h0 => omega); (case hb => omega)); k_dflt (intro v' t' h' tk' e1' F' N'; (try k_sweep); (try dsimp only [Mine.IntBack]); (try k_fold))))
local macro_rules | `(tactic| walk_at "call ref") => `(tactic| (k_here; (with_reducible show wpAny _ _ (call (Value.ref 42) [Value.ref _]) _ _ _); k_dflt (refine' Mine.cx_use (Mine.parts_T _ _ _ _ _ _ _ _ _ _ _ _ _ ?hx ?hdx) ?k1 ?k2 ?k3 ?k4 ?k5 ?kK ?kd ?ku ?_; (case k1 => first | k_asm | fail "cx: below"); (case k2 => first | k_asm | fail "cx: frame"); (case k3 => first | k_asm | fail "cx: part"); (case k4 => first | k_asm | fail "cx: news"); (case k5 => first | k_asm | fail "cx: top"); (case kK => first | exact rfl | assumption | fail "cx: kind"); (case kd => first | ktr_room | fail "cx: room"); (case ku => first | ktr_units | fail "cx: units"); (case hx => first | assumption | k_mem); (case hdx => first | assumption | k_mem)); k_dflt (intro a' b' t' u' D' c' h' tk' e1' F' N' l1'; obtain ⟨e1', e2'⟩ := e1'; subst e1'; subst e2'; (try simp only [AllLt, and_true] at l1'); (try k_sweep); (try dsimp only); (try k_fold))))
local macro_rules | `(tactic| walk_at "call ref") => `(tactic| (k_here; (with_reducible show wpAny _ _ (call (Value.ref 116) [Value.int _ _, Value.int _ _]) _ _ _); k_dflt (refine' Mine.cx_use (Mine.Double_T _ _ _ _ _ _ _ _ _ ?h0 ?hn ?hd) ?k1 ?k2 ?k3 ?k4 ?k5 ?kK ?kd ?ku ?_; (case k1 => first | k_asm | fail "cx: below"); (case k2 => first | k_asm | fail "cx: frame"); (case k3 => first | k_asm | fail "cx: part"); (case k4 => first | k_asm | fail "cx: news"); (case k5 => first | k_asm | fail "cx: top"); (case kK => first | exact rfl | assumption | fail "cx: kind"); (case kd => first | ktr_room | fail "cx: room"); (case ku => first | ktr_units | fail "cx: units"); (case h0 => first | omega | exact Int.mul_pos (by assumption) (by assumption)); (case hn => first | assumption | omega | (refine' Nat.le_trans ?ba ?bb; (case ba => bits_by_make); (case bb => omega))); (case hd => first | assumption | omega | (refine' Nat.le_trans ?ba ?bb; (case ba => bits_by_make); (case bb => omega)))); k_dflt (intro a' b' t' u' k1' k2' x' d' h' tk' e1' F' N' l1' l2'; obtain ⟨e1', e2', e3', e4'⟩ := e1'; (try simp only [AllLt, and_true] at l1'); (try k_lt2 l2'); (try k_sweep); (try dsimp only); (try k_fold))))
local macro_rules | `(tactic| walk_at "call ref") => `(tactic| (k_here; (with_reducible show wpAny _ _ (call (Value.ref 116) [Value.int _ _]) _ _ _); k_dflt (refine' Mine.cx_use (Mine.Double1_T _ _ _ _ _ _ _ ?hn) ?k1 ?k2 ?k3 ?k4 ?k5 ?kK ?kd ?ku ?_; (case k1 => first | k_asm | fail "cx: below"); (case k2 => first | k_asm | fail "cx: frame"); (case k3 => first | k_asm | fail "cx: part"); (case k4 => first | k_asm | fail "cx: news"); (case k5 => first | k_asm | fail "cx: top"); (case kK => first | exact rfl | assumption | fail "cx: kind"); (case kd => first | ktr_room | fail "cx: room"); (case ku => first | ktr_units | fail "cx: units"); (case hn => first | assumption | omega)); k_dflt (intro a' b' t' u' k1' k2' x' d' h' tk' e1' F' N' l1' l2'; obtain ⟨e1', e2', e3', e4'⟩ := e1'; (try simp only [AllLt, and_true] at l1'); (try k_lt2 l2'); (try k_sweep); (try dsimp only); (try k_fold))))
local macro_rules | `(tactic| walk_at "call ref") => `(tactic| (k_here; (with_reducible show wpAny _ _ (call (Value.ref 134) [Value.ref _]) _ _ _); k_dflt (refine' Mine.cx_use (Mine.isfin_T _ _ _ _ _ _ _ _ _ _ _ _ _ ?hx ?hdx ?h0) ?k1 ?k2 ?k3 ?k4 ?k5 ?kK ?kd ?ku ?_; (case k1 => first | k_asm | fail "cx: below"); (case k2 => first | k_asm | fail "cx: frame"); (case k3 => first | k_asm | fail "cx: part"); (case k4 => first | k_asm | fail "cx: news"); (case k5 => first | k_asm | fail "cx: top"); (case kK => first | exact rfl | assumption | fail "cx: kind"); (case kd => first | ktr_room | fail "cx: room"); (case ku => first | ktr_units | fail "cx: units"); (case hx => first | assumption | k_mem); (case hdx => first | assumption | k_mem); (case h0 => omega)); k_dflt (intro h' tk' F' N'; (try k_sweep); (try dsimp only); (try k_fold))))
local macro_rules | `(tactic| walk_at "call ref") => `(tactic| (k_here; (with_reducible show wpAny _ _ (call (Value.ref 127) [Value.int _ _]) _ _ _); k_dflt (refine' Mine.cx_use (Mine.dblI_T _ _ _ _ _ _ _ ?hn) ?k1 ?k2 ?k3 ?k4 ?k5 ?kK ?kd ?ku ?_; (case k1 => first | k_asm | fail "cx: below"); (case k2 => first | k_asm | fail "cx: frame"); (case k3 => first | k_asm | fail "cx: part"); (case k4 => first | k_asm | fail "cx: news"); (case k5 => first | k_asm | fail "cx: top"); (case kK => first | exact rfl | assumption | fail "cx: kind"); (case kd => first | ktr_room | fail "cx: room"); (case ku => first | ktr_units | fail "cx: units"); (case hn => first | assumption | omega)); k_dflt (intro a' b' t' u' k1' k2' x' d' h' tk' e1' F' N' l1' l2'; obtain ⟨e1', e2', e3', e4'⟩ := e1'; (try simp only [AllLt, and_true] at l1'); (try k_lt2 l2'); (try k_sweep); (try dsimp only); (try k_fold))))
local macro_rules | `(tactic| walk_at "call ref") => `(tactic| (k_here; (with_reducible show wpAny _ _ (call (Value.ref 106) [Value.ref _, Value.int _ _]) _ _ _); k_dflt (refine' Mine.cx_use (Mine.sub_T _ _ _ _ _ _ _ _ _ _ _ _ _ _ _ ?hx ?hdx ?h0 ?ha ?hb ?hn) ?k1 ?k2 ?k3 ?k4 ?k5 ?kK ?kd ?ku ?_; (case k1 => first | k_asm | fail "cx: below"); (case k2 => first | k_asm | fail "cx: frame"); (case k3 => first | k_asm | fail "cx: part"); (case k4 => first | k_asm | fail "cx: news"); (case k5 => first | k_asm | fail "cx: top"); (case kK => first | exact rfl | assumption | fail "cx: kind"); (case kd => first | ktr_room | fail "cx: room"); (case ku => first | ktr_units | fail "cx: units"); (case hx => first | assumption | k_mem); (case hdx => first | assumption | k_mem); (case h0 => omega); (case ha => first | assumption | omega); (case hb => first | assumption | omega); (case hn => first | assumption | omega | ((rename (_ = Mine.trn _ _) => e9'); rw [e9']; omega))); k_dflt (intro a' b' t' u' k1' k2' x' d' h' tk' e1' F' N' l1' l2'; (try (replace e1' := Mine.frac_part (by assumption) (by assumption) e1'; (have e2' := e1'); obtain ⟨e3', e4', e5', e6'⟩ := e2')); (try simp only [AllLt, and_true] at l1'); (try k_lt2 l2'); (try k_sweep); (try dsimp only); (try dsimp only [PySem.W.CmpBack]); (try (refine ⟨rfl, ?_⟩)); (try (refine handed_on rfl ?_)); (try dsimp only); (try k_fold))))
local macro_rules | `(tactic| walk_at "call ref") => `(tactic| (k_here; (with_reducible show wpAny _ _ (call (Value.ref 167) [Value.ref _, Value.int 1000 _]) _ _ _); k_dflt (refine' Mine.cx_use (Mine.nf_T _ _ _ _ _ _ _ _ _ _ _ _ _ _ _ ?hx ?hdx (show Mine.AbsOf _ _ from rfl) ?hn0 ?hnb ?h0 ?hb) ?k1 ?k2 ?k3 ?k4 ?k5 ?kK ?kd ?ku ?_; (case k1 => first | k_asm | fail "cx: below"); (case k2 => first | k_asm | fail "cx: frame"); (case k3 => first | k_asm | fail "cx: part"); (case k4 => first | k_asm | fail "cx: news"); (case k5 => first | k_asm | fail "cx: top"); (case kK => first | exact rfl | assumption | fail "cx: kind"); (case kd => first | ktr_room | fail "cx: room"); (case ku => first | ktr_units | fail "cx: units"); (case hx => first | assumption | k_mem); (case hdx => first | assumption | k_mem); (case hn0 => omega); (case hnb => omega); (case h0 => omega); (case hb => omega)); k_dflt (intro a' b' t' u' D' c' h' tk' e1' F' N' l1'; (obtain ⟨p', e1', e2'⟩ := e1'); (have e3' := Mine.nfres_bd e1' e2'); (obtain ⟨e3', e4', e5', e6', e7'⟩ := e3'); (try simp only [AllLt, and_true] at l1'); (try k_sweep); (try dsimp only); (try k_fold))))
local macro_rules | `(tactic| walk_at "call ref") => `(tactic| (k_here; (with_reducible show wpAny _ _ (call (Value.ref 153) [Value.str _ _]) _ _ _); k_dflt (refine' Mine.cx_use (Mine.plain_T _ _ _ _ _ _ _ ?hx ?h0 ?hd) ?k1 ?k2 ?k3 ?k4 ?k5 ?kK ?kd ?ku ?_; (case k1 => first | k_asm | fail "cx: below"); (case k2 => first | k_asm | fail "cx: frame"); (case k3 => first | k_asm | fail "cx: part"); (case k4 => first | k_asm | fail "cx: news"); (case k5 => first | k_asm | fail "cx: top"); (case kK => first | exact rfl | assumption | fail "cx: kind"); (case kd => first | ktr_room | fail "cx: room"); (case ku => first | ktr_units | fail "cx: units"); (case hx => first | assumption | omega); (case h0 => assumption); (case hd => assumption)); k_dflt (intro h' tk' F' N'; (try k_sweep); (try dsimp only); (try k_fold))))
local macro_rules | `(tactic| walk_at "call ref") => `(tactic| (k_here; (with_reducible show wpAny _ _ (call (Value.ref 188) [Value.int _ _, Value.int _ _]) _ _ _); k_dflt (refine' Mine.cx_use (Mine.lnear_T _ _ _ _ _ _ _ _ _ ?h0 ?hn ?bn ?bd) ?k1 ?k2 ?k3 ?k4 ?k5 ?kK ?kd ?ku ?_; (case k1 => first | k_asm | fail "cx: below"); (case k2 => first | k_asm | fail "cx: frame"); (case k3 => first | k_asm | fail "cx: part"); (case k4 => first | k_asm | fail "cx: news"); (case k5 => first | k_asm | fail "cx: top"); (case kK => first | exact rfl | assumption | fail "cx: kind"); (case kd => first | ktr_room | fail "cx: room"); (case ku => first | ktr_units | fail "cx: units"); (case h0 => first | assumption | omega); (case hn => first | assumption | omega); (case bn => first | assumption | omega); (case bd => first | assumption | omega)); k_dflt (intro a' b' t' u' D' c' h' tk' e1' F' N' l1'; (try simp only [AllLt, and_true] at l1'); (try k_sweep); (try dsimp only); (try k_fold))))
local macro_rules | `(tactic| walk_at "call ref") => `(tactic| (k_here; (with_reducible show wpAny _ _ (call (Value.ref 195) [Value.int _ _, Value.int _ _]) _ _ _); k_dflt (refine' Mine.cx_use (Mine.lcommon_T _ _ _ _ _ _ _ _ _ ?h0 ?hb ?ha1 ?hb1) ?k1 ?k2 ?k3 ?k4 ?k5 ?kK ?kd ?ku ?_; (case k1 => first | k_asm | fail "cx: below"); (case k2 => first | k_asm | fail "cx: frame"); (case k3 => first | k_asm | fail "cx: part"); (case k4 => first | k_asm | fail "cx: news"); (case k5 => first | k_asm | fail "cx: top"); (case kK => first | exact rfl | assumption | fail "cx: kind"); (case kd => first | ktr_room | fail "cx: room"); (case ku => first | ktr_units | fail "cx: units"); (case h0 => first | assumption | omega); (case hb => first | assumption | omega); (case ha1 => first | assumption | omega); (case hb1 => first | assumption | omega)); k_dflt (intro v' t' h' tk' e1' F' N'; (try k_sweep); (try dsimp only); (try k_fold))))
local macro_rules | `(tactic| walk_at "call ref") => `(tactic| (k_here; (with_reducible show wpAny _ _ (call (Value.ref 202) [Value.str _ _]) _ _ _); k_dflt (refine' Mine.cx_use (Mine.lread_T _ _ _ _ _ _ _ _ _ ?hR) ?k1 ?k2 ?k3 ?k4 ?k5 ?kK ?kd ?ku ?_; (case k1 => first | k_asm | fail "cx: below"); (case k2 => first | k_asm | fail "cx: frame"); (case k3 => first | k_asm | fail "cx: part"); (case k4 => first | k_asm | fail "cx: news"); (case k5 => first | k_asm | fail "cx: top"); (case kK => first | exact rfl | assumption | fail "cx: kind"); (case kd => first | ktr_room | fail "cx: room"); (case ku => first | ktr_units | fail "cx: units"); (case hR => assumption)); k_dflt (intro a' b' t' u' D' c' h' tk' e1' F' N' l1'; (try (obtain ⟨e1', e2'⟩ := e1'; subst e1'; subst e2')); (try simp only [AllLt, and_true] at l1'); (try k_sweep); (try dsimp only); (try k_fold))))
local macro_rules | `(tactic| walk_at "call ref") => `(tactic| (k_here; (with_reducible show wpAny _ _ (call (Value.ref 181) [Value.ref _]) _ _ _); k_dflt (refine' Mine.cx_use (Mine.fracD_T _ _ _ _ _ _ _ _ _ _ _ _ _ _ _ ?hx ?hdx ?hD ?h0 ?bn ?bd ?hs) ?k1 ?k2 ?k3 ?k4 ?k5 ?kK ?kd ?ku ?_; (case k1 => first | k_asm | fail "cx: below"); (case k2 => first | k_asm | fail "cx: frame"); (case k3 => first | k_asm | fail "cx: part"); (case k4 => first | k_asm | fail "cx: news"); (case k5 => first | k_asm | fail "cx: top"); (case kK => first | exact rfl | assumption | fail "cx: kind"); (case kd => first | ktr_room | fail "cx: room"); (case ku => first | ktr_units | fail "cx: units"); (case hx => first | assumption | k_mem); (case hdx => first | assumption | k_mem); (case hD => with_reducible assumption); (case h0 => first | assumption | omega); (case bn => first | assumption | omega); (case bd => first | assumption | omega); (case hs => first | assumption | omega)); k_dflt (intro v' t' h' tk' e1' F' N'; (try k_sweep); (try dsimp only); (try k_fold))))
local macro_rules | `(tactic| walk_at "call ref") => `(tactic| (k_here; (with_reducible show wpAny _ _ (call (Value.ref 181) [Value.int _ _]) _ _ _); k_dflt (refine' Mine.cx_use (Mine.fracI_T _ _ _ _ _ _ _ ?hn) ?k1 ?k2 ?k3 ?k4 ?k5 ?kK ?kd ?ku ?_; (case k1 => first | k_asm | fail "cx: below"); (case k2 => first | k_asm | fail "cx: frame"); (case k3 => first | k_asm | fail "cx: part"); (case k4 => first | k_asm | fail "cx: news"); (case k5 => first | k_asm | fail "cx: top"); (case kK => first | exact rfl | assumption | fail "cx: kind"); (case kd => first | ktr_room | fail "cx: room"); (case ku => first | ktr_units | fail "cx: units"); (case hn => first | assumption | omega)); k_dflt (intro v' t' h' tk' e1' F' N'; subst e1'; (try k_sweep); (try dsimp only); (try k_fold))))
local macro_rules | `(tactic| walk_at "call ref") => `(tactic| (k_here; (with_reducible show wpAny _ _ (call (Value.ref 181) [Value.str _ _]) _ _ _); k_dflt (refine' Mine.cx_use (Mine.fracSI_T _ _ _ _ _ _ _ _ ?hn ?hR) ?k1 ?k2 ?k3 ?k4 ?k5 ?kK ?kd ?ku ?_; (case k1 => first | k_asm | fail "cx: below"); (case k2 => first | k_asm | fail "cx: frame"); (case k3 => first | k_asm | fail "cx: part"); (case k4 => first | k_asm | fail "cx: news"); (case k5 => first | k_asm | fail "cx: top"); (case kK => first | exact rfl | assumption | fail "cx: kind"); (case kd => first | ktr_room | fail "cx: room"); (case ku => first | ktr_units | fail "cx: units"); (case hR => first | with_reducible assumption | exact Mine.reads_int' (by with_reducible assumption) (by with_reducible assumption)); (case hn => first | with_reducible assumption | omega)); k_dflt (intro v' t' h' tk' e1' F' N'; subst e1'; (try k_sweep); (try dsimp only); (try k_fold))))
namespace Mine
section
variable {prog : Program} {w : World} {A : Around} {E : Value → Shared → Prop} {s : Shared} {h₀ : Heap} {L l : Addr} {m : Str → Option Value} {news : List (Addr × Obj)} {value slice : PySem.Expr} {vs : List Value} {ns : List Int} {u : Tok} {Q : Value → Shared → Prop}
theorem row_slice (F : Fr h₀ L s.heap m) (N : News h₀ L s.heap news) (hl : s.heap.IsList l vs.toArray) (hi' : IntsAre vs (ns ++ (List.replicate (Int.toNat 15) [(0 : Int)]).flatten)) (hn : ns.length ≤ 63)
    (h : ∀ D ws ms h', Fr h₀ L h' m → News h₀ L h' [(D, W.listOf (List.toArray ws) 0)] → IntsAre ws ms → ms.length = 15 → Q (.ref D) { s with heap := h' })
    (hs : subscripted slice false (.ref l) (.ref s.heap.objs.size) = operate [.ref s.heap.objs.size, .ref l] (getItem (.ref l) (.ref s.heap.objs.size))) (ht : ∀ r, letTemporaryGo value (.ref l) r = pure ()) :
    wpAny (model prog w) A (subscriptTail value slice (.ref l) (.ref s.heap.objs.size)) Q E { s with heap := s.heap.push { cls := .type "slice", data := .fields #[.none, .int 15 u, .none] } } := by
  have e15 : (List.replicate (Int.toNat 15) [(0 : Int)]).flatten.length = 15 := by decide
  refine kmk_slice_ints F N hl IsPart.none (IsPart.int _ _) hi' (kmk_upto hi' (by decide)) rfl (fun D ws h' F' N' l1 hI hC hL => h D ws _ h' F' (cb_drop N' (sub_cons fun _ h => nomatch h)) hI ?_) hs ht ?_
  · rw [List.length_take, List.length_append, e15]
    show min 15 _ = 15
    omega
  · rw [List.size_toArray, hi'.length, List.length_append, e15]
    have : sizeLine = sizeLine := rfl
    exact Nat.le_trans (show ns.length + 15 ≤ 100 by omega) (by decide +kernel)
theorem mod_g {a b : Int} {t u : Tok} (hb : 0 < b) (h : ∀ (v : Int) u tk, v = a.fmod b → 0 ≤ v → v < b → Q (.int v u) { s with toks := tk }) :
    wpAny (model prog w) A (binaryOp .Mod (.int a t) (.int b u)) Q E s :=
  mod_int' (by omega) (h _ _ _ rfl (Int.fmod_nonneg_of_pos _ hb) (Int.fmod_lt_of_pos _ hb))
/-- the sign that the law draws -/
def SgOf (sg p : Int) : Prop := sg = 1 ∨ (sg = -1 ∧ 0 < p)
/-- hidden, so that the walk halts there -/
structure Halt (P : Prop) : Prop where
  out : P
/-- a value's ways meet: the frame and the ledger stand -/
theorem cut_v {t : Sem Value} (V : Value → Prop) (F : Fr h₀ L s.heap m) (N : News h₀ L s.heap news)
    (h1 : wpAny (model prog w) A t (fun v s' => Halt (V v ∧ ∃ h' tk, s' = { s with heap := h', toks := tk } ∧ Fr h₀ L h' m ∧ News h₀ L h' news)) E s)
    (h2 : ∀ v h' tk, V v → Fr h₀ L h' m → News h₀ L h' news → Q v { s with heap := h', toks := tk }) : wpAny (model prog w) A t Q E s :=
  wpAny_mono h1 (fun v s' ⟨⟨hV, h', tk, e, F', N'⟩⟩ => by subst e; exact h2 v h' tk hV F' N') fun _ _ h => h
theorem cut_sign {t : Sem Value} {p a b : Int} (hp : p = Int.fmod a (1000 * b)) (F : Fr h₀ L s.heap m) (N : News h₀ L s.heap news)
    (h1 : wpAny (model prog w) A t (fun v s' => Halt ((∃ sg t, v = .int sg t ∧ SgOf sg p) ∧ ∃ h' tk, s' = { s with heap := h', toks := tk } ∧ Fr h₀ L h' m ∧ News h₀ L h' news)) E s)
    (h2 : ∀ sg t h' tk, SgOf sg p → Fr h₀ L h' m → News h₀ L h' news → Q (.int sg t) { s with heap := h', toks := tk }) : wpAny (model prog w) A t Q E s :=
  cut_v _ F N h1 fun v h' tk ⟨sg, t, e, hS⟩ F' N' => by subst e; exact h2 sg t h' tk hS F' N'
theorem cut_next {t : Sem Flow} {Q : Flow → Shared → Prop} (F : Fr h₀ L s.heap m) (N : News h₀ L s.heap news)
    (h1 : wpAny (model prog w) A t (fun v s' => Halt (v = .next ∧ ∃ h' tk, s' = { s with heap := h', toks := tk } ∧ Fr h₀ L h' m ∧ News h₀ L h' news)) E s)
    (h2 : ∀ h' tk, Fr h₀ L h' m → News h₀ L h' news → Q .next { s with heap := h', toks := tk }) : wpAny (model prog w) A t Q E s :=
  wpAny_mono h1 (fun v s' ⟨⟨hV, h', tk, e, F', N'⟩⟩ => by subst e hV; exact h2 h' tk F' N') fun _ _ h => h
end
theorem bits_small {x : Int} (h : -(2 ^ 50) < x ∧ x < 2 ^ 50) : intBits x ≤ 60 := intBits_le_iff.mpr (by omega)
theorem sg_bits {sg p : Int} (h : SgOf sg p) (h0 : 0 ≤ p) (h1 : p < 2 ^ 50) : intBits (sg * p) ≤ 60 := by
  refine intBits_le_iff.mpr ?_
  rcases h with rfl | ⟨rfl, _⟩
  · rw [Int.one_mul]; omega
  · rw [Int.neg_mul, Int.one_mul]; omega
theorem sg_abs {sg p : Int} (h : SgOf sg p) (h0 : 0 ≤ p) : ((sg * p).natAbs : Int) = p := by
  rcases h with rfl | ⟨rfl, _⟩
  · rw [Int.one_mul]; omega
  · rw [Int.neg_mul, Int.one_mul]; omega
/-- what the first text tells -/
def OwnIs (x B : Str) (sg c d : Int) : Prop := ReadsTo B c d ∧ x.length ≤ 60 ∧ ((sg = 1 ∧ x = B) ∨ (sg = -1 ∧ Txt.slice x (some 1) none = B ∧ (Txt.slice x none (some 1) != Str.ofString "-") = false))
theorem own_is {x B : Str} {sg p q a b c d : Int} (hS : Said x B a b c d) (D : DblP (sg * p) q a b) (hg : SgOf sg p) (h0 : 0 ≤ p) (h1 : p < 1000 * q) (q1 : 1 ≤ q) (q2 : q ≤ 1000) : OwnIs x B sg c d ∧ c * q = p * d := by
  obtain ⟨T, R, c0, xl, cs⟩ := hS
  rcases hg with rfl | ⟨rfl, pp⟩
  · rw [Int.one_mul] at D
    have ha : 0 ≤ a := by
      rcases Int.lt_or_le 0 p with z | z
      · exact Int.le_of_lt (dbl_pos (by omega) z D)
      · have : p = 0 := by omega
        subst this
        rcases D.1 with ⟨_, e, _⟩ | ⟨e, _⟩
        · omega
        · exact absurd rfl e
    have ea : (a.natAbs : Int) = a := by omega
    rw [ea] at T
    refine ⟨⟨R, xl, .inl ⟨rfl, ?_⟩⟩, tell_back q1 q2 h0 h1 D T⟩
    rcases cs with ⟨e, _⟩ | ⟨_, _, _, e, _⟩
    · exact e
    · omega
  · rw [Int.neg_mul, Int.one_mul] at D
    have D' := dbl_neg (by omega) D
    have ha := dbl_pos (by omega) pp D'
    have ea : (a.natAbs : Int) = -a := by omega
    rw [ea] at T
    have tb := tell_back q1 q2 h0 h1 D' T
    have cp : 0 < c := by
      have dq := (tell_q T).1
      have := Int.mul_pos pp (show 0 < d by omega)
      rcases Int.lt_or_le 0 c with z | z
      · exact z
      · have : c = 0 := by omega
        subst this
        omega
    refine ⟨⟨R, xl, .inr ⟨rfl, ?_⟩⟩, tb⟩
    rcases cs with ⟨_, _, _, e⟩ | ⟨e1, _, e2, _⟩
    · exact absurd ⟨by omega, cp⟩ e
    · exact ⟨e1, e2⟩
theorem own_neg {x B : Str} {sg c d : Int} (h : OwnIs x B sg c d) (hs : sg < 0) : Txt.slice x (some 1) none = B := by
  rcases h.2.2 with ⟨e, _⟩ | ⟨_, e, _⟩
  · omega
  · exact e
theorem own_pos {x B : Str} {sg c d : Int} (h : OwnIs x B sg c d) (hs : ¬ sg < 0) : x = B := by
  rcases h.2.2 with ⟨_, e⟩ | ⟨e, _⟩
  · exact e
  · omega
theorem cut_own {prog : Program} {w : World} {A : Around} {E : Value → Shared → Prop} {s : Shared} {h₀ : Heap} {L : Addr} {m : Str → Option Value} {news : List (Addr × Obj)} {Q : Value → Shared → Prop}
    {t : Sem Value} {x B : Str} {sg c d : Int} (hO : OwnIs x B sg c d) (F : Fr h₀ L s.heap m) (N : News h₀ L s.heap news)
    (h1 : wpAny (model prog w) A t (fun v s' => Halt ((∃ t, v = .str B t) ∧ ∃ h' tk, s' = { s with heap := h', toks := tk } ∧ Fr h₀ L h' m ∧ News h₀ L h' news)) E s)
    (h2 : ∀ t h' tk, Fr h₀ L h' m → News h₀ L h' news → Q (.str B t) { s with heap := h', toks := tk }) : wpAny (model prog w) A t Q E s :=
  cut_v _ F N h1 fun v h' tk ⟨t, e⟩ F' N' => by subst e; exact h2 t h' tk F' N'
theorem pow_5 {prog : Program} {w : World} {A : Around} {E : Value → Shared → Prop} {s : Shared} {t u : Tok} {Q : Value → Shared → Prop} (h : ∀ u tk, Q (.int 100000 u) { s with toks := tk }) : wpAny (model prog w) A (binaryOp .Pow (.int 10 t) (.int 5 u)) Q E s := pow_int_small (by decide) (by decide) (by decide) (h _ _)
theorem pow_6 {prog : Program} {w : World} {A : Around} {E : Value → Shared → Prop} {s : Shared} {t u : Tok} {Q : Value → Shared → Prop} (h : ∀ u tk, Q (.int 1000000 u) { s with toks := tk }) : wpAny (model prog w) A (binaryOp .Pow (.int 10 t) (.int 6 u)) Q E s := pow_int_small (by decide) (by decide) (by decide) (h _ _)
theorem pow_8 {prog : Program} {w : World} {A : Around} {E : Value → Shared → Prop} {s : Shared} {t u : Tok} {Q : Value → Shared → Prop} (h : ∀ u tk, Q (.int 100000000 u) { s with toks := tk }) : wpAny (model prog w) A (binaryOp .Pow (.int 10 t) (.int 8 u)) Q E s := pow_int_small (by decide) (by decide) (by decide) (h _ _)
theorem pow_9 {prog : Program} {w : World} {A : Around} {E : Value → Shared → Prop} {s : Shared} {t u : Tok} {Q : Value → Shared → Prop} (h : ∀ u tk, Q (.int 1000000000 u) { s with toks := tk }) : wpAny (model prog w) A (binaryOp .Pow (.int 10 t) (.int 9 u)) Q E s := pow_int_small (by decide) (by decide) (by decide) (h _ _)
theorem pow_12 {prog : Program} {w : World} {A : Around} {E : Value → Shared → Prop} {s : Shared} {t u : Tok} {Q : Value → Shared → Prop} (h : ∀ u tk, Q (.int 1000000000000 u) { s with toks := tk }) : wpAny (model prog w) A (binaryOp .Pow (.int 10 t) (.int 12 u)) Q E s := pow_int_small (by decide) (by decide) (by decide) (h _ _)
theorem sg_small {sg p n r : Int} (h : SgOf sg p) (e : n = sg * r) (h0 : 0 ≤ r) (h1 : r < 1000000000000) : n.natAbs < 10 ^ 12 := by
  rcases h with rfl | ⟨rfl, _⟩
  · rw [Int.one_mul] at e; omega
  · rw [Int.neg_mul, Int.one_mul] at e; omega
theorem sg_bd {sg p : Int} (h : SgOf sg p) : -1 ≤ sg ∧ sg ≤ 1 := by unfold SgOf at h; omega
theorem iS_same (n : Int) : (iS n != Str.ofString (toString n)) = false := bne_f rfl
/-- what the ways give -/
def PQ (way p q : Int) : Prop := -3 ≤ p ∧ 1 ≤ q ∧ q ≤ 1000000000 ∧ p < 1000000000 * q ∧ p < 35184372088832 ∧ (way = 3 → q = 100000 ∧ p < 100000000 ∧ 0 ≤ p)
theorem cut_pq {prog : Program} {w : World} {A : Around} {E : Value → Shared → Prop} {s : Shared} {h₀ : Heap} {L : Addr} {m : Str → Option Value} {news : List (Addr × Obj)} {Q : Flow → Shared → Prop}
    {t : Sem Flow} {way a : Int} (e : way = Int.fmod a 4) (F : Fr h₀ L s.heap m) (N : News h₀ L s.heap news)
    (h1 : wpAny (model prog w) A t (fun v s' => Halt (v = .next ∧ ∃ p q tp tq h' tk, s' = { s with heap := h', toks := tk } ∧ Fr h₀ L h' (fun y => if y = Str.ofString "p" then some (.int p tp) else if y = Str.ofString "q" then some (.int q tq) else m y) ∧ News h₀ L h' news ∧ PQ way p q)) E s)
    (h2 : ∀ p q tp tq h' tk, PQ way p q → Fr h₀ L h' (fun y => if y = Str.ofString "p" then some (.int p tp) else if y = Str.ofString "q" then some (.int q tq) else m y) → News h₀ L h' news → Q .next { s with heap := h', toks := tk }) : wpAny (model prog w) A t Q E s :=
  wpAny_mono h1 (fun v s' ⟨⟨hV, p, q, tp, tq, h', tk, e, F', N', P⟩⟩ => by subst e hV; exact h2 p q tp tq h' tk P F' N') fun _ _ h => h
theorem p_facts {sg p0 way p q v : Int} (hSg : SgOf sg p0) (hPQ : PQ way p q) (e1 : p ≤ v) (e2 : 1 ≤ v) (e3 : v = p ∨ v = 1) :
    SgOf sg v ∧ intBits (sg * v) ≤ 60 ∧ ((sg * v).natAbs : Int) = v ∧ 0 < v ∧ v < 1000000000 * q ∧ v < 35184372088833 ∧ 1 ≤ q ∧ q ≤ 1000000000 ∧ (way = 3 → q = 100000 ∧ v < 100000000) ∧ intBits v ≤ 60 ∧ intBits q ≤ 31 := by
  unfold PQ at hPQ
  have h1 : SgOf sg v := by unfold SgOf at hSg ⊢; omega
  refine ⟨h1, sg_bits h1 (by omega) (by omega), sg_abs h1 (by omega), by omega, by omega, by omega, by omega, by omega, by omega, bits_small (by omega), intBits_le_iff.mpr (by omega)⟩
section
variable {prog : Program} {w : World} {A : Around} {E : Value → Shared → Prop} {s : Shared} {Q : Value → Shared → Prop}
theorem fdiv_g {a b : Int} {t u : Tok} (h0 : 0 ≤ a) (hb : 0 < b) (hp : intBits b ≤ 8000) (h : ∀ (v : Int) u tk, v = a.fdiv b → 0 ≤ v → v ≤ a → Q (.int v u) { s with toks := tk }) :
    wpAny (model prog w) A (binaryOp .FloorDiv (.int a t) (.int b u)) Q E s :=
  floordiv_int (by omega) (h _ _ _ rfl (Int.fdiv_nonneg h0 (by omega)) (by have := natAbs_fdiv_le a b; have := Int.fdiv_nonneg h0 (show 0 ≤ b by omega); omega)) (Or.inl (noPy hp))
theorem str_g {a : Int} {t : Tok} (hd : a.natAbs < 10 ^ 18) (h : ∀ (x : Str) u tk, x = iS a → x.length ≤ 19 → (iS a != x) = false → Q (.str x u) { s with toks := tk }) : wpAny (model prog w) A (call (.type "str") [.int a t]) Q E s :=
  P.str_of_int (by
    by_cases h0 : a.natAbs = 0
    · rw [h0]; decide
    · exact Nat.lt_trans ((Nat.log2_lt h0).mpr (Nat.lt_trans hd (by decide : 10 ^ 18 < 2 ^ 64))) (by decide)) (h _ _ _ rfl (iS_len (by decide) hd) (bne_f rfl))
theorem rjust_g {x : Str} {t u v : Tok} (hx : x.length ≤ 19) (h : ∀ (y : Str) u tk, y = Txt.rjustF x 5 48 → y.length ≤ 24 → Q (.str y u) { s with toks := tk }) :
    wpAny (model prog w) A (call (.builtin "str.rjust") [.str x t, .int 5 u, .str (Str.ofString "0") v]) Q E s :=
  rjust_fill (by decide) (by decide +kernel) fun t' k => h _ _ _ (by rw [show (Str.ofString "0").cps.getD 0 0 = 48 from by decide +kernel]) (by
    rw [show (Str.ofString "0").cps.getD 0 0 = 48 from by decide +kernel]
    unfold Txt.rjustF
    split
    · omega
    · unfold Builtin.Str.padded
      show (Array.replicate _ 48 ++ x.cps ++ Array.replicate 0 48).size ≤ 24
      rw [Array.size_append, Array.size_append, Array.size_replicate, Array.size_replicate]
      have : x.cps.size = x.length := rfl
      omega)
end
/-- fractional answers v as the double of n/d -/
def HandOK (w : World) (mean : ExcName → Option Value) (mg mb : Str → Option Value) (v : Value) (n d : Int) (news' : List (Addr × Obj)) : Prop :=
  ∀ news, (∀ p ∈ news', p ∈ news) → Cx w mean mg mb 181 news 50 [v] (RetF news n d)
theorem handD {w : World} {mean mg mb} {news' : List (Addr × Obj)} {n d a b : Int} {t u k1 k2 : Tok} {x dx : Addr} (hx : (x, instObj 116 dx) ∈ news') (hdx : (dx, dblDict w.params a b t u k1 k2) ∈ news')
    (D : DblP n d a b) (h0 : 0 < d) (bn : intBits n ≤ 60) (bd : intBits d ≤ 60) (hs : (n.natAbs : Int) < 10 ^ 9 * d) : HandOK w mean mg mb (.ref x) n d news' := fun news hsub =>
  cx_imp (fracD_T w mean mg mb news n d a b t u k1 k2 x dx (hsub _ hx) (hsub _ hdx) D h0 bn bd hs) fun _ ⟨c, q, B, h⟩ => ⟨a, b, c, q, B, D, h⟩
theorem hand3 {w : World} {mean mg mb} {news' : List (Addr × Obj)} {sgn x s1 s2 s3 : Str} {sg v q r W : Int} {t : Tok} (ex : x = sgn ++ s1 ++ Str.ofString "." ++ s3) (e3 : s3 = Txt.rjustF s2 5 48) (e2 : s2 = iS r) (er : r = v.fmod q) (e1 : s1 = iS W) (hW : W = v.fdiv q) (hq : q = 100000) (h0 : 0 < v) (h1 : v < 100000000)
    (hsg : (sgn = Str.ofString "-" ∧ sg = -1) ∨ (sgn = Str.ofString "" ∧ sg = 1)) : HandOK w mean mg mb (.str x t) (sg * v) q news' := fun news hsub => by
  subst hq hW e3 e2 e1
  have f := fdiv_fmod_facts v 100000
  have f2 := f.2.2.1 (by decide)
  have hA : 0 ≤ v.fdiv 100000 := Int.fdiv_nonneg (by omega) (by decide)
  rw [← er] at f f2
  have e : v.fdiv 100000 * 100000 + r = v := by omega
  have R := reads_dec (sg := sg) (sgn := sgn) (A := v.fdiv 100000) (r := r) (by rcases hsg with h | h; exact .inl h; exact .inr ⟨h.1.trans ofs_empty, h.2⟩) hA (by omega) f2.1 f2.2
  rw [e, ← ex] at R
  have hb : ((sg * v).natAbs : Int) = v := by
    rcases hsg with ⟨_, rfl⟩ | ⟨_, rfl⟩
    · rw [Int.neg_mul, Int.one_mul]; omega
    · rw [Int.one_mul]; omega
  exact fracSD_T w mean mg mb news x (sg * v) 100000 t R (by decide) (intBits_le_iff.mpr (by omega)) (by decide) (by omega)
theorem cut_hand {w : World} {mean : ExcName → Option Value} {mg mb : Str → Option Value} {A : Around} {E : Value → Shared → Prop} {s : Shared} {h₀ : Heap} {L : Addr} {m : Str → Option Value} {news : List (Addr × Obj)} {Q : Flow → Shared → Prop}
    {t : Sem Flow} {v0 : Value} {n d a b : Int} {D : Addr} {ws : Array Value} (hD : DblP n d a b) (T : Top hd.view_39 (looseW hd.view_39 []) mean mg mb h₀)
    (F : Fr h₀ L s.heap (fun y => if y = Str.ofString "handed" then some v0 else m y)) (N : News h₀ L s.heap news) (hrow : (D, W.listOf ws 0) ∈ news)
    (h1 : wpAny (model PG w) A t (fun v s' => Halt (v = .next ∧ ∃ hv h' tk news', s' = { s with heap := h', toks := tk } ∧ Fr h₀ L h' (fun y => if y = Str.ofString "handed" then some hv else m y) ∧ News h₀ L h' news' ∧ (∀ p ∈ news, p ∈ news') ∧ HandOK w mean mg mb hv n d news')) E s)
    (h2 : ∀ hv h' tk news', Fr h₀ L h' (fun y => if y = Str.ofString "handed" then some hv else m y) → News h₀ L h' news' → (D, W.listOf ws 0) ∈ news' → HandOK w mean mg mb hv n d news' → Q .next { s with heap := h', toks := tk }) : wpAny (model PG w) A t Q E s :=
  wpAny_mono h1 (fun v s' ⟨⟨hV, hv, h', tk, news', e, F', N', hs, H⟩⟩ => by subst e hV; exact h2 hv h' tk news' F' N' (hs _ hrow) H) fun _ _ h => h
theorem fr_over {h₀ h : Heap} {L : Addr} {x : Str} {a b : Value} {m : Str → Option Value} (F : Fr h₀ L h (fun y => if y = x then some a else if y = x then some b else m y)) : Fr h₀ L h (fun y => if y = x then some a else m y) := by
  have e : (fun y => if y = x then some a else m y) = fun y => if y = x then some a else if y = x then some b else m y := by
    funext y
    by_cases h : y = x <;> simp [h]
  rw [e]; exact F
/-- what the second text tells -/
def SaidIs (y B : Str) (sg c d : Int) : Prop := ReadsTo B c d ∧ y.length ≤ 60 ∧ ((y = B ∧ (Txt.slice y none (some 1) == Str.ofString "-") = false ∧ ¬ (sg < 0 ∧ 0 < c)) ∨ (Txt.slice y (some 1) none = B ∧ (Txt.slice y none (some 1) == Str.ofString "-") = true ∧ sg < 0 ∧ 0 < c))
theorem said_facts {y B : Str} {sg v q a b c d : Int} (S : Said y B a b c d) (D : DblP (sg * v) q a b) (hg : SgOf sg v) (h0 : 0 < v) (q0 : 0 < q) : SaidIs y B sg c d ∧ ∃ A0, DblP v q A0 b ∧ Tell A0 b c d := by
  obtain ⟨T, R, c0, yl, cs⟩ := S
  rcases hg with rfl | ⟨rfl, _⟩
  · rw [Int.one_mul] at D
    have ha := dbl_pos q0 h0 D
    have ea : (a.natAbs : Int) = a := by omega
    rw [ea] at T
    refine ⟨⟨R, yl, ?_⟩, a, D, T⟩
    rcases cs with ⟨e1, e2, _, _⟩ | ⟨_, _, _, e, _⟩
    · exact .inl ⟨e1, e2, by omega⟩
    · omega
  · rw [Int.neg_mul, Int.one_mul] at D
    have D' := dbl_neg q0 D
    have ha := dbl_pos q0 h0 D'
    have ea : (a.natAbs : Int) = -a := by omega
    rw [ea] at T
    refine ⟨⟨R, yl, ?_⟩, -a, D', T⟩
    rcases cs with ⟨e1, e2, _, e⟩ | ⟨e1, e2, _, _, e⟩
    · exact .inl ⟨e1, e2, fun h => e ⟨by omega, h.2⟩⟩
    · exact .inr ⟨e1, e2, by omega, e⟩
theorem cut_said {prog : Program} {w : World} {A : Around} {E : Value → Shared → Prop} {s : Shared} {h₀ : Heap} {L : Addr} {m : Str → Option Value} {news : List (Addr × Obj)} {Q : Value → Shared → Prop}
    {t : Sem Value} {x B : Str} {sg c d : Int} (hO : SaidIs x B sg c d) (F : Fr h₀ L s.heap m) (N : News h₀ L s.heap news)
    (h1 : wpAny (model prog w) A t (fun v s' => Halt ((∃ t, v = .str B t) ∧ ∃ h' tk, s' = { s with heap := h', toks := tk } ∧ Fr h₀ L h' m ∧ News h₀ L h' news)) E s)
    (h2 : ∀ t h' tk, Fr h₀ L h' m → News h₀ L h' news → Q (.str B t) { s with heap := h', toks := tk }) : wpAny (model prog w) A t Q E s :=
  cut_v _ F N h1 fun v h' tk ⟨t, e⟩ F' N' => by subst e; exact h2 t h' tk F' N'
theorem bad_ff {b : Bool} {p : Prop} [Decidable p] (hb : b = false) (k : (b != decide p) = true) : p := by subst hb; simpa using k
theorem bad_tt {b : Bool} {p : Prop} [Decidable p] (hb : b = true) (k : (b != decide p) = true) : ¬ p := by subst hb; simpa using k
theorem tell_as {a b c q c' q' : Int} (T : Tell a b c q) (e : c' = c ∧ q' = q) : Tell a b c' q' := by rw [e.1, e.2]; exact T
section
variable {prog : Program} {w : World} {A : Around} {E : Value → Shared → Prop} {s : Shared} {Q : Value → Shared → Prop} {a b : Int} {t u : Tok}
theorem add_g (h : ∀ (v : Int) u tk, v = a + b → (intBits v : Int) ≤ intBits a + intBits b + 1 → Q (.int v u) { s with toks := tk }) : wpAny (model prog w) A (binaryOp .Add (.int a t) (.int b u)) Q E s := add_int (h _ _ _ rfl (bits_add a b))
theorem sub_g (h : ∀ (v : Int) u tk, v = a - b → (intBits v : Int) ≤ intBits a + intBits b + 1 → Q (.int v u) { s with toks := tk }) : wpAny (model prog w) A (binaryOp .Sub (.int a t) (.int b u)) Q E s := sub_int (h _ _ _ rfl (bits_sub a b))
theorem mul_g (hb : (intBits a : Int) + intBits b ≤ 100000) (h : ∀ (v : Int) u tk, v = a * b → (intBits v : Int) ≤ intBits a + intBits b → Q (.int v u) { s with toks := tk }) : wpAny (model prog w) A (binaryOp .Mult (.int a t) (.int b u)) Q E s := P.mul_int (h _ _ _ rfl (bits_mul a b)) (mulOk (by omega))
theorem fdiv_b (hb : 0 < b) (hp : intBits b ≤ 8000) (h : ∀ (v : Int) u tk, v = a.fdiv b → intBits v ≤ intBits a → Q (.int v u) { s with toks := tk }) : wpAny (model prog w) A (binaryOp .FloorDiv (.int a t) (.int b u)) Q E s :=
  floordiv_int (by omega) (h _ _ _ rfl (intBits_fdiv_le (Nat.le_refl _))) (Or.inl (noPy hp))
theorem mod_b (hb : 0 < b) (h : ∀ (v : Int) u tk, v = a.fmod b → 0 ≤ v → v < b → intBits v ≤ intBits b → Q (.int v u) { s with toks := tk }) :
    wpAny (model prog w) A (binaryOp .Mod (.int a t) (.int b u)) Q E s :=
  mod_g hb fun v u tk e h0 h1 => h v u tk e h0 h1 (intBits_le_of_natAbs (y := b) (by omega) (Nat.le_refl _))
end
theorem turn_end {h₀ : Heap} {L I : Addr} {o : Obj} {rest : (Str → Option Value) → List (Addr × Obj) → Prop} {s₁ : Shared} {h' : Heap} {tk : Nat} {m' : Str → Option Value} {news : List (Addr × Obj)} (F : Fr h₀ L h' m') (N : News h₀ L h' ((I, o) :: news))
    (lt : ∀ p ∈ news, @LT.lt Nat _ p.1 I) (r : rest m' news) : UnrEndW h₀ L s₁ [(I, o)] rest { s₁ with heap := h', toks := tk } :=
  ⟨h', tk, m', news, rfl, F, N, fun p hp q hq e => by
    rw [List.mem_singleton.mp hq] at e
    exact absurd (lt p hp) (e ▸ Nat.lt_irrefl _), r⟩
end Mine
local macro_rules | `(tactic| walk_at "call ref") => `(tactic| (k_here; (with_reducible show wpAny _ _ (call (Value.ref 116) [Value.int _ _, Value.int _ _]) _ _ _); k_dflt (refine' Mine.cx_use (Mine.Double_T _ _ _ _ _ _ _ _ _ ?h0 ?hn ?hd) ?k1 ?k2 ?k3 ?k4 ?k5 ?kK ?kd ?ku ?_; (case k1 => first | k_asm | fail "cx: below"); (case k2 => first | k_asm | fail "cx: frame"); (case k3 => first | k_asm | fail "cx: part"); (case k4 => first | k_asm | fail "cx: news"); (case k5 => first | k_asm | fail "cx: top"); (case kK => first | exact rfl | assumption | fail "cx: kind"); (case kd => first | ktr_room | fail "cx: room"); (case ku => first | ktr_units | fail "cx: units"); (case h0 => omega); (case hn => omega); (case hd => first | omega | exact Nat.le_trans (Mine.bits_small (by omega)) (by decide))); k_dflt (intro a' b' t' u' k1' k2' x' d' h' tk' e1' F' N' l1' l2'; (have e2' := And.left (And.right e1')); (try simp only [AllLt, and_true] at l1'); (try k_lt2 l2'); (try k_sweep); (try dsimp only); (try k_fold))))
local macro_rules | `(tactic| walk_at "call ref") => `(tactic| (k_here; (with_reducible show wpAny _ _ (call (Value.ref 181) [Value.ref _]) _ _ _); k_dflt (refine' Mine.cx_use (Mine.fracD_T _ _ _ _ _ _ _ _ _ _ _ _ _ _ _ ?hx ?hdx ?hD ?h0 ?bn ?bd ?hs) ?k1 ?k2 ?k3 ?k4 ?k5 ?kK ?kd ?ku ?_; (case k1 => first | k_asm | fail "cx: below"); (case k2 => first | k_asm | fail "cx: frame"); (case k3 => first | k_asm | fail "cx: part"); (case k4 => first | k_asm | fail "cx: news"); (case k5 => first | k_asm | fail "cx: top"); (case kK => first | exact rfl | assumption | fail "cx: kind"); (case kd => first | ktr_room | fail "cx: room"); (case ku => first | ktr_units | fail "cx: units"); (case hx => first | assumption | k_mem); (case hdx => first | assumption | k_mem); (case hD => with_reducible assumption); (case h0 => first | assumption | omega); (case bn => first | assumption | omega); (case bd => first | assumption | omega | exact Mine.bits_small (by omega)); (case hs => first | assumption | omega)); k_dflt (intro v' t' h' tk' e1' F' N'; obtain ⟨c', q', B', e1'⟩ := e1'; (try k_sweep); (try dsimp only); (try k_fold))))
local macro_rules | `(tactic| walk_at "call ref") => `(tactic| (k_here; (with_reducible show wpAny _ _ (call (Value.ref 181) [_]) _ _ _); (rename Mine.HandOK _ _ _ _ _ _ _ _ => hH'); k_dflt (refine' Mine.cx_use (hH' _ ?hsub) ?k1 ?k2 ?k3 ?k4 ?k5 ?kK ?kd ?ku ?_; (case k1 => first | k_asm | fail "cx: below"); (case k2 => first | k_asm | fail "cx: frame"); (case k3 => first | k_asm | fail "cx: part"); (case k4 => first | k_asm | fail "cx: news"); (case k5 => first | k_asm | fail "cx: top"); (case kK => first | exact rfl | assumption | fail "cx: kind"); (case kd => first | ktr_room | fail "cx: room"); (case ku => first | ktr_units | fail "cx: units"); (case hsub => exact Mine.sub_refl)); k_dflt (intro v' t' h' tk' e1' F' N'; obtain ⟨a', b', c', q', B', e1', e2'⟩ := e1'; (try k_sweep); (try dsimp only); (try k_fold))))
set_option linter.unusedVariables false
local macro_rules | `(tactic| walk_at "binaryOp Pow int int") => `(tactic| (k_here; (first | with_reducible refine Mine.pow_12 ?_ | with_reducible refine Mine.pow_6 ?_ | with_reducible refine Mine.pow_9 ?_ | with_reducible refine Mine.pow_8 ?_ | with_reducible refine Mine.pow_5 ?_); intro u' tk'))
local macro_rules | `(tactic| walk_at "binaryOp FloorDiv int int") => `(tactic| (k_here; (with_reducible refine Mine.fdiv_g ?kb0 ?kbn ?kbp ?_); (case kb0 => omega); (case kbn => omega); (case kbp => omega); intro v' u' tk' e1' e2' e3'))
local macro_rules | `(tactic| walk_at "call type:str") => `(tactic| (k_here; (with_reducible refine Mine.str_g ?kbn ?_); (case kbn => omega); intro v' u' tk' e1' e2' e3'))
local macro_rules | `(tactic| walk_at "call builtin:str.rjust") => `(tactic| (k_here; (with_reducible refine Mine.rjust_g ?kbn ?_); (case kbn => omega); intro v' u' tk' e1' e2'))
local macro_rules | `(tactic| walk_at "binaryOp Mod int int") => `(tactic| (k_here; (with_reducible refine Mine.mod_g ?kbn ?_); (case kbn => omega); intro v' u' tk' e1' e2' e3'))
local macro_rules | `(tactic| walk_at "subscriptTail") => `(tactic| (k_here; (with_reducible show wpAny _ _ (subscriptTail (PySem.Expr.BinOp _ _ _ _) (PySem.Expr.Slice _ _ none _) (Value.ref _) (Value.ref _)) _ _ _); k_dflt (refine kba_turn (value' := PySem.Expr.Name (PySem.Str.ofString "_") ⟨0, 0, 0, 0⟩) (fun _ => rfl) ?_; refine' Mine.row_slice ?F ?N ?l ?i ?n ?_ ?s ?t; (case F => k_asm); (case N => k_asm); (case l => kmk_list); (case i => with_reducible assumption); (case n => omega); (case s => with_unfolding_all rfl); (case t => kmk_pure)); intro D' ws' ms' h' F' N' hI' hC'; (try k_sweep)))
local macro_rules | `(tactic| walk_at "binaryOp Add int int") => `(tactic| (k_here; (rename Mine.LNear _ _ _ _ => hz'); (with_reducible refine Mine.add_g ?_); intro v' u' tk' e1' e2'))
local macro_rules | `(tactic| walk_at "binaryOp Sub int int") => `(tactic| (k_here; (rename Mine.LNear _ _ _ _ => hz'); (with_reducible refine Mine.sub_g ?_); intro v' u' tk' e1' e2'))
local macro_rules | `(tactic| walk_at "binaryOp Mult int int") => `(tactic| (k_here; (rename Mine.LNear _ _ _ _ => hz'); (with_reducible refine Mine.mul_g ?kbn ?_); (case kbn => omega); intro v' u' tk' e1' e2'))
local macro_rules | `(tactic| walk_at "binaryOp FloorDiv int int") => `(tactic| (k_here; (rename Mine.LNear _ _ _ _ => hz'); (with_reducible refine Mine.fdiv_b ?kbn ?kbp ?_); (case kbn => omega); (case kbp => omega); intro v' u' tk' e1' e2'))
local macro_rules | `(tactic| walk_at "binaryOp Mod int int") => `(tactic| (k_here; (rename Mine.LNear _ _ _ _ => hz'); (with_reducible refine Mine.mod_b ?kbn ?_); (case kbn => omega); intro v' u' tk' e1' e2' e3' e4'))
theorem Mine.law_T : PySem.Challenge.rw_ez0116_01.Holds := by
  refine Mine.hd (by
    k_go0
    (all_goals try k_fold)
    repeat' ((fail_if_success (with_reducible show wpAny _ _ (eval (PySem.Expr.IfExp _ _ _ _) _) _ _ _)); (first | (k_unfold; (try dsimp only)) | walk1 | (dsimp only; walk1) | (leave1; walk_say "STEP leave1"; try dsimp only) | fail "no step"))
    refine Mine.cut_sign (by with_reducible assumption) (by k_asm) (by k_asm) ?_ ?_
    · repeat' (first | (k_unfold; (try dsimp only)) | walk1 | (dsimp only; walk1) | (leave1; walk_say "STEP leave1"; try dsimp only) | fail "no step")
      all_goals (refine ⟨⟨_, _, rfl, ?_⟩, _, _, rfl, ?_, ?_⟩; (unfold Mine.SgOf; omega); all_goals (first | k_asm | (refine' cb_drop ?cbN ?cbS; (case cbN => k_asm); (case cbS => repeat' (first | with_reducible exact Mine.sub_refl | with_reducible refine Mine.sub_cons ?_ | refine Mine.sub_skip ?_)))))
    intro sg ts h' tk' hSg F' N'
    have hSb := Mine.sg_bits hSg (by omega) (by omega)
    have hSa := Mine.sg_abs hSg (by omega)
    obtain ⟨hS1, hS2⟩ := Mine.sg_bd hSg
    (try k_sweep)
    (try k_fold)
    repeat' ((fail_if_success (with_reducible show wpAny _ _ (eval (PySem.Expr.IfExp _ _ _ _) _) _ _ _)); (first | (k_unfold; (try dsimp only)) | walk1 | (dsimp only; walk1) | (leave1; walk_say "STEP leave1"; try dsimp only) | fail "no step"))
    obtain ⟨hO, hC⟩ := Mine.own_is (by with_reducible assumption) (by with_reducible assumption) hSg (by omega) (by omega) (by omega) (by omega)
    have hxl := hO.2.1
    refine Mine.cut_own hO (by k_asm) (by k_asm) ?_ ?_
    · repeat' (first | (k_unfold; (try dsimp only)) | walk1 | (dsimp only; walk1) | (leave1; walk_say "STEP leave1"; try dsimp only) | fail "no step")
      all_goals (refine ⟨⟨_, congrArg (fun z => Value.str z _) ?_⟩, _, _, rfl, ?_, ?_⟩; (first | exact Mine.own_pos hO (by with_reducible assumption) | exact Mine.own_neg hO (by with_reducible assumption)); all_goals (first | k_asm | (refine' cb_drop ?cbN ?cbS; (case cbN => k_asm); (case cbS => repeat' (first | with_reducible exact Mine.sub_refl | with_reducible refine Mine.sub_cons ?_ | refine Mine.sub_skip ?_)))))
    intro ts h' tk' F' N'
    (try k_sweep)
    (try k_fold)
    have hR := hO.1
    repeat' ((fail_if_success (with_reducible show wpAny _ _ (exec (PySem.Stmt.If _ _ _ _) _) _ _ _)); (first | (k_unfold; (try dsimp only)) | walk1 | (dsimp only; walk1) | (leave1; walk_say "STEP leave1"; try dsimp only) | fail "no step"))
    refine Mine.cut_next (by k_asm) (by k_asm) ?_ ?_
    · rcases hO.2.2 with ⟨hO1, hO2⟩ | ⟨hO1, hO2, hO3⟩
      · repeat' (first | (k_unfold; (try dsimp only)) | walk1 | (dsimp only; walk1) | (leave1; walk_say "STEP leave1"; try dsimp only) | fail "no step")
        all_goals (first | exact absurd hC (by with_reducible assumption) | (refine ⟨rfl, _, _, rfl, ?_, ?_⟩; all_goals (first | k_asm | (refine' cb_drop ?cbN ?cbS; (case cbN => k_asm); (case cbS => repeat' (first | with_reducible exact Mine.sub_refl | with_reducible refine Mine.sub_cons ?_ | refine Mine.sub_skip ?_))))))
      · repeat' (first | (k_unfold; (try dsimp only)) | walk1 | (dsimp only; walk1) | (leave1; walk_say "STEP leave1"; try dsimp only) | fail "no step")
        all_goals (first | exact absurd hC (by with_reducible assumption) | (refine ⟨rfl, _, _, rfl, ?_, ?_⟩; all_goals (first | k_asm | (refine' cb_drop ?cbN ?cbS; (case cbN => k_asm); (case cbS => repeat' (first | with_reducible exact Mine.sub_refl | with_reducible refine Mine.sub_cons ?_ | refine Mine.sub_skip ?_))))))
    intro h' tk' F' N'
    (try k_sweep)
    (try k_fold)
    repeat' ((fail_if_success (with_reducible show wpAny _ _ (exec (PySem.Stmt.If _ _ _ _) _) _ _ _)); (first | (k_unfold; (try dsimp only)) | walk1 | (dsimp only; walk1) | (leave1; walk_say "STEP leave1"; try dsimp only) | fail "no step"))
    have hn1 := Mine.sg_small hSg (by with_reducible assumption) (by omega) (by omega)
    refine Mine.cut_next (by k_asm) (by k_asm) ?_ ?_
    · repeat' ((fail_if_success (with_reducible show wpAny _ _ (call (Value.ref 181) [Value.str _ _]) _ _ _)); (first | (k_unfold; (try dsimp only)) | walk1 | (dsimp only; walk1) | (leave1; walk_say "STEP leave1"; try dsimp only) | fail "no step"))
      repeat' (first | (k_unfold; (try dsimp only)) | walk1 | (dsimp only; walk1) | (leave1; walk_say "STEP leave1"; try dsimp only) | fail "no step")
      all_goals (refine ⟨rfl, _, _, rfl, ?_, ?_⟩; all_goals (first | k_asm | (refine' cb_drop ?cbN ?cbS; (case cbN => k_asm); (case cbS => repeat' (first | with_reducible exact Mine.sub_refl | with_reducible refine Mine.sub_cons ?_ | refine Mine.sub_skip ?_)))))
    intro h' tk' F' N'
    (try k_sweep)
    (try k_fold)
    repeat' ((fail_if_success (with_reducible show wpAny _ _ (exec (PySem.Stmt.If _ _ _ _) _) _ _ _)); (first | (k_unfold; (try dsimp only)) | walk1 | (dsimp only; walk1) | (leave1; walk_say "STEP leave1"; try dsimp only) | fail "no step"))
    refine Mine.cut_pq (by with_reducible assumption) (by k_asm) (by k_asm) ?_ ?_
    · repeat' (first | (k_unfold; (try dsimp only)) | walk1 | (dsimp only; walk1) | (leave1; walk_say "STEP leave1"; try dsimp only) | fail "no step")
      all_goals (refine' ⟨rfl, _, _, _, _, _, _, rfl, ?kF, ?kN, ?kP⟩; (case kF => with_reducible assumption); (case kN => first | k_asm | (refine' cb_drop ?cbN ?cbS; (case cbN => k_asm); (case cbS => repeat' (first | with_reducible exact Mine.sub_refl | with_reducible refine Mine.sub_cons ?_ | refine Mine.sub_skip ?_)))); (case kP => (unfold Mine.PQ; omega)))
    intro p q tp tq h' tk' hPQ F' N'
    (try k_sweep)
    (try k_fold)
    repeat' ((fail_if_success (with_reducible show wpAny _ _ (exec (PySem.Stmt.Assign [PySem.Expr.Name (PySem.Str.ofString "handed") _] _ _) _) _ _ _)); (first | (k_unfold; (try dsimp only)) | walk1 | (dsimp only; walk1) | (leave1; walk_say "STEP leave1"; try dsimp only) | fail "no step"))
    obtain ⟨hSg2, hSb2, hSa2, hv1, hv2, hv3, hq1, hq2, hw3, hvb, hqb⟩ := Mine.p_facts hSg hPQ (by with_reducible assumption : p ≤ _) (by with_reducible assumption) (by with_reducible assumption)
    repeat' ((fail_if_success (with_reducible show wpAny _ _ (exec (PySem.Stmt.If _ _ _ _) _) _ _ _)); (first | (k_unfold; (try dsimp only)) | walk1 | (dsimp only; walk1) | (leave1; walk_say "STEP leave1"; try dsimp only) | fail "no step"))
    refine Mine.cut_hand (by with_reducible assumption) (by k_asm) (by k_asm) (by k_asm) (by first | exact .head _ | exact .tail _ (.head _) | exact .tail _ (.tail _ (.head _)) | exact .tail _ (.tail _ (.tail _ (.head _))) | exact .tail _ (.tail _ (.tail _ (.tail _ (.head _)))) | exact .tail _ (.tail _ (.tail _ (.tail _ (.tail _ (.head _))))) | exact .tail _ (.tail _ (.tail _ (.tail _ (.tail _ (.tail _ (.head _))))))) ?_ ?_
    · repeat' (first | (k_unfold; (try dsimp only)) | walk1 | (dsimp only; walk1) | (leave1; walk_say "STEP leave1"; try dsimp only) | fail "no step")
      all_goals (refine' ⟨rfl, _, _, _, _, rfl, ?kF, ?kN, ?kS, ?kH⟩; (case kF => first | with_reducible assumption | exact Mine.fr_over (by with_reducible assumption)); (case kN => k_asm); (case kS => exact Mine.sub_refl); (case kH => first | (refine' Mine.hand3 (by with_reducible rfl) (by with_reducible assumption) (by with_reducible assumption) (by with_reducible assumption) (by with_reducible assumption) (by with_reducible assumption) (hw3 (by with_reducible assumption)).1 hv1 (hw3 (by with_reducible assumption)).2 ?_; (unfold Mine.SgOf at hSg; first | exact .inl ⟨rfl, by omega⟩ | exact .inr ⟨rfl, by omega⟩)) | (refine' Mine.handD ?kx ?kd (by with_reducible assumption) (by omega) (by omega) (by omega) (by omega); (case kx => first | exact .head _ | exact .tail _ (.head _) | exact .tail _ (.tail _ (.head _)) | exact .tail _ (.tail _ (.tail _ (.head _))) | exact .tail _ (.tail _ (.tail _ (.tail _ (.head _))))); (case kd => first | exact .head _ | exact .tail _ (.head _) | exact .tail _ (.tail _ (.head _)) | exact .tail _ (.tail _ (.tail _ (.head _))) | exact .tail _ (.tail _ (.tail _ (.tail _ (.head _))))))))
    intro hv h' tk' news' F' N' hrow hH
    (try k_sweep)
    (try k_fold)
    repeat' ((fail_if_success (with_reducible show wpAny _ _ (eval (PySem.Expr.IfExp _ _ _ _) _) _ _ _)); (first | (k_unfold; (try dsimp only)) | walk1 | (dsimp only; walk1) | (leave1; walk_say "STEP leave1"; try dsimp only) | fail "no step"))
    obtain ⟨hS, A0, hDA, hT⟩ := Mine.said_facts (by with_reducible assumption) (by with_reducible assumption) hSg2 hv1 (by omega)
    have hyl := hS.2.1
    refine Mine.cut_said hS (by k_asm) (by k_asm) ?_ ?_
    · rcases hS.2.2 with ⟨hT1, hT2, hT3⟩ | ⟨hT1, hT2, hT3, hT4⟩
      · repeat' (first | (k_unfold; (try dsimp only)) | walk1 | (dsimp only; walk1) | (leave1; walk_say "STEP leave1"; try dsimp only) | fail "no step")
        all_goals (refine ⟨⟨_, congrArg (fun z => Value.str z _) ?_⟩, _, _, rfl, ?_, ?_⟩; exact hT1; all_goals (first | k_asm | (refine' cb_drop ?cbN ?cbS; (case cbN => k_asm); (case cbS => repeat' (first | with_reducible exact Mine.sub_refl | with_reducible refine Mine.sub_cons ?_ | refine Mine.sub_skip ?_)))))
      · repeat' (first | (k_unfold; (try dsimp only)) | walk1 | (dsimp only; walk1) | (leave1; walk_say "STEP leave1"; try dsimp only) | fail "no step")
        all_goals (refine ⟨⟨_, congrArg (fun z => Value.str z _) ?_⟩, _, _, rfl, ?_, ?_⟩; exact hT1; all_goals (first | k_asm | (refine' cb_drop ?cbN ?cbS; (case cbN => k_asm); (case cbS => repeat' (first | with_reducible exact Mine.sub_refl | with_reducible refine Mine.sub_cons ?_ | refine Mine.sub_skip ?_)))))
    intro ts h' tk' F' N'
    (try k_sweep)
    (try k_fold)
    have hR2 := hS.1
    repeat' ((fail_if_success (with_reducible show wpAny _ _ (exec (PySem.Stmt.If _ _ _ _) _) _ _ _)); (first | (k_unfold; (try dsimp only)) | walk1 | (dsimp only; walk1) | (leave1; walk_say "STEP leave1"; try dsimp only) | fail "no step"))
    refine Mine.cut_next (by k_asm) (by k_asm) ?_ ?_
    · rcases hS.2.2 with ⟨hT1, hT2, hT3⟩ | ⟨hT1, hT2, hT3, hT4⟩
      · repeat' (first | (k_unfold; (try dsimp only)) | walk1 | (dsimp only; walk1) | (leave1; walk_say "STEP leave1"; try dsimp only) | fail "no step")
        all_goals (first | exact absurd (Mine.bad_ff hT2 (by with_reducible assumption)) (by omega) | (have hz := Mine.bad_tt hT2 (by with_reducible assumption); exact absurd hz (by omega)) | (refine ⟨rfl, _, _, rfl, ?_, ?_⟩; all_goals (first | k_asm | (refine' cb_drop ?cbN ?cbS; (case cbN => k_asm); (case cbS => repeat' (first | with_reducible exact Mine.sub_refl | with_reducible refine Mine.sub_cons ?_ | refine Mine.sub_skip ?_))))))
      · repeat' (first | (k_unfold; (try dsimp only)) | walk1 | (dsimp only; walk1) | (leave1; walk_say "STEP leave1"; try dsimp only) | fail "no step")
        all_goals (first | exact absurd (Mine.bad_ff hT2 (by with_reducible assumption)) (by omega) | (have hz := Mine.bad_tt hT2 (by with_reducible assumption); exact absurd hz (by omega)) | (refine ⟨rfl, _, _, rfl, ?_, ?_⟩; all_goals (first | k_asm | (refine' cb_drop ?cbN ?cbS; (case cbN => k_asm); (case cbS => repeat' (first | with_reducible exact Mine.sub_refl | with_reducible refine Mine.sub_cons ?_ | refine Mine.sub_skip ?_))))))
    intro h' tk' F' N'
    (try k_sweep)
    (try k_fold)
    have hT := Mine.tell_as hT (by with_reducible assumption)
    have hb1 : intBits (1 : Int) = 1 := by decide
    have hb1000 : intBits (1000 : Int) = 10 := by decide
    have hb2000 : intBits (2000 : Int) = 11 := by decide
    repeat' ((fail_if_success (with_reducible show wpAny _ _ (exec (PySem.Stmt.Assign [PySem.Expr.Name (PySem.Str.ofString "off") _] _ _) _) _ _ _)); (first | (k_unfold; (try dsimp only)) | walk1 | (dsimp only; walk1) | (leave1; walk_say "STEP leave1"; try dsimp only) | fail "no step"))
    obtain ⟨hB0, hsA, hsB⟩ := Mine.lnear_size (by with_reducible assumption) hvb
    obtain ⟨hsc, hsd, hd1, hd2⟩ := Mine.tell_sizes hDA hT hv1 (by omega) hv2
    repeat' ((fail_if_success (with_reducible show wpAny _ _ (exec (PySem.Stmt.For _ _ _ _ _) _) _ _ _)); (first | (k_unfold; (try dsimp only)) | walk1 | (dsimp only; walk1) | (leave1; walk_say "STEP leave1"; try dsimp only) | fail "no step"))
    obtain ⟨hQ, -, -, -, -, -, hso, -, -⟩ := Mine.loop_start (by with_reducible assumption) hDA hT (by with_reducible assumption) (by with_reducible assumption) (by with_reducible assumption) (by with_reducible assumption) hv1 (by omega) hvb hv2
    k_with "pyIter ref" => (k_of "number" => k_search (fun (pre : List Int) => True))
    repeat' ((fail_if_success (with_reducible show wpAny _ _ (pyIter _) _ _ _)); (first | (k_unfold; (try dsimp only)) | walk1 | (dsimp only; walk1) | (leave1; walk_say "STEP leave1"; try dsimp only) | fail "no step"))
    k_search (fun (pre : List Int) => True)
    k_with_none
    k_with "state" => exact True.intro
    · repeat' (first | (k_unfold; (try dsimp only)) | walk1 | (dsimp only; walk1) | (leave1; walk_say "STEP leave1"; try dsimp only) | fail "no step")
      refine' iter_tupTurns (vs := [_, _]) ?khh ?kF ?kN ?km ?kc ?kd ?_
      case kF => k_asm
      case kN => k_asm
      case km => exact .head _
      case khh => rfl
      case kc => rfl
      case kd => rfl
      intro i9 hI9
      with_unfolding_all refine ItemsRest.val (fun h' tk' F' => ?_)
      refine AllObj.cons (fun o' hc' => ?_)
      refine AllObj.nil (fun N' => ?_)
      (try simp only [List.cons_append, List.nil_append] at N')
      repeat' ((fail_if_success (with_reducible show wpAny _ _ (exec (PySem.Stmt.If _ _ _ _) _) _ _ _)); (first | (k_unfold; (try dsimp only)) | walk1 | (dsimp only; walk1) | (leave1; walk_say "STEP leave1"; try dsimp only) | fail "no step"))
      refine Mine.cut_next (by k_asm) (by k_asm) ?_ ?_
      · repeat' (first | (k_unfold; (try dsimp only)) | walk1 | (dsimp only; walk1) | (leave1; walk_say "STEP leave1"; try dsimp only) | fail "no step")
        all_goals (first | exact absurd (Mine.loop_lt (by with_reducible assumption) hQ (by with_reducible assumption) (by with_reducible assumption) (by with_reducible assumption) (by with_reducible assumption) (by with_reducible assumption) (by with_reducible assumption) (by omega) (by omega)) id | exact absurd (Mine.loop_eq (by with_reducible assumption) hQ (by with_reducible assumption) (by with_reducible assumption) (by with_reducible assumption) (by with_reducible assumption) (by with_reducible assumption) (by with_reducible assumption) (by omega) (by omega) (by with_reducible assumption)) id | (refine ⟨rfl, _, _, rfl, ?_, ?_⟩; all_goals (first | k_asm | (refine' cb_drop ?cbN ?cbS; (case cbN => k_asm); (case cbS => repeat' (first | with_reducible exact Mine.sub_refl | with_reducible refine Mine.sub_cons ?_ | refine Mine.sub_skip ?_))))))
      intro h' tk' F' N'
      (try k_fold)
      repeat' (first | (k_unfold; (try dsimp only)) | walk1 | (dsimp only; walk1) | (leave1; walk_say "STEP leave1"; try dsimp only) | fail "no step")
      refine Mine.turn_end (by k_asm) (by k_asm) hI9 ⟨⟨.head _, trivial⟩, ?_⟩
      with_unfolding_all refine ItemsRest.val (fun h' tk' F' => ?_)
      refine AllObj.cons (fun o' hc' => ?_)
      refine AllObj.nil (fun N' => ?_)
      (try simp only [List.cons_append, List.nil_append] at N')
      repeat' ((fail_if_success (with_reducible show wpAny _ _ (exec (PySem.Stmt.If _ _ _ _) _) _ _ _)); (first | (k_unfold; (try dsimp only)) | walk1 | (dsimp only; walk1) | (leave1; walk_say "STEP leave1"; try dsimp only) | fail "no step"))
      refine Mine.cut_next (by k_asm) (by k_asm) ?_ ?_
      · repeat' (first | (k_unfold; (try dsimp only)) | walk1 | (dsimp only; walk1) | (leave1; walk_say "STEP leave1"; try dsimp only) | fail "no step")
        all_goals (first | exact absurd (Mine.loop_lt (by with_reducible assumption) hQ (by with_reducible assumption) (by with_reducible assumption) (by with_reducible assumption) (by with_reducible assumption) (by with_reducible assumption) (by with_reducible assumption) (by omega) (by omega)) id | exact absurd (Mine.loop_eq (by with_reducible assumption) hQ (by with_reducible assumption) (by with_reducible assumption) (by with_reducible assumption) (by with_reducible assumption) (by with_reducible assumption) (by with_reducible assumption) (by omega) (by omega) (by with_reducible assumption)) id | (refine ⟨rfl, _, _, rfl, ?_, ?_⟩; all_goals (first | k_asm | (refine' cb_drop ?cbN ?cbS; (case cbN => k_asm); (case cbS => repeat' (first | with_reducible exact Mine.sub_refl | with_reducible refine Mine.sub_cons ?_ | refine Mine.sub_skip ?_))))))
      intro h' tk' F' N'
      (try k_fold)
      repeat' (first | (k_unfold; (try dsimp only)) | walk1 | (dsimp only; walk1) | (leave1; walk_say "STEP leave1"; try dsimp only) | fail "no step")
      refine Mine.turn_end (by k_asm) (by k_asm) hI9 ⟨⟨.head _, trivial⟩, ?_⟩
      refine ItemsRest.zero (fun h' tk' F' N' => ?_)
      iterate 2 (first | (k_unfold; (try dsimp only)) | walk1 | (dsimp only; walk1) | (leave1; walk_say "STEP leave1"; try dsimp only) | fail "no step")
      refine' kst_end () ?kF ?kN ?kn ?ko ?ka True.intro (List.forall_mem_nil _) ?kr True.intro
      case kF => k_asm
      case kN => k_asm
      case kn => repeat' (first | with_reducible exact Mine.sub_refl | exact (fun p h => List.mem_append_left _ h) | with_reducible refine Mine.sub_cons ?_ | refine Mine.sub_skip ?_)
      case ko => repeat' (first | with_reducible exact Mine.sub_refl | exact (fun p h => List.mem_append_right _ h) | refine Mine.sub_skip ?_)
      case ka => rfl
      · intro z h1 h2 h3
        have h4 := h3
        simp only [List.contains_cons, List.contains_nil, Bool.or_false, Bool.or_eq_false_iff, beq_eq_false_iff_ne, ne_eq] at h4
        simp only [h1, h4, if_false]
        exact if_neg (fun h => Bool.false_ne_true (h3.symm.trans h))
    repeat' (first | (k_unfold; (try dsimp only)) | walk1 | (dsimp only; walk1) | (leave1; walk_say "STEP leave1"; try dsimp only) | fail "no step")
    have hend := Mine.loop_end (by with_reducible assumption) (by with_reducible assumption) hQ
    rw [decide_eq_true hend]
    k_steps)
end
theorem PySem.Challenge.cw_ez0116_01_holds : PySem.Challenge.rw_ez0116_01.Holds := by
  exact Mine.law_T
