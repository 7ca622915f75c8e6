import PyProof.Rows.All
import Wide.All
import OpenK.AllK
import Wide.FinOn
import PySem.Challenge.RW_bv5019_02
open PySem PySem.W PySem.Calls PyProof.Rows
set_option Elab.async false
set_option maxRecDepth 100000
set_option rowWalk.seconds 0
set_option linter.unusedVariables false
namespace Mine
/-- what holds under a fuller room holds under this one -/
theorem lower {α : Type} {M : Model} {A B : Around} {t : Sem α} {Q : α → Shared → Prop} {E : Value → Shared → Prop} {s : Shared} (h : wpAny M B t Q E s)
    (h1 : A.handled = B.handled) (h2 : A.depth ≤ B.depth) (h3 : B.frames = A.frames) (h4 : B.guards = none) (h5 : A.units ≤ B.units) : wpAny M A t Q E s := by
  intro Γ p hΓ
  refine h Γ p ⟨hΓ.1.trans h1, Nat.le_trans hΓ.2.1 h2, fun l hl => hΓ.2.2.1 l (h3 ▸ hl), fun g hg => ?_, Nat.le_trans hΓ.2.2.2.2 h5⟩
  rw [h4] at hg; cases hg
/-- the room of a call, its bounds written -/
abbrev room (hd : Option Value) (dp un : Nat) (cn : Str) (cs : Scope) (L a : Addr) (ccd : Value) (cl : List (Str × Addr)) (outer : List Env) : Around :=
  { handled := hd, depth := dp, frames := some (envX cn cs L a ccd cl :: outer), guards := none, units := un }
/-- a call of the def at f with the values vs hands on to what post says -/
abbrev Does (prog : Program) (w : World) (K : Frag) (hd : Option Value) (dp un : Nat) (f : Addr) (vs : List Value) (pre : Heap → Heap → Addr → Heap → List (Addr × Obj) → Prop)
    (post : Heap → Addr → (Str → Option Value) → List (Addr × Obj) → Shared → (Value → Shared → Prop) → (Value → Shared → Prop) → Prop) : Prop :=
  ∀ (p : Program) (loose : List Str) (mean : ExcName → Option Value) (mg mb : Str → Option Value) (cn : Str) (cs : Scope) (a : Addr) (ccd : Value) (cl : List (Str × Addr)) (outer : List Env) (A₀ : Around) (base h₀ : Heap) (L : Addr)
    (m : Str → Option Value) (news : List (Addr × Obj)) (s : Shared) (Q E : Value → Shared → Prop),
    Below A₀ base outer h₀ → Fr h₀ L s.heap m → K.In h₀ → News h₀ L s.heap news → Top p loose mean mg mb h₀ → cs.kind = .function → pre base h₀ L s.heap news → post h₀ L m news s Q E →
    wpAny (model prog w) (room hd dp un cn cs L a ccd cl outer) (call (.ref f) vs) Q E s
end Mine
namespace Mine

def gens : List Nat := [996825010, 642813549, 513874426, 1027748829, 705979059]
/-- one of the five feedback words -/
def gbit (top i : Nat) : Nat := if top.testBit i then gens.getD i 0 else 0
def gx (t : Nat) : Nat := gbit t 0 ^^^ gbit t 1 ^^^ gbit t 2 ^^^ gbit t 3 ^^^ gbit t 4
def pstep (c v : Nat) : Nat := (((c &&& 33554431) <<< 5) ^^^ v) ^^^ gx (c >>> 25)
def pm (c : Nat) (vs : List Nat) : Nat := vs.foldl pstep c

theorem pm_nil (c : Nat) : pm c [] = c := rfl
theorem pm_cons (c v : Nat) (vs : List Nat) : pm c (v :: vs) = pm (pstep c v) vs := rfl
theorem pm_append (c : Nat) (xs ys : List Nat) : pm c (xs ++ ys) = pm (pm c xs) ys := by
  unfold pm; rw [List.foldl_append]

theorem cond_xor (a b : Bool) (g : Nat) : (if (a ^^ b) then g else 0) = (if a then g else 0) ^^^ (if b then g else 0) := by
  cases a <;> cases b <;> simp
theorem gbit_xor (t u i : Nat) : gbit (t ^^^ u) i = gbit t i ^^^ gbit u i := by
  unfold gbit; rw [Nat.testBit_xor]; exact cond_xor _ _ _
theorem xor4 (a b c d : Nat) : (a ^^^ b) ^^^ (c ^^^ d) = (a ^^^ c) ^^^ (b ^^^ d) := by
  rw [Nat.xor_assoc, Nat.xor_assoc, ← Nat.xor_assoc b, ← Nat.xor_assoc c, Nat.xor_comm b c]
theorem gx_xor (t u : Nat) : gx (t ^^^ u) = gx t ^^^ gx u := by
  unfold gx; simp only [gbit_xor]
  rw [xor4 (gbit t 0), xor4 (gbit t 0 ^^^ gbit t 1), xor4 (gbit t 0 ^^^ gbit t 1 ^^^ gbit t 2), xor4 (gbit t 0 ^^^ gbit t 1 ^^^ gbit t 2 ^^^ gbit t 3)]
theorem pstep_xor (a b v w : Nat) : pstep (a ^^^ b) (v ^^^ w) = pstep a v ^^^ pstep b w := by
  unfold pstep
  rw [Nat.and_xor_distrib_right, Nat.shiftLeft_xor_distrib, Nat.shiftRight_xor_distrib, gx_xor, xor4 _ _ v w, xor4]
theorem pm_xor : ∀ (xs ys : List Nat) (a b : Nat), xs.length = ys.length → pm (a ^^^ b) (List.zipWith (· ^^^ ·) xs ys) = pm a xs ^^^ pm b ys
  | [], [], _, _, _ => rfl
  | x :: xs, y :: ys, a, b, h => by
    simp only [List.zipWith_cons_cons, pm_cons, pstep_xor]
    exact pm_xor xs ys _ _ (by simpa using h)
  | [], _ :: _, _, _, h => by cases h
  | _ :: _, [], _, _, h => by cases h

theorem gbit_lt (t i : Nat) : gbit t i < 2 ^ 30 := by
  unfold gbit gens
  split
  · match i with
    | 0 => decide
    | 1 => decide
    | 2 => decide
    | 3 => decide
    | 4 => decide
    | _ + 5 => simp
  · decide
theorem gx_lt (t : Nat) : gx t < 2 ^ 30 := by
  unfold gx
  exact Nat.xor_lt_two_pow (Nat.xor_lt_two_pow (Nat.xor_lt_two_pow (Nat.xor_lt_two_pow (gbit_lt _ _) (gbit_lt _ _)) (gbit_lt _ _)) (gbit_lt _ _)) (gbit_lt _ _)
theorem pstep_lt {c v : Nat} (hv : v < 32) : pstep c v < 2 ^ 30 := by
  unfold pstep
  refine Nat.xor_lt_two_pow (Nat.xor_lt_two_pow ?_ (by omega)) (gx_lt _)
  have h : c &&& 33554431 < 2 ^ 25 := Nat.lt_of_le_of_lt Nat.and_le_right (by decide)
  rw [Nat.shiftLeft_eq]; omega
theorem pm_lt : ∀ {vs : List Nat} {c : Nat}, c < 2 ^ 30 → (∀ v ∈ vs, v < 32) → pm c vs < 2 ^ 30
  | [], _, h, _ => h
  | v :: vs, c, _, hv => pm_lt (vs := vs) (pstep_lt (hv v (.head _))) fun w hw => hv w (.tail _ hw)

theorem gx_zero : gx 0 = 0 := by decide
theorem shl_xor (c v : Nat) (hv : v < 32) : (c <<< 5) ^^^ v = c * 32 + v := by
  have h := Nat.two_pow_add_eq_or_of_lt (i := 5) (b := v) (by omega) c
  rw [Nat.shiftLeft_eq]
  have e : c * 2 ^ 5 ^^^ v = 2 ^ 5 * c ||| v := by
    rw [Nat.mul_comm]
    apply Nat.eq_of_testBit_eq
    intro j
    rw [Nat.testBit_xor, Nat.testBit_or, Nat.testBit_two_pow_mul]
    by_cases hj : j ≥ 5
    · have : v.testBit j = false := Nat.testBit_lt_two_pow (Nat.lt_of_lt_of_le hv (Nat.pow_le_pow_right (n := 2) (by decide) hj))
      simp [this]
    · simp [hj]
  rw [e, ← h]; omega
theorem pstep_small {c v : Nat} (hc : c < 2 ^ 25) (hv : v < 32) : pstep c v = c * 32 + v := by
  unfold pstep
  have h1 : c >>> 25 = 0 := by rw [Nat.shiftRight_eq_div_pow]; exact Nat.div_eq_of_lt hc
  have h2 : c &&& 33554431 = c := by
    have := Nat.and_two_pow_sub_one_eq_mod c 25
    rw [show (33554431 : Nat) = 2 ^ 25 - 1 by decide, this]; exact Nat.mod_eq_of_lt hc
  rw [h1, gx_zero, h2, Nat.xor_zero, shl_xor c v hv]

/-- base 32, the first digit the highest -/
def pack (ds : List Nat) : Nat := ds.foldl (fun a d => a * 32 + d) 0
theorem pm_pack {a b c d e f : Nat} (ha : a < 32) (hb : b < 32) (hc : c < 32) (hd : d < 32) (he : e < 32) (hf : f < 32) : pm 0 [a, b, c, d, e, f] = pack [a, b, c, d, e, f] := by
  simp only [pm_cons, pm_nil, pack, List.foldl_cons, List.foldl_nil]
  rw [pstep_small (c := 0) (by decide) ha, pstep_small (by omega) hb, pstep_small (by omega) hc, pstep_small (by omega) hd, pstep_small (by omega) he, pstep_small (by omega) hf]
def dig6 (p : Nat) : List Nat := [p / 33554432 % 32, p / 1048576 % 32, p / 32768 % 32, p / 1024 % 32, p / 32 % 32, p % 32]
theorem pack_dig6 {p : Nat} (h : p < 2 ^ 30) : pack (dig6 p) = p := by
  unfold pack dig6
  simp only [List.foldl_cons, List.foldl_nil]
  omega
theorem pm_dig6 {p : Nat} (h : p < 2 ^ 30) : pm 0 (dig6 p) = p := by
  have e := pm_pack (a := p / 33554432 % 32) (b := p / 1048576 % 32) (c := p / 32768 % 32) (d := p / 1024 % 32) (e := p / 32 % 32) (f := p % 32) (by omega) (by omega) (by omega) (by omega) (by omega) (by omega)
  exact e.trans (pack_dig6 h)
/-- a checksum's own check -/
theorem pm_check {c k : Nat} (hc : c < 2 ^ 30) (hk : k < 2 ^ 30) : pm c (dig6 (pm c [0, 0, 0, 0, 0, 0] ^^^ k)) = k := by
  have hz : pm c [0, 0, 0, 0, 0, 0] < 2 ^ 30 := pm_lt hc (by simp)
  have hp := Nat.xor_lt_two_pow hz hk
  have e := pm_xor [0, 0, 0, 0, 0, 0] (dig6 (pm c [0, 0, 0, 0, 0, 0] ^^^ k)) c 0 rfl
  rw [Nat.xor_zero, pm_dig6 hp] at e
  have z : List.zipWith (· ^^^ ·) [0, 0, 0, 0, 0, 0] (dig6 (pm c [0, 0, 0, 0, 0, 0] ^^^ k)) = dig6 (pm c [0, 0, 0, 0, 0, 0] ^^^ k) := by
    unfold dig6; simp only [List.zipWith_cons_cons, Nat.zero_xor, List.zipWith_nil_left]
  rw [z] at e
  rw [e, ← Nat.xor_assoc, Nat.xor_self, Nat.zero_xor]
end Mine
namespace Mine
theorem revInd {α : Type} {P : List α → Prop} (h0 : P []) (h1 : ∀ l a, P l → P (l ++ [a])) (l : List α) : P l := by
  have key : ∀ r : List α, P r.reverse := by
    intro r
    induction r with
    | nil => exact h0
    | cons a r ih => rw [List.reverse_cons]; exact h1 _ _ ih
  have e := key l.reverse
  rwa [List.reverse_reverse] at e

/-- the number that a row of digits of w bits tells, the first the highest -/
def val (w : Nat) (ds : List Nat) : Nat := ds.foldl (fun a d => a * 2 ^ w + d) 0
/-- r digits of w bits of x, the first the highest -/
def dg (w : Nat) : Nat → Nat → List Nat
  | 0, _ => []
  | r + 1, x => dg w r (x / 2 ^ w) ++ [x % 2 ^ w]

theorem dg_length (w : Nat) : ∀ r x, (dg w r x).length = r
  | 0, _ => rfl
  | r + 1, x => by simp [dg, dg_length w r]
theorem dg_lt (w : Nat) : ∀ r x, ∀ d ∈ dg w r x, d < 2 ^ w
  | 0, _, d, h => by cases h
  | r + 1, x, d, h => by
    simp only [dg, List.mem_append, List.mem_singleton] at h
    rcases h with h | rfl
    · exact dg_lt w r _ d h
    · exact Nat.mod_lt _ (Nat.two_pow_pos w)
theorem val_nil (w : Nat) : val w [] = 0 := rfl
theorem val_snoc (w : Nat) (ds : List Nat) (d : Nat) : val w (ds ++ [d]) = val w ds * 2 ^ w + d := by
  simp [val, List.foldl_append]
theorem val_dg (w : Nat) : ∀ r x, val w (dg w r x) = x % 2 ^ (w * r)
  | 0, x => by simp [dg, val, Nat.mod_one]
  | r + 1, x => by
    rw [dg, val_snoc, val_dg w r, Nat.mul_succ, Nat.pow_add, Nat.mul_comm (2 ^ (w * r)), Nat.mod_mul]
    rw [Nat.mul_comm, Nat.add_comm]
theorem val_lt {w : Nat} (ds : List Nat) : (∀ d ∈ ds, d < 2 ^ w) → val w ds < 2 ^ (w * ds.length) := by
  refine revInd (P := fun ds => (∀ d ∈ ds, d < 2 ^ w) → val w ds < 2 ^ (w * ds.length)) ?_ ?_ ds
  · intro _; simp [val]
  · intro l d ih h
    rw [val_snoc, List.length_append, List.length_singleton, Nat.mul_succ, Nat.pow_add]
    have h1 := ih fun x hx => h x (List.mem_append_left _ hx)
    have h2 := h d (by simp)
    have h3 : (val w l + 1) * 2 ^ w ≤ 2 ^ (w * l.length) * 2 ^ w := Nat.mul_le_mul_right _ h1
    rw [Nat.add_mul, Nat.one_mul] at h3
    omega
theorem dg_val {w : Nat} (ds : List Nat) : (∀ d ∈ ds, d < 2 ^ w) → dg w ds.length (val w ds) = ds := by
  refine revInd (P := fun ds => (∀ d ∈ ds, d < 2 ^ w) → dg w ds.length (val w ds) = ds) ?_ ?_ ds
  · intro _; rfl
  · intro l d ih h
    have hd := h d (by simp)
    rw [val_snoc, List.length_append, List.length_singleton, dg]
    have e1 : (val w l * 2 ^ w + d) / 2 ^ w = val w l := by
      rw [Nat.mul_comm, Nat.mul_add_div (Nat.two_pow_pos w), Nat.div_eq_of_lt hd, Nat.add_zero]
    have e2 : (val w l * 2 ^ w + d) % 2 ^ w = d := by
      rw [Nat.mul_comm, Nat.mul_add_mod, Nat.mod_eq_of_lt hd]
    rw [e1, e2, ih fun x hx => h x (List.mem_append_left _ hx)]

/-- what convertbits holds after the inputs whose number is N, b bits left over, r digits of t bits put out -/
structure Cv (t : Nat) (N b r : Nat) (acc : Nat) (ret : List Nat) : Prop where
  acc : acc = N % 4096
  ret : ret = dg t r (N / 2 ^ b)

theorem cv_zero (t : Nat) : Cv t 0 0 0 0 [] := ⟨rfl, rfl⟩
/-- one input of f bits taken in -/
theorem cv_in {t N b r acc : Nat} {ret : List Nat} (f v : Nat) (hv : v < 2 ^ f) (h : Cv t N b r acc ret) :
    Cv t (N * 2 ^ f + v) (b + f) r ((acc * 2 ^ f + v) % 4096) ret := by
  refine ⟨?_, ?_⟩
  · rw [h.acc, Nat.add_mod, Nat.mod_mul_mod, ← Nat.add_mod]
  · rw [h.ret]
    congr 1
    rw [Nat.add_comm b f, Nat.pow_add, ← Nat.div_div_eq_div_mul]
    congr 1
    rw [Nat.mul_comm, Nat.mul_add_div (Nat.two_pow_pos f), Nat.div_eq_of_lt hv, Nat.add_zero]
/-- one digit put out -/
theorem cv_out {t N b r acc : Nat} {ret : List Nat} (h : Cv t N (b + t) r acc ret) (hb : b + t ≤ 12) :
    Cv t N b (r + 1) acc (ret ++ [acc / 2 ^ b % 2 ^ t]) := by
  refine ⟨h.acc, ?_⟩
  rw [h.ret, dg, Nat.div_div_eq_div_mul, ← Nat.pow_add, h.acc]
  congr 2
  have e : (4096 : Nat) = 2 ^ b * (2 ^ t * 2 ^ (12 - (b + t))) := by
    rw [← Nat.pow_add, ← Nat.pow_add]
    have : b + (t + (12 - (b + t))) = 12 := by omega
    rw [this]
  rw [e, Nat.mod_mul_right_div_self, Nat.mod_mul_right_mod]

/-- eight bits to five, with the filling -/
def to5 (p : List Nat) : List Nat := dg 5 ((8 * p.length + 4) / 5) (val 8 p * 2 ^ (5 * ((8 * p.length + 4) / 5) - 8 * p.length))
theorem to5_length (p : List Nat) : (to5 p).length = (8 * p.length + 4) / 5 := dg_length _ _ _
theorem to5_lt (p : List Nat) : ∀ d ∈ to5 p, d < 32 := dg_lt 5 _ _
theorem val_to5 {p : List Nat} (h : ∀ d ∈ p, d < 256) : val 5 (to5 p) = val 8 p * 2 ^ (5 * ((8 * p.length + 4) / 5) - 8 * p.length) := by
  unfold to5
  rw [val_dg]
  refine Nat.mod_eq_of_lt ?_
  have h1 := val_lt (w := 8) p h
  have e : 2 ^ (5 * ((8 * p.length + 4) / 5)) = 2 ^ (8 * p.length) * 2 ^ (5 * ((8 * p.length + 4) / 5) - 8 * p.length) := by
    rw [← Nat.pow_add]; congr 1; omega
  rw [e]
  exact Nat.mul_lt_mul_of_pos_right h1 (Nat.two_pow_pos _)
/-- and back -/
theorem back8 {p : List Nat} (h : ∀ d ∈ p, d < 256) : dg 8 p.length (val 5 (to5 p) / 2 ^ (5 * ((8 * p.length + 4) / 5) - 8 * p.length)) = p := by
  rw [val_to5 h, Nat.mul_div_cancel _ (Nat.two_pow_pos _)]
  exact dg_val (w := 8) p h
end Mine
namespace Mine
/-- the signs of n in base 58, the lowest first; k: as many as may come -/
def leF : Nat → Nat → List Nat
  | 0, _ => []
  | k + 1, n => if n = 0 then [] else n % 58 :: leF k (n / 58)
theorem leF_zero : ∀ k, leF k 0 = []
  | 0 => rfl
  | _ + 1 => rfl
theorem leF_pos {k n : Nat} (h : n ≠ 0) : leF (k + 1) n = n % 58 :: leF k (n / 58) := by simp [leF, h]
theorem leF_lt : ∀ k n, ∀ d ∈ leF k n, d < 58
  | 0, _, _, h => by cases h
  | k + 1, n, d, h => by
    unfold leF at h
    split at h
    · cases h
    · rcases List.mem_cons.mp h with rfl | h
      · exact Nat.mod_lt _ (by decide)
      · exact leF_lt k _ d h
theorem leF_len : ∀ (k n m : Nat), n < 58 ^ m → (leF k n).length ≤ m
  | 0, _, _, _ => by simp [leF]
  | k + 1, n, m, h => by
    unfold leF
    split
    · simp
    · rename_i hn
      cases m with
      | zero => simp at h; omega
      | succ m =>
        rw [List.length_cons]
        have := leF_len k (n / 58) m (by rw [Nat.pow_succ] at h; omega)
        omega
theorem leF_len_ge : ∀ (m k n : Nat), m < k → 58 ^ m ≤ n → m + 1 ≤ (leF k n).length
  | 0, k + 1, n, _, h => by
    rw [leF_pos (by simp at h; omega)]; simp
  | m + 1, k + 1, n, hk, h => by
    have h0 : n ≠ 0 := by have := Nat.pow_pos (n := m + 1) (show 0 < 58 by decide); omega
    rw [leF_pos h0, List.length_cons]
    have := leF_len_ge m k (n / 58) (by omega) (by rw [Nat.pow_succ] at h; omega)
    omega
/-- the highest signs are those of n / 58 ^ i -/
theorem leF_split : ∀ (i k n : Nat), n / 58 ^ i ≠ 0 → ∃ pre : List Nat, pre.length = i ∧ leF (i + k) n = pre ++ leF k (n / 58 ^ i)
  | 0, k, n, _ => ⟨[], rfl, by simp⟩
  | i + 1, k, n, h => by
    have e : n / 58 ^ (i + 1) = n / 58 / 58 ^ i := by rw [Nat.pow_succ, Nat.mul_comm, Nat.div_div_eq_div_mul]
    rw [e] at h ⊢
    obtain ⟨pre, hl, he⟩ := leF_split i k (n / 58) h
    have h0 : n ≠ 0 := by
      intro z; subst z; simp at h
    refine ⟨n % 58 :: pre, by simp [hl], ?_⟩
    rw [show i + 1 + k = (i + k) + 1 by omega, leF_pos h0, he]; rfl
/-- more room changes nothing -/
theorem leF_more : ∀ (k n j : Nat), n < 58 ^ k → leF (k + j) n = leF k n
  | 0, n, j, h => by
    have : n = 0 := by simpa using h
    subst this; rw [leF_zero, leF_zero]
  | k + 1, n, j, h => by
    by_cases h0 : n = 0
    · subst h0; rw [leF_zero, leF_zero]
    · rw [show k + 1 + j = (k + j) + 1 by omega, leF_pos h0, leF_pos h0, leF_more k (n / 58) j (by rw [Nat.pow_succ] at h; omega)]

/-- what a row of signs tells, the first the highest -/
def un58 (ds : List Nat) : Nat := ds.foldl (fun a d => a * 58 + d) 0
theorem un58_snoc (ds : List Nat) (d : Nat) : un58 (ds ++ [d]) = un58 ds * 58 + d := by simp [un58, List.foldl_append]
theorem un58_leF : ∀ (k n : Nat), n < 58 ^ k → un58 (leF k n).reverse = n
  | 0, n, h => by have : n = 0 := by simpa using h
                  subst this; rfl
  | k + 1, n, h => by
    by_cases h0 : n = 0
    · subst h0; rw [leF_zero]; rfl
    · rw [leF_pos h0, List.reverse_cons, un58_snoc, un58_leF k (n / 58) (by rw [Nat.pow_succ] at h; omega)]; omega

/-- the number of a row of octets -/
def num (b : List Nat) : Nat := b.foldl (fun a d => a * 256 + d) 0
theorem num_from (b : List Nat) : ∀ a, b.foldl (fun a d => a * 256 + d) a = a * 256 ^ b.length + num b := by
  unfold num
  induction b with
  | nil => intro a; simp
  | cons c r ih =>
    intro a
    rw [List.foldl_cons, List.foldl_cons, ih, ih (0 * 256 + c), List.length_cons, Nat.pow_succ, Nat.add_mul, Nat.mul_assoc, Nat.mul_comm 256, Nat.zero_mul, Nat.zero_add]
    omega
theorem num_append (a b : List Nat) : num (a ++ b) = num a * 256 ^ b.length + num b := by
  unfold num; rw [List.foldl_append]; exact num_from b _
theorem num_cons (c : Nat) (b : List Nat) : num (c :: b) = c * 256 ^ b.length + num b := by
  have := num_append [c] b
  simpa [num] using this
theorem num_lt : ∀ {b : List Nat}, (∀ d ∈ b, d < 256) → num b < 256 ^ b.length
  | [], _ => by decide
  | c :: r, h => by
    rw [num_cons, List.length_cons, Nat.pow_succ]
    have h1 := num_lt (b := r) fun d hd => h d (.tail _ hd)
    have h2 := h c (.head _)
    have h3 : (c + 1) * 256 ^ r.length ≤ 256 * 256 ^ r.length := Nat.mul_le_mul_right _ h2
    rw [Nat.add_mul, Nat.one_mul] at h3
    rw [Nat.mul_comm (256 ^ r.length)]
    omega
/-- between two numbers with the same head the head is the same -/
theorem head_same {n lo hi d q : Nat} (h1 : lo ≤ n) (h2 : n ≤ hi) (e1 : lo / d = q) (e2 : hi / d = q) : n / d = q := by
  have a := Nat.div_le_div_right (c := d) h1
  have b := Nat.div_le_div_right (c := d) h2
  omega
end Mine
namespace Mine
/-- the octets of bytes as numbers -/
def bl (b : Array UInt8) : List Nat := b.toList.map UInt8.toNat
theorem bl_length (b : Array UInt8) : (bl b).length = b.size := by simp [bl]
theorem bl_append (b c : Array UInt8) : bl (b ++ c) = bl b ++ bl c := by simp [bl]
theorem bl_lt (b : Array UInt8) : ∀ d ∈ bl b, d < 256 := by
  intro d hd
  obtain ⟨c, _, rfl⟩ := List.mem_map.mp hd
  exact c.toNat_lt
theorem num_bl (b : Array UInt8) : b.toList.foldl (fun (acc : Nat) (c : UInt8) => acc * 256 + c.toNat) 0 = num (bl b) := by
  unfold num bl
  rw [List.foldl_map]
theorem num_bl_lt (b : Array UInt8) : num (bl b) < 256 ^ b.size := by
  have h := num_lt (b := bl b) (bl_lt b)
  rwa [bl_length] at h
theorem pow256 (k : Nat) : 256 ^ k = 2 ^ (8 * k) := by rw [Nat.pow_mul]
theorem bits_of_lt {n k : Nat} (h : n < 2 ^ k) : Builtin.Int.intBits (n : Int) ≤ k := intBits_le_iff.mpr (by simpa using h)

section
variable {prog : Program} {w : World} {M : Model} {A : Around} {E : Value → Shared → Prop} {s : Shared}

theorem grown_of {n k : Nat} {Q : Value → Shared → Prop} (hk : k ≤ 100000) (hn : n < 2 ^ k) (h : Q (.int (n : Int) s.toks) { s with toks := s.toks + 1 }) : wpAny M A (mkIntGrown (n : Int)) Q E s := by
  unfold mkIntGrown
  have hb : bitsLine = 134217728 := by decide
  have hl : ¬ ((n : Int).natAbs.log2 ≥ bitsLine) := by
    rw [Int.natAbs_natCast, hb]
    by_cases hz : n = 0
    · subst hz; simp
    · have h1 := (Nat.log2_lt hz).mpr hn
      omega
  rw [if_neg hl]
  exact wpAny_mkInt h

/-- int.from_bytes of some thousand octets, the highest first -/
theorem fb_tree {b : Array UInt8} {t u : Tok} {P : Fin → Shared → Prop} (hl : b.size ≤ 4096) (h : P (.done (.ret (.int ((num (bl b) : Nat) : Int) s.toks))) { s with toks := s.toks + 1 }) :
    wpAny M A (Builtin.«int.from_bytes» ⟨[.type "int", .bytes b t, .str (PySem.Str.ofString "big") u], []⟩) P E s := by
  have hn : num (bl b) < 2 ^ (8 * b.size) := by
    rw [← pow256]
    exact num_bl_lt b
  unfold Builtin.«int.from_bytes»
  refine wpAny_bind (wpAny_of_eq (a := true) KFB.type_int (KFB.if_not rfl ?_))
  refine wpAny_bind (wpAny_of_eq (a := true) F.conv_sub_int (KFB.if_not rfl ?_))
  refine wpAny_bind (wpAny_of_eq (a := [some (.bytes b t), some (.str (PySem.Str.ofString "big") u), none]) (by kernel_rfl) ?_)
  refine wpAny_bind (wpAny_of_eq (a := PySem.Str.ofString "big") (by kernel_rfl) ?_)
  refine wpAny_bind (wpAny_of_eq (a := false) rfl ?_)
  refine wpAny_bind (wpAny_of_eq (a := false) (by kernel_rfl) ?_)
  refine wpAny_bind (wpAny_of_eq (a := b) rfl ?_)
  have hf := KFB.foldI_eq b.toList 0
  rw [num_bl] at hf
  show wpAny _ _ (mkIntGrown (b.toList.foldl (fun (acc : Int) (c : UInt8) => acc * 256 + (c.toNat : Int)) ((0 : Nat) : Int)) >>= _) _ _ _
  rw [hf]
  refine wpAny_bind (grown_of (by omega) hn (KFB.if_so (by decide +kernel) ?_))
  exact wpAny_bind (wpAny_pure (wpAny_pure h))
theorem fb_call {h₀ : Heap} {L : Addr} {news : List (Addr × Obj)} {x : Addr} {b : Array UInt8} {t u : Tok} {Q : Value → Shared → Prop} (N : News h₀ L s.heap news) (hm : (x, KFB.bound) ∈ news) (hl : b.size ≤ 4096)
    (h : ∀ t' k, Q (.int ((num (bl b) : Nat) : Int) t') { s with toks := k }) : wpAny (model prog w) A (call (.ref x) [.bytes b t, .str (PySem.Str.ofString "big") u]) Q E s :=
  KFB.call_of (KFB.at_of N hm) (fun z => fb_tree hl z) (h _ _)

/-- the octets of to_bytes -/
def octs (n : Nat) (x : Nat) : Array UInt8 := (KTBy.low (x : Int) n).reverse.toArray
theorem octs_size (n x : Nat) : (octs n x).size = n := by simp [octs, KTBy.low_length]
theorem dg_rev (x : Nat) : ∀ n, dg 8 n x = ((List.range n).map fun i => x / 256 ^ i % 256).reverse
  | 0 => rfl
  | n + 1 => by
    have ih := dg_rev (x / 256) n
    rw [dg, show (2 : Nat) ^ 8 = 256 by decide, ih, List.range_succ_eq_map, List.map_cons, List.reverse_cons, List.map_map]
    congr 2
    · refine List.map_congr_left fun i _ => ?_
      show x / 256 / 256 ^ i % 256 = x / 256 ^ (i + 1) % 256
      rw [Nat.div_div_eq_div_mul, Nat.pow_succ, Nat.mul_comm 256]
    · simp
theorem bl_octs {n x : Nat} (h : x < 256 ^ n) : bl (octs n x) = dg 8 n x := by
  have e := KTBy.low_ints (x := (x : Int)) (n := n) (by omega) (by rw [KTBy.p256]; exact Int.ofNat_lt.mpr h)
  rw [dg_rev]
  unfold bl octs
  rw [List.map_reverse]
  refine congrArg List.reverse ?_
  have e2 : ((KTBy.low (x : Int) n).map UInt8.toNat).map (fun k : Nat => (k : Int)) = ((List.range n).map fun i => x / 256 ^ i % 256).map (fun k : Nat => (k : Int)) := by
    rw [List.map_map, List.map_map]
    refine Eq.trans ?_ (e.trans ?_)
    · rfl
    · refine List.map_congr_left fun i _ => ?_
      rw [KTBy.p256]; rfl
  exact (List.map_inj_right (f := fun k : Nat => (k : Int)) fun a b h => Int.ofNat.inj h).mp e2
/-- int.to_bytes, the highest octet first -/
theorem tb_call {x k : Nat} {t u v : Tok} {Q : Value → Shared → Prop} (hk : k ≤ 4096) (hx : x < 256 ^ k) (h : ∀ t' k', Q (.bytes (octs k x) t') { s with toks := k' }) :
    wpAny (model prog w) A (call (.builtin "int.to_bytes") [.int (x : Int) t, .int (k : Int) u, .str (PySem.Str.ofString "big") v]) Q E s := by
  refine wpAny_call_entry KTBy.slot (typeIs_int s _ t) KTBy.entry ?_ (KTBy.args _ _ _)
  have hb : Builtin.Int.intBits (x : Int) ≤ 8 * k := bits_of_lt (by rwa [pow256] at hx)
  refine wpAny_bind (wpAny_of_eq (a := (x : Int)) rfl ?_)
  refine wpAny_bind (wpAny_of_eq (a := [some (.int (k : Int) u), some (.str (PySem.Str.ofString "big") v), none]) (by kernel_rfl) ?_)
  refine wpAny_bind (wpAny_of_eq (a := (k : Int)) rfl ?_)
  refine KTBy.if_not (by simp only [Bool.or_eq_false_iff, decide_eq_false_iff_not]; omega) ?_
  refine wpAny_bind (wpAny_of_eq (a := PySem.Str.ofString "big") (by kernel_rfl) ?_)
  refine wpAny_bind (wpAny_of_eq (a := false) rfl ?_)
  refine wpAny_bind (wpAny_of_eq (a := false) (by kernel_rfl) ?_)
  refine wpAny_ite_false (decide_eq_false (by omega)) ?_
  refine wpAny_ite_false (decide_eq_false (by omega)) ?_
  refine wpAny_ite_false (decide_eq_false (by rw [sizeLine_eq]; omega)) ?_
  refine KTBy.if_not (by simp) ?_
  refine KTBy.if_not (by
    simp only [Bool.and_eq_false_iff, decide_eq_false_iff_not, Bool.false_eq_true, if_false]; right; omega) ?_
  refine wpAny_bind (wpAny_mkBytes (wpAny_pure ⟨_, rfl, h _ _⟩) ?_)
  show (List.reverse (KTBy.low (x : Int) (Int.toNat (k : Int)))).length ≤ sizeLine
  rw [List.length_reverse, KTBy.low_length, Int.toNat_natCast, sizeLine_eq]
  omega
end
end Mine
namespace Mine
section
variable {prog : Program} {w : World} {M : Model} {A : Around} {E : Value → Shared → Prop} {s : Shared} {b c : Array UInt8} {t u : Tok} {Q : Value → Shared → Prop} {h₀ : Heap} {L : Addr} {m : PySem.Str → Option Value} {news : List (Addr × Obj)}
/-- bytes put together -/
theorem badd (hsz : b.size + c.size ≤ 16777216) (h : ∀ t' k, Q (.bytes (b ++ c) t') { s with toks := k }) : wpAny (model prog w) A (binaryOp .Add (.bytes b t) (.bytes c u)) Q E s :=
  KBa.add_K rfl rfl (by rw [KBw.ints_length, KBw.ints_length]; exact hsz) fun t' k _ => h t' k
theorem blen (hsz : b.size ≤ 16777216) (h : ∀ t' k, Q (.int (b.size : Int) t') { s with toks := k }) : wpAny (model prog w) A (call (.builtin "len") [.bytes b t]) Q E s :=
  KBw.len_K rfl (by rw [KBw.ints_length]; omega) (by rw [KBw.ints_length]; exact h _ _)
/-- a cut of bytes -/
theorem bcut {value slice : PySem.Expr} {l r : Value} {lo hi : Option Int} (hF : Fr h₀ L s.heap m) (hN : News h₀ L s.heap news) (hl : IsPart l lo) (hu : IsPart r hi) (hz : b.size ≤ 16777216)
    (h : ∀ h' t' k, Fr h₀ L h' m → News h₀ L h' news → Q (.bytes (KBy.picked b lo hi) t') { s with heap := h', toks := k })
    (hs : subscripted slice false (.bytes b t) (.ref s.heap.objs.size) = operate [.ref s.heap.objs.size, .bytes b t] (getItem (.bytes b t) (.ref s.heap.objs.size)) := by with_unfolding_all rfl)
    (ht : ∀ r, letTemporaryGo value (.bytes b t) r = pure () := by intro _; with_unfolding_all rfl) :
    wpAny (model prog w) A (subscriptTail value slice (.bytes b t) (.ref s.heap.objs.size)) Q E { s with heap := s.heap.push { cls := .type "slice", data := .fields #[l, r, .none] } } :=
  KBc.slice_K hF hN rfl hl hu (by rw [KBw.ints_length]; exact hz) (fun h' t' k F N _ => h h' t' k F N) hs ht
/-- the square, the factor, the rest, as Sha256.digest reckons them -/
theorem pow_num {z : Array UInt8} (hz : z.size ≤ 4096) (h : ∀ t' k', Q (.int ((num (bl z) ^ 2 : Nat) : Int) t') { s with toks := k' }) : wpAny (model prog w) A (binaryOp .Pow (.int ((num (bl z) : Nat) : Int) t) (.int 2 u)) Q E s := by
  have hn := num_bl_lt z
  rw [pow256] at hn
  have hb := bits_of_lt hn
  refine pow_int (by decide) (by omega) ?_
  have e : ((num (bl z) : Nat) : Int) ^ (2 : Int).toNat = ((num (bl z) ^ 2 : Nat) : Int) := by rw [Int.natCast_pow]; rfl
  rw [e]; exact h _ _
theorem sq_lt {n k : Nat} (h : n < 2 ^ k) : n ^ 2 < 2 ^ (k * 2) := by
  rw [Nat.pow_mul]; exact Nat.pow_lt_pow_left h (by decide)
theorem mul_num {z : Array UInt8} {c : Int} {j : Nat} (hz : z.size ≤ 4096) (hc : Builtin.Int.intBits c ≤ j) (hj : j ≤ 1000) (h : ∀ t' k', Q (.int (((num (bl z) ^ 2 : Nat) : Int) * c) t') { s with toks := k' }) : wpAny (model prog w) A (binaryOp .Mult (.int ((num (bl z) ^ 2 : Nat) : Int) t) (.int c u)) Q E s := by
  have hn := num_bl_lt z
  rw [pow256] at hn
  have hb := bits_of_lt (sq_lt hn)
  exact PyProof.Rows.mul_int (h _ _) (IntMulOk.of_le hb hc (by omega))
end
/-- what Sha256.digest reckons out of its octets -/
def shaC : Nat := 48181483302151357469556550866566148933
def shaP : Nat := 57896044618658097711785492504343953926634992332820282019728792003956564819949
def shaN (b : Array UInt8) : Nat := num (bl (#[1] ++ b)) ^ 2 * shaC % shaP
theorem shaN_lt (b : Array UInt8) : shaN b < 256 ^ 32 := Nat.lt_trans (Nat.mod_lt _ (by decide +kernel)) (by decide +kernel)
def dsha (b : Array UInt8) : Array UInt8 := octs 32 (shaN (octs 32 (shaN b)))
theorem dsha_size (b : Array UInt8) : (dsha b).size = 32 := octs_size _ _
theorem mul_sha {prog : Program} {w : World} {A : Around} {E : Value → Shared → Prop} {s : Shared} {t u : Tok} {Q : Value → Shared → Prop} {z : Array UInt8} (hz : z.size ≤ 4096) (h : ∀ t' k', Q (.int ((num (bl z) ^ 2 * shaC : Nat) : Int) t') { s with toks := k' }) :
    wpAny (model prog w) A (binaryOp .Mult (.int ((num (bl z) ^ 2 : Nat) : Int) t) (.int 48181483302151357469556550866566148933 u)) Q E s :=
  mul_num (j := 128) hz (by decide +kernel) (by decide) fun t' k' => by
    have e : ((num (bl z) ^ 2 : Nat) : Int) * 48181483302151357469556550866566148933 = ((num (bl z) ^ 2 * shaC : Nat) : Int) := by
      rw [Int.natCast_mul]; rfl
    rw [e]; exact h t' k'
theorem mod_sha {prog : Program} {w : World} {A : Around} {E : Value → Shared → Prop} {s : Shared} {t u : Tok} {Q : Value → Shared → Prop} {z : Array UInt8} {d : Int} (hd : d = ((shaP : Nat) : Int)) (h : ∀ t' k', Q (.int ((shaN z : Nat) : Int) t') { s with toks := k' }) :
    wpAny (model prog w) A (binaryOp .Mod (.int ((num (bl (#[1] ++ z)) ^ 2 * shaC : Nat) : Int) t) (.int d u)) Q E s := by
  subst hd
  refine mod_int' (by decide +kernel) ?_
  have e : Int.fmod ((num (bl (#[1] ++ z)) ^ 2 * shaC : Nat) : Int) ((shaP : Nat) : Int) = ((shaN z : Nat) : Int) := by
    rw [Int.fmod_eq_emod_of_nonneg _ (by omega)]; rfl
  rw [e]; exact h _ _
end Mine
namespace Mine
/-- the signs of base 58, as numbers -/
def b58s : List Nat := [49, 50, 51, 52, 53, 54, 55, 56, 57, 65, 66, 67, 68, 69, 70, 71, 72, 74, 75, 76, 77, 78, 80, 81, 82, 83, 84, 85, 86, 87, 88, 89, 90, 97, 98, 99, 100, 101, 102, 103, 104, 105, 106, 107, 109, 110, 111, 112, 113, 114, 115, 116, 117, 118, 119, 120, 121, 122]
theorem b58_str : PySem.Str.ofString "123456789ABCDEFGHJKLMNPQRSTUVWXYZabcdefghijkmnopqrstuvwxyz" = ⟨b58s.toArray⟩ := by decide +kernel
/-- a text of the signs l -/
abbrev txt (l : List Nat) : Str := ⟨l.toArray⟩
/-- the sign of a figure in base 58, a text of one sign -/
def sgn (d : Nat) : Str := txt [b58s.getD d 0]
section
variable {prog : Program} {w : World} {A : Around} {E : Value → Shared → Prop} {s : Shared} {value slice : PySem.Expr} {t u : Tok} {Q : Value → Shared → Prop}
theorem item_txt {l : List Nat} {i : Int} (h0 : 0 ≤ i) (h1 : i < l.length) (hl : l.length < 9223372036854775808) (h : ∀ t' k, Q (.str (txt [l.getD i.toNat 0]) t') { s with toks := k })
    (hs : subscripted slice false (.str (txt l) t) (.int i u) = operate [.str (txt l) t, .int i u] (getItem (.str (txt l) t) (.int i u)) := by with_unfolding_all rfl)
    (ht : ∀ r, letTemporaryGo value (.str (txt l) t) r = pure () := by intro _; with_unfolding_all rfl) :
    wpAny (model prog w) A (subscriptTail value slice (.str (txt l) t) (.int i u)) Q E s := by
  have hlen : (txt l).length = l.length := by simp [Str.length]
  refine item_str (fitsSsize_of (N := 9223372036854775808) (by omega) (by omega) (Int.le_refl _)) (by rw [hlen]; omega) (by rw [hlen]; omega) (fun _ => ?_) hs ht
  have e : Txt.item (txt l) i = txt [l.getD i.toNat 0] := by
    obtain ⟨k, rfl⟩ := Int.eq_ofNat_of_zero_le h0
    have hk : k < l.length := by omega
    have hx : seqIndex? (k : Int) (txt l).length = some k := by
      rw [hlen]
      have hn : ¬ ((k : Int) < 0) := by omega
      simp only [seqIndex?, hn, if_false]
      simp [hk]
    unfold Txt.item Txt.charAt
    rw [hx]
    simp [hk]
  rw [e]; exact h _ _
theorem item_b58 {i : Int} (h0 : 0 ≤ i) (h1 : i < 58) (h : ∀ t' k, Q (.str (sgn i.toNat) t') { s with toks := k })
    (hs : subscripted slice false (.str (PySem.Str.ofString "123456789ABCDEFGHJKLMNPQRSTUVWXYZabcdefghijkmnopqrstuvwxyz") t) (.int i u) = operate [.str (PySem.Str.ofString "123456789ABCDEFGHJKLMNPQRSTUVWXYZabcdefghijkmnopqrstuvwxyz") t, .int i u] (getItem (.str (PySem.Str.ofString "123456789ABCDEFGHJKLMNPQRSTUVWXYZabcdefghijkmnopqrstuvwxyz") t) (.int i u)) := by with_unfolding_all rfl)
    (ht : ∀ r, letTemporaryGo value (.str (PySem.Str.ofString "123456789ABCDEFGHJKLMNPQRSTUVWXYZabcdefghijkmnopqrstuvwxyz") t) r = pure () := by intro _; with_unfolding_all rfl) :
    wpAny (model prog w) A (subscriptTail value slice (.str (PySem.Str.ofString "123456789ABCDEFGHJKLMNPQRSTUVWXYZabcdefghijkmnopqrstuvwxyz") t) (.int i u)) Q E s := by
  rw [b58_str] at hs ht ⊢
  exact item_txt h0 (by show i < 58; exact h1) (by decide) h hs ht
end

/-- what the loop of base 58 keeps: N's signs are those that stand and those of n -/
def EncI (N : Nat) (n : Int) (chars : List Str) : Prop := 0 ≤ n ∧ ∃ j, chars.length + j = 150 ∧ (leF 150 N).map sgn = chars ++ (leF j n.toNat).map sgn ∧ n.toNat < 58 ^ j
theorem encI_start {N : Nat} (h : N < 58 ^ 150) : EncI N (N : Int) [] := ⟨by omega, 150, rfl, by simp, by simpa using h⟩
theorem encI_pos {N : Nat} {n : Int} {chars : List Str} (h : EncI N n chars) : 0 ≤ n := h.1
theorem encI_len {N : Nat} {n : Int} {chars : List Str} (h : EncI N n chars) : chars.length ≤ 150 := by obtain ⟨_, j, hj, _⟩ := h; omega
theorem encI_room {N : Nat} {n : Int} {chars : List Str} (h : EncI N n chars) (hn : 0 < n) : chars.length < 150 := by
  obtain ⟨_, j, hj, _, hlt⟩ := h
  cases j with
  | zero => simp at hlt; omega
  | succ j => omega
theorem encI_step {N : Nat} {n : Int} {chars : List Str} (h : EncI N n chars) (hn : 0 < n) : EncI N (n.fdiv 58) (chars ++ [sgn (n.fmod 58).toNat]) := by
  obtain ⟨_, j, hj, he, hlt⟩ := h
  obtain ⟨k, rfl⟩ := Int.eq_ofNat_of_zero_le (Int.le_of_lt hn)
  rw [Int.toNat_natCast] at he hlt
  have hd : (k : Int).fdiv 58 = ((k / 58 : Nat) : Int) := by rw [Int.fdiv_eq_ediv_of_nonneg _ (by decide)]; rfl
  have hm : (k : Int).fmod 58 = ((k % 58 : Nat) : Int) := by rw [Int.fmod_eq_emod_of_nonneg _ (by decide)]; rfl
  rw [hd, hm]
  cases j with
  | zero => simp at hlt; omega
  | succ j =>
    refine ⟨by omega, j, by simp; omega, ?_, ?_⟩
    · rw [he, leF_pos (by omega), Int.toNat_natCast, Int.toNat_natCast]; simp
    · rw [Int.toNat_natCast]; rw [Nat.pow_succ] at hlt; omega
theorem encI_end {N : Nat} {n : Int} {chars : List Str} (h : EncI N n chars) (hn : ¬ 0 < n) : chars = (leF 150 N).map sgn := by
  obtain ⟨h0, j, hj, he, hlt⟩ := h
  have : n.toNat = 0 := by omega
  rw [this, leF_zero] at he
  simp at he
  exact he.symm
theorem int_fmod_lo (a : Int) {d : Int} (h : 0 < d) : 0 ≤ a.fmod d := Int.fmod_nonneg_of_pos a h
theorem int_fmod_hi (a : Int) {d : Int} (h : 0 < d) : a.fmod d < d := Int.fmod_lt_of_pos a h
theorem num_lt_150 {b : Array UInt8} (h : b.size ≤ 100) : num (bl b) < 58 ^ 150 := by
  refine Nat.lt_of_lt_of_le (num_bl_lt b) (Nat.le_trans (Nat.pow_le_pow_right (by decide) h) ?_)
  decide +kernel
/-- the same of the number of some octets -/
structure EncB (b : Array UInt8) (n : Int) (chars : List Str) : Prop where
  i : EncI (num (bl b)) n chars
theorem encB_start {b : Array UInt8} {n : Nat} (hb : b.size ≤ 100) (h : n = num (bl b)) : EncB b (n : Int) [] := ⟨by subst h; exact encI_start (num_lt_150 hb)⟩
theorem encB_step {b : Array UInt8} {n : Int} {chars : List Str} (h : EncB b n chars) (hn : 0 < n) : EncB b (n.fdiv 58) (chars ++ [sgn (n.fmod 58).toNat]) := ⟨encI_step h.i hn⟩
theorem encB_len {b : Array UInt8} {n : Int} {chars : List Str} (h : EncB b n chars) : chars.length ≤ 150 := encI_len h.i
theorem encB_end {b : Array UInt8} {n : Int} {chars : List Str} (h : EncB b n chars) (hn : ¬ 0 < n) : chars = (leF 150 (num (bl b))).map sgn := encI_end h.i hn
theorem encB_less {b : Array UInt8} {n : Int} {chars : List Str} (_ : EncB b n chars) (hn : 0 < n) : (n.fdiv 58).toNat < n.toNat := by
  obtain ⟨k, rfl⟩ := Int.eq_ofNat_of_zero_le (Int.le_of_lt hn)
  rw [show (k : Int).fdiv 58 = ((k / 58 : Nat) : Int) by rw [Int.fdiv_eq_ediv_of_nonneg _ (by decide)]; rfl, Int.toNat_natCast, Int.toNat_natCast]
  omega
theorem fb_callN {prog : Program} {w : World} {A : Around} {E : Value → Shared → Prop} {s : Shared} {h₀ : Heap} {L : Addr} {news : List (Addr × Obj)} {x : Addr} {b : Array UInt8} {t u : Tok} {Q : Value → Shared → Prop} (N : News h₀ L s.heap news) (hm : (x, KFB.bound) ∈ news) (hl : b.size ≤ 4096)
    (h : ∀ (n : Nat) t' k, n = num (bl b) → Q (.int (n : Int) t') { s with toks := k }) : wpAny (model prog w) A (call (.ref x) [.bytes b t, .str (PySem.Str.ofString "big") u]) Q E s :=
  fb_call N hm hl fun t' k => h _ t' k rfl
end Mine
namespace Mine
section
variable {prog : Program} {w : World} {A : Around} {E : Value → Shared → Prop} {Q : Flow → Shared → Prop} {s : Shared} {env : Env} {h₀ : Heap} {L : Addr} {news : List (Addr × Obj)} {m₀ : Str → Option Value} {σ : Type}

/-- a while that turns names of the frame alone -/
theorem while0 {test : Expr} {body : List Stmt} {pos : Pos} (F : Fr h₀ L s.heap m₀) (N : News h₀ L s.heap news) (ps : σ → List (Str × Value)) (stored : List Str) (P : σ → Prop) (μ : σ → Nat) (c₀ : σ)
    (hk : ∀ p ∈ ps c₀, m₀ p.1 = some p.2) (hp : P c₀)
    (turn : ∀ (c : σ) (u : Str → Option Value) h tk, P c → Fr h₀ L h (kstB (fun z => if stored.contains z then u z else m₀ z) (ps c)) → News h₀ L h news →
      wpAny (model prog w) A (isTrue test env (eval test env)) (fun b s₂ =>
        if b = true then wpAny (model prog w) A (execs body env) (KswPost h₀ L s (fun _ => news) ps (fun _ => True) stored m₀ P μ Q c) E s₂ else Q .next s₂) E { s with heap := h, toks := tk })
    (hE : PassesOwn (model prog w) A env E) :
    wpAny (model prog w) A (exec (.While test body [] pos) env) Q E s :=
  ksw_while (fun _ => news) ps (fun _ => True) stored P μ c₀ F N trivial hk hp (fun c u h tk _ hp F N => turn c u h tk hp F N) hE
/-- a while that turns names of the frame and the newest list -/
theorem while1 {test : Expr} {body : List Stmt} {pos : Pos} {lc : Addr} {us₀ : Array Value} {n₀ : Nat} (F : Fr h₀ L s.heap m₀) (N : News h₀ L s.heap ((lc, W.listOf us₀ n₀) :: news)) (its : σ → List Value) (cnt : σ → Nat) (ps : σ → List (Str × Value)) (stored : List Str) (P : σ → Prop) (μ : σ → Nat) (c₀ : σ)
    (h1 : us₀ = (its c₀).toArray) (h2 : n₀ = cnt c₀) (hk : ∀ p ∈ ps c₀, m₀ p.1 = some p.2) (hp : P c₀)
    (turn : ∀ (c : σ) (u : Str → Option Value) h tk, P c → Fr h₀ L h (kstB (fun z => if stored.contains z then u z else m₀ z) (ps c)) → News h₀ L h ((lc, W.listOf (its c).toArray (cnt c)) :: news) →
      wpAny (model prog w) A (isTrue test env (eval test env)) (fun b s₂ =>
        if b = true then wpAny (model prog w) A (execs body env) (KswPost h₀ L s (fun c => (lc, W.listOf (its c).toArray (cnt c)) :: news) ps (fun _ => True) stored m₀ P μ Q c) E s₂ else Q .next s₂) E { s with heap := h, toks := tk })
    (hE : PassesOwn (model prog w) A env E) :
    wpAny (model prog w) A (exec (.While test body [] pos) env) Q E s := by
  subst h1; subst h2
  exact ksw_while (fun c => (lc, W.listOf (its c).toArray (cnt c)) :: news) ps (fun _ => True) stored P μ c₀ F N trivial hk hp (fun c u h tk _ hp F N => turn c u h tk hp F N) hE
end
section
variable {prog : Program} {w : World} {A : Around} {E : Value → Shared → Prop} {Q : Flow → Shared → Prop} {s : Shared} {env : Env} {h₀ : Heap} {news : List (Addr × Obj)} {m₀ : Str → Option Value} {σ : Type} {x : Str} {body : List Stmt}
/-- a for over octets that turns names of the frame alone -/
theorem forB0 {b : Array UInt8} {tb : Tok} (F : Fr h₀ env.locals s.heap m₀) (N : News h₀ env.locals s.heap news) (hh : A.handled = none) (ps : σ → List (Str × Value)) (stored : List Str) (P : List Int → σ → Prop) (c₀ : σ)
    (hk : ∀ p ∈ ps c₀, m₀ p.1 = some p.2) (hp : P [] c₀)
    (turn : ∀ (c : σ) (pre post : List Int) (n : Int) t (u : Str → Option Value) h tk own, KBw.bInts b = pre ++ n :: post → 0 ≤ n → n < 256 → OwnOff own (news.map (·.1)) → P pre c →
      Fr h₀ env.locals h (fun y => if y = x then some (.int n t) else kstB (fun z => if stored.contains z then u z else m₀ z) (ps c) y) → News h₀ env.locals h (news ++ own) →
      wpAny (model prog w) A (execs body env) (InvPostN h₀ env.locals (KstS (fun _ => news) ps (fun _ => True) x stored m₀ P (pre ++ [n])) own (news.map (·.1)) { s with heap := h, toks := tk } Q) E { s with heap := h, toks := tk })
    (done : ∀ (c : σ) (u : Str → Option Value) h tk, P (KBw.bInts b) c → Fr h₀ env.locals h (fun y => if y = x then u y else kstB (fun z => if stored.contains z then u z else m₀ z) (ps c) y) → News h₀ env.locals h news → Q .next { s with heap := h, toks := tk }) :
    wpAny (model prog w) A (pyIter (.bytes b tb)) (fun it s₂ => LoopAtV prog w A h₀ env x body Q E it s₂) E s :=
  KStb.kst_bytes (fun _ => news) ps (fun _ => True) stored P c₀ rfl rfl hh F N trivial hk hp
    (fun c pre post n t u h tk own e _ h0 h1 ho _ hp F N => turn c pre post n t u h tk own e h0 h1 ho hp F N) (fun c u h tk _ _ hp F N => done c u h tk hp F N)
end
theorem divmod_K {prog : Program} {w : World} {A : Around} {E : Value → Shared → Prop} {s : Shared} {a b : Int} {t u : Tok} {Q : Value → Shared → Prop} {h₀ : Heap} {L : Addr} {m : Str → Option Value} {news : List (Addr × Obj)} (F : Fr h₀ L s.heap m) (N : News h₀ L s.heap news) (hb : b ≠ 0) (hs : Builtin.divisionGoesByPylong a b = false ∨ PySem.PylongRoom (model prog w) A s)
    (h : ∀ D h' t1 t2 k, Fr h₀ L h' m → News h₀ L h' ((D, { cls := .type "tuple", data := .seq #[.int (a.fdiv b) t1, .int (a.fmod b) t2] }) :: news) → (∀ p ∈ news, p.1 < D) → Q (.ref D) { s with toks := k, heap := h' }) :
    wpAny (model prog w) A (call (.builtin "divmod") [.int a t, .int b u]) Q E s :=
  divmod_N F N hb (fun h' F' N' => h _ h' _ _ _ F' N' fun p hp => Heap.lt_size (N p hp).1) hs
/-- texts of one sign put together -/
theorem strsAre_reverse : ∀ {vs : List Value} {ys : List Str}, StrsAre vs ys → StrsAre vs.reverse ys.reverse
  | _, _, .nil => .nil
  | _, _, .cons x t h => by
    rw [List.reverse_cons, List.reverse_cons]
    exact StrsAre.append' (strsAre_reverse h) (.cons x t .nil)
theorem join_signs (f : Nat → Nat) : ∀ ds : List Nat, Txt.join (PySem.Str.ofString "") (ds.map fun d => txt [f d]) = txt (ds.map f) := by
  intro ds
  unfold Txt.join
  rw [StrLaws.glued_eq_join]
  have e : PySem.Str.ofString "" = (⟨#[]⟩ : Str) := by decide +kernel
  rw [e]
  induction ds with
  | nil => rfl
  | cons d r ih =>
    cases r with
    | nil => rfl
    | cons d' r' =>
      rw [List.map_cons, List.map_cons]
      show _ ++ _ ++ Str.join _ _ = _
      rw [List.map_cons] at ih
      rw [ih]
      show (⟨#[f d] ++ #[] ++ ((d' :: r').map f).toArray⟩ : Str) = _
      simp
/-- how many noughts stand first -/
def zeros : List Nat → Nat
  | 0 :: r => zeros r + 1
  | _ => 0
/-- the loop of the leading noughts: pad counts what it has seen, all noughts -/
def PadI (pre : List Int) (pad : Int) : Prop := pad = (pre.length : Int) ∧ ∀ k ∈ pre, k = 0
theorem bInts_bl (b : Array UInt8) : KBw.bInts b = (bl b).map fun k : Nat => (k : Int) := by
  unfold KBw.bInts bl; rw [List.map_map]; rfl
theorem zeros_split : ∀ (pre : List Int) (l : List Nat) (c : Int) (post : List Int), (l.map fun k : Nat => (k : Int)) = pre ++ c :: post → (∀ k ∈ pre, k = 0) → c ≠ 0 → zeros l = pre.length
  | [], d :: l, c, post, h, _, hc => by
    simp only [List.map_cons, List.nil_append, List.cons.injEq] at h
    cases d with
    | zero => exact absurd h.1.symm hc
    | succ d => rfl
  | p :: pre, d :: l, c, post, h, hp, hc => by
    simp only [List.map_cons, List.cons_append, List.cons.injEq] at h
    have h0 : p = 0 := hp p (.head _)
    have : d = 0 := by omega
    subst this
    show zeros l + 1 = pre.length + 1
    rw [zeros_split pre l c post h.2 (fun k hk => hp k (.tail _ hk)) hc]
  | [], [], _, _, h, _, _ => by cases h
  | _ :: _, [], _, _, h, _, _ => by cases h
theorem zeros_all : ∀ (l : List Nat), (∀ k ∈ l.map fun k : Nat => (k : Int), k = 0) → zeros l = l.length
  | [], _ => rfl
  | d :: l, h => by
    have h0 : ((d : Nat) : Int) = 0 := h _ (.head _)
    have : d = 0 := by omega
    subst this
    show zeros l + 1 = l.length + 1
    rw [zeros_all l fun k hk => h k (.tail _ hk)]
theorem padI_stop {b : Array UInt8} {pre post : List Int} {c pad : Int} (h : PadI pre pad) (e : KBw.bInts b = pre ++ c :: post) (hc : ¬ c = 0) : pad = (zeros (bl b) : Int) := by
  rw [bInts_bl] at e
  rw [zeros_split pre _ c post e h.2 hc, h.1]
theorem padI_all {b : Array UInt8} {pad : Int} (h : PadI (KBw.bInts b) pad) : pad = (zeros (bl b) : Int) := by
  have e := bInts_bl b
  rw [e] at h
  rw [zeros_all _ h.2, h.1, List.length_map]
theorem padI_step {pre : List Int} {pad c : Int} (h : PadI pre pad) (hc : c = 0) : PadI (pre ++ [c]) (pad + 1) := by
  obtain ⟨h1, h2⟩ := h
  refine ⟨by simp; omega, fun k hk => ?_⟩
  rcases List.mem_append.mp hk with hk | hk
  · exact h2 k hk
  · rw [List.mem_singleton.mp hk]; exact hc
theorem zeros_le : ∀ l : List Nat, zeros l ≤ l.length
  | [] => Nat.le_refl _
  | 0 :: l => by show zeros l + 1 ≤ l.length + 1; have := zeros_le l; omega
  | (_ + 1) :: l => Nat.zero_le _
theorem join_b58 {prog : Program} {w : World} {A : Around} {E : Value → Shared → Prop} {s : Shared} {b : Array UInt8} {n : Int} {cs : List Str} {us : List Value} {D : Addr} {t : Tok} {Q : Value → Shared → Prop} (hl : s.heap.IsList D us.reverse.toArray) (hf : StrsAre us cs) (hp : EncB b n cs) (hn : ¬ 0 < n)
    (h : ∀ t' k, Q (.str (txt ((leF 150 (num (bl b))).reverse.map fun d => b58s.getD d 0)) t') { s with toks := k }) : wpAny (model prog w) A (call (.builtin "str.join") [.str (PySem.Str.ofString "") t, .ref D]) Q E s := by
  have e := encB_end hp hn
  have hr := strsAre_reverse hf
  have hlen := encB_len hp
  have e2 : cs.reverse = (leF 150 (num (bl b))).reverse.map fun d => txt [b58s.getD d 0] := by rw [e, ← List.map_reverse]; rfl
  rw [e2] at hr
  refine join_list (ys := (leF 150 (num (bl b))).reverse.map fun d => txt [b58s.getD d 0]) hl (by simpa using hr) ?_ ?_
  · have e3 : (PySem.Str.ofString "").length = 0 := by decide +kernel
    rw [e3, Nat.mul_zero, Nat.add_zero]
    have e4 : (((leF 150 (num (bl b))).reverse.map fun d => txt [b58s.getD d 0]).map (·.length)).sum = (leF 150 (num (bl b))).length := by
      rw [List.map_map]
      have : ∀ l : List Nat, (l.map ((·.length) ∘ fun d => txt [b58s.getD d 0])).sum = l.length := by
        intro l
        induction l with
        | nil => rfl
        | cons a r ih => rw [List.map_cons, List.sum_cons, ih, List.length_cons, Nat.add_comm]; rfl
      rw [this, List.length_reverse]
    rw [e4]
    have : cs.length = (leF 150 (num (bl b))).length := by rw [e, List.length_map]
    omega
  · rw [join_signs (fun d => b58s.getD d 0)]
    exact h
/-- base 58 as the package writes it, as numbers of signs -/
def b58l (b : List Nat) : List Nat := List.replicate (zeros b) 49 ++ ((leF 150 (num b)).reverse.map fun d => b58s.getD d 0)
section
variable {prog : Program} {w : World} {A : Around} {E : Value → Shared → Prop} {s : Shared} {t u : Tok} {Q : Value → Shared → Prop}
theorem txt_len (l : List Nat) : (txt l).length = l.length := by simp [Str.length]
theorem txt_add (a b : List Nat) : txt a ++ txt b = txt (a ++ b) := by
  show (⟨a.toArray ++ b.toArray⟩ : Str) = _
  simp
theorem add_txt {a b : List Nat} (hsz : a.length + b.length ≤ 16777216) (h : ∀ t' k, Q (.str (txt (a ++ b)) t') { s with toks := k }) : wpAny (model prog w) A (binaryOp .Add (.str (txt a) t) (.str (txt b) u)) Q E s :=
  SB.add (fun t' k => by rw [txt_add]; exact h t' k) (by rw [txt_len, txt_len, sizeLine_eq]; exact hsz)
theorem item0 : Txt.item (PySem.Str.ofString "123456789ABCDEFGHJKLMNPQRSTUVWXYZabcdefghijkmnopqrstuvwxyz") 0 = txt [49] := by decide +kernel
theorem reps (c : Nat) : ∀ (n : Nat) (a : Array Nat), (List.replicate n #[c]).foldl (· ++ ·) a = a ++ (List.replicate n c).toArray
  | 0, a => by simp
  | n + 1, a => by
    rw [List.replicate_succ, List.foldl_cons, reps c n, List.replicate_succ]
    apply Array.toList_inj.mp
    simp
theorem mul_one {c k : Nat} {x : Str} {n : Int} (hx : x = txt [c]) (hn : n = (k : Int)) (hk : k ≤ 1000) (h : ∀ t' k', Q (.str (txt (List.replicate k c)) t') { s with toks := k' }) : wpAny (model prog w) A (binaryOp .Mult (.str x t) (.int n u)) Q E s := by
  subst hx; subst hn
  refine SB.mul (mulOk_of 16 1048576 (by rw [txt_len]; exact (by decide : 1 ≤ 16)) (by omega) (by omega) (by decide) (by decide)) (fun t' k' => ?_)
  have e : Txt.mul (txt [c]) (k : Int) = txt (List.replicate k c) := by
    unfold Txt.mul
    by_cases h0 : (k : Int) < 1
    · rw [if_pos h0]
      have : k = 0 := by omega
      subst this; rfl
    · rw [if_neg h0]
      by_cases h1 : k = 1
      · subst h1; rfl
      · have e1 : ((k : Int) == 1 || (txt [c]).length == 0) = false := by
          rw [txt_len]
          simp; omega
        rw [e1]
        simp only [Bool.false_eq_true, if_false, Int.toNat_natCast]
        rw [reps]
        simp
  rw [e]; exact h _ _
end
theorem leF_le : ∀ k n, (leF k n).length ≤ k
  | 0, _ => Nat.le_refl _
  | k + 1, n => by
    unfold leF
    split
    · exact Nat.zero_le _
    · rw [List.length_cons]; have := leF_le k (n / 58); omega
theorem b58_zeros {b : Array UInt8} (hb : b.size ≤ 100) : zeros (bl b) ≤ 1000 := by
  have := zeros_le (bl b)
  rw [bl_length] at this
  omega
theorem add_b58 {prog : Program} {w : World} {A : Around} {E : Value → Shared → Prop} {s : Shared} {t u : Tok} {Q : Value → Shared → Prop} {b : Array UInt8} (hb : b.size ≤ 100) (h : ∀ t' k, Q (.str (txt (b58l (bl b))) t') { s with toks := k }) :
    wpAny (model prog w) A (binaryOp .Add (.str (txt (List.replicate (zeros (bl b)) 49)) t) (.str (txt ((leF 150 (num (bl b))).reverse.map fun d => b58s.getD d 0)) u)) Q E s := by
  have h1 := b58_zeros hb
  have h2 := leF_le 150 (num (bl b))
  refine add_txt ?_ h
  rw [List.length_replicate, List.length_map, List.length_reverse]
  omega
theorem picked_size (b : Array UInt8) (lo hi : Option Int) : (KBy.picked b lo hi).size = min (hi.elim b.size (clipAt b.size) - lo.elim 0 (clipAt b.size)) (b.size - lo.elim 0 (clipAt b.size)) := by
  rw [KBc.picked_eq, List.size_toArray, List.length_take, List.length_drop, Array.length_toList]
theorem picked4 (b : Array UInt8) : (KBy.picked (dsha b) (some 0) (some 4)).size = 4 := by
  rw [picked_size, dsha_size]
  decide
theorem bl_picked (b : Array UInt8) (lo hi : Option Int) : bl (KBy.picked b lo hi) = ((bl b).drop (lo.elim 0 (clipAt b.size))).take (hi.elim b.size (clipAt b.size) - lo.elim 0 (clipAt b.size)) := by
  rw [KBc.picked_eq]
  unfold bl
  rw [List.map_take, List.map_drop]
end Mine
namespace Mine
theorem bitAnd_nat (a b : Nat) : Builtin.bitAnd (a : Int) (b : Int) = ((a &&& b : Nat) : Int) := by
  rw [bitAnd_pp (by omega) (by omega)]; rfl
theorem bitXor_nat (a b : Nat) : Builtin.bitXor (a : Int) (b : Int) = ((a ^^^ b : Nat) : Int) := by
  rw [bitXor_and, bitAnd_nat]
  have h : ∀ n a b : Nat, a < 2 ^ n → b < 2 ^ n → a + b = (a ^^^ b) + 2 * (a &&& b) := by
    intro n
    induction n with
    | zero => intro a b ha hb; have : a = 0 := by simpa using ha
              have : b = 0 := by simpa using hb
              subst_vars; rfl
    | succ n ih =>
      intro a b ha hb
      have h1 := ih (a / 2) (b / 2) (by rw [Nat.pow_succ] at ha; omega) (by rw [Nat.pow_succ] at hb; omega)
      have e1 : a ^^^ b = 2 * (a / 2 ^^^ b / 2) + (a % 2 ^^^ b % 2) := by
        have := Nat.div_add_mod (a ^^^ b) 2
        rw [Nat.xor_div_two] at this
        have h2 : (a ^^^ b) % 2 = a % 2 ^^^ b % 2 := Nat.xor_mod_two_pow (n := 1)
        omega
      have e2 : a &&& b = 2 * (a / 2 &&& b / 2) + (a % 2 &&& b % 2) := by
        have := Nat.div_add_mod (a &&& b) 2
        rw [Nat.and_div_two] at this
        have h2 : (a &&& b) % 2 = a % 2 &&& b % 2 := Nat.and_mod_two_pow (n := 1)
        omega
      have e3 : a % 2 + b % 2 = (a % 2 ^^^ b % 2) + 2 * (a % 2 &&& b % 2) := by
        rcases Nat.mod_two_eq_zero_or_one a with h | h <;> rcases Nat.mod_two_eq_zero_or_one b with h' | h' <;> rw [h, h'] <;> decide
      omega
  have hx := h (a + b) a b (Nat.lt_of_lt_of_le Nat.lt_two_pow_self (Nat.pow_le_pow_right (by decide) (by omega))) (Nat.lt_of_lt_of_le Nat.lt_two_pow_self (Nat.pow_le_pow_right (by decide) (by omega)))
  omega
section
variable {prog : Program} {w : World} {A : Around} {E : Value → Shared → Prop} {s : Shared} {t u : Tok} {Q : Value → Shared → Prop} {a b : Nat} {x y : Int}
theorem and_n (hx : x = (a : Int)) (hy : y = (b : Int)) (h : ∀ t' k, Q (.int ((a &&& b : Nat) : Int) t') { s with toks := k }) : wpAny (model prog w) A (binaryOp .BitAnd (.int x t) (.int y u)) Q E s := by
  subst hx; subst hy; refine PyProof.Rows.and_int ?_; rw [bitAnd_nat]; exact h _ _
theorem xor_n (hx : x = (a : Int)) (hy : y = (b : Int)) (h : ∀ t' k, Q (.int ((a ^^^ b : Nat) : Int) t') { s with toks := k }) : wpAny (model prog w) A (binaryOp .BitXor (.int x t) (.int y u)) Q E s := by
  subst hx; subst hy; refine PyProof.Rows.xor_int ?_; rw [bitXor_nat]; exact h _ _
theorem shr_n (hx : x = (a : Int)) (hy : y = (b : Int)) (h : ∀ t' k, Q (.int ((a >>> b : Nat) : Int) t') { s with toks := k }) : wpAny (model prog w) A (binaryOp .RShift (.int x t) (.int y u)) Q E s := by
  subst hx; subst hy; refine PyProof.Rows.rshift_int (by omega) ?_
  have e : Int.fdiv (a : Int) (2 ^ (b : Int).toNat) = ((a >>> b : Nat) : Int) := by
    rw [Nat.shiftRight_eq_div_pow, Int.fdiv_eq_ediv_of_nonneg _ (Int.le_of_lt (Int.pow_pos (by decide))), Int.toNat_natCast, Int.natCast_ediv, Int.natCast_pow]; rfl
  rw [e]; exact h _ _
theorem shl_n (hx : x = (a : Int)) (hy : y = (b : Int)) (hb : b ≤ 1000) (ha : a < 2 ^ 64) (h : ∀ t' k, Q (.int ((a <<< b : Nat) : Int) t') { s with toks := k }) : wpAny (model prog w) A (binaryOp .LShift (.int x t) (.int y u)) Q E s := by
  subst hx; subst hy; refine PyProof.Rows.lshift_int_small (by omega) (by omega) (by omega) ?_
  have e : (a : Int) * 2 ^ (b : Int).toNat = ((a <<< b : Nat) : Int) := by
    rw [Nat.shiftLeft_eq, Int.toNat_natCast, Int.natCast_mul, Int.natCast_pow]; rfl
  rw [e]; exact h _ _
end
section
variable {prog : Program} {w : World} {A : Around} {E : Value → Shared → Prop} {Q : Flow → Shared → Prop} {s : Shared} {env : Env} {h₀ : Heap} {news : List (Addr × Obj)} {m₀ : Str → Option Value} {σ : Type} {x : Str} {body : List Stmt}
/-- a for over a list of ints of the ledger that turns names of the frame alone -/
theorem forL0 {l : Addr} {vs : List Value} {ns : List Int} {nn : Nat} (F : Fr h₀ env.locals s.heap m₀) (N : News h₀ env.locals s.heap news) (hl : (l, W.listOf vs.toArray nn) ∈ news) (hi : IntsAre vs ns) (hh : A.handled = none) (ps : σ → List (Str × Value)) (stored : List Str) (P : List Int → σ → Prop) (c₀ : σ)
    (hk : ∀ p ∈ ps c₀, m₀ p.1 = some p.2) (hp : P [] c₀)
    (turn : ∀ (c : σ) (pre post : List Int) (n : Int) t (u : Str → Option Value) h tk own, ns = pre ++ n :: post → n ∈ ns → OwnOff own (news.map (·.1)) → P pre c →
      Fr h₀ env.locals h (fun y => if y = x then some (.int n t) else kstB (fun z => if stored.contains z then u z else m₀ z) (ps c) y) → News h₀ env.locals h (news ++ own) →
      wpAny (model prog w) A (execs body env) (InvPostN h₀ env.locals (KstS (fun _ => news) ps (fun _ => True) x stored m₀ P (pre ++ [n])) own (news.map (·.1)) { s with heap := h, toks := tk } Q) E { s with heap := h, toks := tk })
    (done : ∀ (c : σ) (u : Str → Option Value) h tk, P ns c → Fr h₀ env.locals h (fun y => if y = x then u y else kstB (fun z => if stored.contains z then u z else m₀ z) (ps c) y) → News h₀ env.locals h news → Q .next { s with heap := h, toks := tk }) :
    wpAny (model prog w) A (pyIter (.ref l)) (fun it s₂ => LoopAtV prog w A h₀ env x body Q E it s₂) E s :=
  kst_listL (nn := nn) (fun _ => news) ps (fun _ => True) stored P c₀ hh (fun _ => hl) hi F N trivial hk hp
    (fun c pre post n t u h tk own e hm ho _ hp F N => turn c pre post n t u h tk own e hm ho hp F N) (fun c u h tk _ hp F N => done c u h tk hp F N)
/-- a for over range(n), n written, that turns names of the frame alone -/
theorem forR0 {r : Addr} {b₀ : Int} {t₀ u₀ v₀ : Tok} {n : Nat} (F : Fr h₀ env.locals s.heap m₀) (N : News h₀ env.locals s.heap news) (hr : IsRange s.heap r 0 b₀ 1 t₀ u₀ v₀) (hb : b₀ = (n : Int)) (hn : n ≤ 1000000) (hh : A.handled = none) (ps : σ → List (Str × Value)) (stored : List Str) (P : Nat → σ → Prop) (c₀ : σ)
    (hk : ∀ p ∈ ps c₀, m₀ p.1 = some p.2) (hp : P 0 c₀)
    (turn : ∀ (c : σ) (pre : List Int) t (u : Str → Option Value) h tk own, pre.length < n → OwnOff own (news.map (·.1)) → P pre.length c →
      Fr h₀ env.locals h (fun y => if y = x then some (.int (pre.length : Int) t) else kstB (fun z => if stored.contains z then u z else m₀ z) (ps c) y) → News h₀ env.locals h (news ++ own) →
      wpAny (model prog w) A (execs body env) (InvPostN h₀ env.locals (KstS (fun _ => news) ps (fun _ => True) x stored m₀ (fun pre => P pre.length) (pre ++ [(pre.length : Int)])) own (news.map (·.1)) { s with heap := h, toks := tk } Q) E { s with heap := h, toks := tk })
    (done : ∀ (c : σ) (u : Str → Option Value) h tk, P n c → Fr h₀ env.locals h (fun y => if y = x then u y else kstB (fun z => if stored.contains z then u z else m₀ z) (ps c) y) → News h₀ env.locals h news → Q .next { s with heap := h, toks := tk }) :
    wpAny (model prog w) A (pyIter (.ref r)) (fun it s₂ => LoopAtV prog w A h₀ env x body Q E it s₂) E s := by
  subst hb
  refine kst_range (n := n) (fun _ => news) ps (fun _ => True) stored (fun pre => P pre.length) c₀ hh hr ?_ ?_ F N trivial hk hp ?_ ?_
  · exact small_one (by omega) (by omega) (by omega) (by omega)
  · rw [rangeSize_nat]; simp
  · intro c pre k t u h tk own e hlt ho _ hp F N
    have : k = (pre.length : Int) := by omega
    subst this
    exact turn c pre t u h tk own hlt ho hp F N
  · intro c u h tk _ hp F N
    rw [rangeKs_length] at hp
    exact done c u h tk hp F N
end
section
variable {prog : Program} {w : World} {A : Around} {E : Value → Shared → Prop} {s : Shared} {t u : Tok} {Q : Value → Shared → Prop} {a b : Nat} {x y : Int}
theorem ixor_n (hx : x = (a : Int)) (hy : y = (b : Int)) (h : ∀ t' k, Q (.int ((a ^^^ b : Nat) : Int) t') { s with toks := k }) : wpAny (model prog w) A (inplaceOp .BitXor (.int x t) (.int y u)) Q E s := by
  subst hx; subst hy; refine PyProof.Rows.ixor_int ?_; rw [bitXor_nat]; exact h _ _
end
theorem gen_at {k : Nat} (hk : k < 5) : ([996825010, 642813549, 513874426, 1027748829, 705979059] : List Int).getD (k : Int).toNat 0 = ((gens.getD k 0 : Nat) : Int) := by
  rw [Int.toNat_natCast]
  match k, hk with
  | 0, _ => rfl
  | 1, _ => rfl
  | 2, _ => rfl
  | 3, _ => rfl
  | 4, _ => rfl
/-- what is folded in behind k of the five feedback words -/
def gsum (t : Nat) : Nat → Nat
  | 0 => 0
  | k + 1 => gsum t k ^^^ gbit t k
structure PmIn (t x : Nat) (k : Nat) (c : Nat) : Prop where
  e : c = x ^^^ gsum t k
theorem bit_and (t k : Nat) : t >>> k &&& 1 = if t.testBit k then 1 else 0 := by
  rw [Nat.testBit]
  rw [Nat.and_comm]
  have h := Nat.and_one_is_mod (t >>> k)
  rw [Nat.and_comm] at h
  rw [h]
  rcases Nat.mod_two_eq_zero_or_one (t >>> k) with h | h <;> rw [h] <;> simp
theorem pmIn_start {t x : Nat} : PmIn t x 0 x := ⟨by simp [gsum]⟩
theorem pmIn_yes {t x k c : Nat} (h : PmIn t x k c) (hb : ((t >>> k &&& 1 : Nat) : Int) ≠ 0) : PmIn t x (k + 1) (c ^^^ gens.getD k 0) := by
  refine ⟨?_⟩
  rw [bit_and] at hb
  have hb : t.testBit k = true := by
    cases h : t.testBit k with
    | true => rfl
    | false => rw [h] at hb; simp at hb
  rw [h.e, gsum, gbit, hb, if_pos rfl, Nat.xor_assoc]
theorem pmIn_no {t x k c : Nat} (h : PmIn t x k c) (hb : ((t >>> k &&& 1 : Nat) : Int) = 0) : PmIn t x (k + 1) (c ^^^ 0) := by
  refine ⟨?_⟩
  rw [bit_and] at hb
  have hb : t.testBit k = false := by
    cases h : t.testBit k with
    | false => rfl
    | true => rw [h] at hb; simp at hb
  rw [h.e, gsum, gbit, hb, Nat.xor_zero]
  simp
theorem pmIn_end {c x d : Nat} (h : PmIn (c >>> 25) ((c &&& 33554431) <<< 5 ^^^ x) 5 d) : d = pstep c x := by
  rw [h.e]
  simp only [gsum, pstep, gx, Nat.zero_xor]
/-- what the outer loop keeps -/
structure PmOut (xs : List Nat) (pre : List Int) (c : Nat) : Prop where
  p : pre = (xs.take pre.length).map (fun k : Nat => (k : Int))
  c : c = pm 1 (xs.take pre.length)
theorem pmOut_start (xs : List Nat) : PmOut xs [] 1 := ⟨by simp, rfl⟩
theorem pmOut_step {xs : List Nat} {pre post : List Int} {c x d : Nat} (h : PmOut xs pre c) (e : (xs.map fun k : Nat => (k : Int)) = pre ++ (x : Int) :: post) (hd : d = pstep c x) : PmOut xs (pre ++ [(x : Int)]) d := by
  have hl : pre.length < xs.length := by
    have := congrArg List.length e
    simp at this; omega
  have hx : xs[pre.length]? = some x := by
    have h1 := congrArg (fun l : List Int => l[pre.length]?) e
    simp only [List.getElem?_map, List.getElem?_append_right (Nat.le_refl _), Nat.sub_self, List.getElem?_cons_zero] at h1
    cases hq : xs[pre.length]? with
    | none => rw [hq] at h1; cases h1
    | some y => rw [hq] at h1; simp at h1; exact congrArg some (Int.ofNat.inj h1)
  have ht : xs.take (pre.length + 1) = xs.take pre.length ++ [x] := by rw [List.take_add_one, hx]; rfl
  refine ⟨?_, ?_⟩
  · rw [List.length_append, List.length_singleton, ht, List.map_append, ← h.p]; rfl
  · rw [List.length_append, List.length_singleton, ht, pm_append, ← h.c, hd]; rfl
theorem pmOut_end {xs : List Nat} {c : Nat} (h : PmOut xs (xs.map fun k : Nat => (k : Int)) c) : c = pm 1 xs := by
  have := h.c
  rwa [List.length_map, List.take_length] at this
end Mine
namespace Mine
/-- the address of what is new is none of the old ones -/
theorem news_plus {h₀ h h' : Heap} {L D : Addr} {m : Str → Option Value} {news : List (Addr × Obj)} {o : Obj} (F : Fr h₀ L h m) (N : News h₀ L h news) (hk : ∀ b o, h.get? b = some o → h'.get? b = some o) (hD : h.get? D = none) (ho : h'.get? D = some o) :
    News h₀ L h' ((D, o) :: news) := by
  intro p hp
  rcases List.mem_cons.mp hp with rfl | hp
  · refine ⟨ho, ?_, ?_⟩
    · rintro rfl
      obtain ⟨oL, _, _, hL, _⟩ := F.ns
      rw [hL] at hD; cases hD
    · cases q : h₀.get? D with
      | none => rfl
      | some o' => have := F.keep _ _ q; rw [hD] at this; cases this
  · exact ⟨hk _ _ (N p hp).1, (N p hp).2⟩
theorem intsAre_of {F : Value → Value → Prop} {τ : Type} {f : τ → Int} (it : τ → Value → Prop) (hF : ∀ v y c, it c v → F v y → ∃ t, y = .int (f c) t) : ∀ {xs : List τ} {vs ys : List Value}, vs.length = xs.length → (∀ (j : Nat) v, vs[j]? = some v → ∃ c, xs[j]? = some c ∧ it c v) → Paired F vs ys → IntsAre ys (xs.map f)
  | [], [], _, _, _, .nil => .nil
  | c :: xs, v :: vs, y :: ys, hl, h, .cons h1 h2 => by
    obtain ⟨c', e, hc⟩ := h 0 v rfl
    simp at e; subst e
    obtain ⟨t, rfl⟩ := hF _ _ _ hc h1
    exact .cons _ _ (intsAre_of it hF (by simpa using hl) (fun j v hj => by simpa using h (j + 1) v (by simpa using hj)) h2)
  | [], _ :: _, _, hl, _, _ => by simp at hl
  | _ :: _, [], _, hl, _, _ => by simp at hl
theorem strsAre_of {F : Value → Value → Prop} {τ : Type} {f : τ → Str} (it : τ → Value → Prop) (hF : ∀ v y c, it c v → F v y → ∃ t, y = .str (f c) t) : ∀ {xs : List τ} {vs ys : List Value}, vs.length = xs.length → (∀ (j : Nat) v, vs[j]? = some v → ∃ c, xs[j]? = some c ∧ it c v) → Paired F vs ys → StrsAre ys (xs.map f)
  | [], [], _, _, _, .nil => .nil
  | c :: xs, v :: vs, y :: ys, hl, h, .cons h1 h2 => by
    obtain ⟨c', e, hc⟩ := h 0 v rfl
    simp at e; subst e
    obtain ⟨t, rfl⟩ := hF _ _ _ hc h1
    exact .cons _ _ (strsAre_of it hF (by simpa using hl) (fun j v hj => by simpa using h (j + 1) v (by simpa using hj)) h2)
  | [], _ :: _, _, hl, _, _ => by simp at hl
  | _ :: _, [], _, hl, _, _ => by simp at hl
theorem paired_true {F : Value → Value → Prop} {vs : List Value} {ys : List Value} (h : Paired F (vs.filter fun _ => true) ys) : Paired F vs ys := by
  have e : vs.filter (fun _ => true) = vs := List.filter_eq_self.mpr fun _ _ => rfl
  rwa [e] at h
theorem ascii_all {cs : List Nat} (hc : ∀ c ∈ cs, c < 128) : (txt cs).cps.all (· < 128) = true := by
  rw [Array.all_eq_true]
  intro i hi
  have := hc ((txt cs).cps[i]) (by simp)
  simpa using this
section
variable {prog : Program} {w : World} {A : Around} {E : Value → Shared → Prop} {s : Shared} {env : Env} {scope : Scope} {cl : List (Str × Addr)} {x : Str} {elt : Expr} {h₀ : Heap} {L : Addr} {m : Str → Option Value} {news : List (Addr × Obj)}
/-- what a comprehension's element gives: an int, or a text -/
abbrev GivesI (f : Nat → Int) (v y : Value) : Prop := ∃ c u, v = .str (txt [c]) u ∧ ∃ t, y = .int (f c) t
/-- what a comprehension over a text asks where its source stands -/
def StrComp (prog : Program) (w : World) (A : Around) (env : Env) (scope : Scope) (cl : List (Str × Addr)) (x : Str) (elt : Expr) (f : Nat → Int) (Q : Value → Shared → Prop) (v : Value) (s₁ : Shared) : Prop :=
  ∃ cs t, v = .str (txt cs) t ∧ (∀ c ∈ cs, c < 128) ∧ cs.length ≤ 1000 ∧ A.handled = none ∧
    (∀ C c u s₃ m₃ E', c ∈ cs → s₃.heap.Ns C m₃ → m₃ x = some (.str (txt [c]) u) → (∀ b o, s₁.heap.get? b = some o → s₃.heap.get? b = some o) →
      wpAny (model prog w) A (eval elt (compEnvC scope cl C env)) (fun y s₄ => (∃ t, y = .int (f c) t) ∧ Keeps s₃ s₄) E' s₃) ∧
    ∀ D n vs h' tk, (∀ b o, s₁.heap.get? b = some o → h'.get? b = some o) → s₁.heap.get? D = none → h'.get? D = some (W.listOf (List.toArray vs) n) → IntsAre vs (cs.map f) → Q (.ref D) { s₁ with heap := h', toks := tk }
theorem listcomp_str {iter : Expr} {px pos : Pos} {Q : Value → Shared → Prop} (f : Nat → Int) (hclos : closureFor scope env = pure cl) (hcell : ∀ y ∈ scope.names, y.2 ≠ .cell) (hkind : scope.kind = .function)
    (hnames : ∀ y ∈ scope.names, y.2 = .local → scope.names.lookup y.1 = some .local) (hx : scope.names.lookup x = some .local)
    (h : wpAny (model prog w) A (eval iter env) (StrComp prog w A env scope cl x elt f Q) E s) (hs : ∀ x, foldedSetIterable iter env x = pure x) :
    wpAny (model prog w) A (eval (.ListComp elt [⟨.Name x px, iter, [], 0⟩] scope pos) env) Q E s := by
  refine wpAny_ListComp_free (fun _ => true) (GivesI f) hclos hcell hkind hnames hx (wpAny_mono h (fun v s₁ h₁ => ?_) fun _ _ e => e) hs
  obtain ⟨cs, t, rfl, hc, hlen, hh, helt, hQ⟩ := h₁
  refine wpAny_pyIter_ascii (ascii_all hc) ?_
  have W := Walks.strAscii (prog := prog) (w := w) hh s₁.heap.objs.size (txt cs) t
  have hsz : (txt cs).cps.size = cs.length := by simp
  have hget : ∀ i : Nat, (txt cs).cps[i]? = cs[i]? := fun i => by simp
  refine ⟨_, _, _, _, _, _, rfl, W, by rw [hsz, sizeLine_eq]; omega, ⟨_, Heap.get?_push_size _ rfl, rfl, rfl⟩, fun b hb => by rw [List.mem_singleton.mp hb]; show _ < (s₁.heap.push _).objs.size; rw [Heap.size_push]; exact Nat.lt_succ_self _, ⟨?_, ?_⟩, ?_⟩
  · intro C i v s₃ m₃ E' _ _ _ _ _ _
    exact wpAny_pure ⟨rfl, s₃.heap, s₃.toks, rfl, fun _ _ e => e⟩
  · rintro C i v s₃ m₃ E' hC ⟨c, u, hcu, rfl⟩ _ hn hx hk htk
    have hm : c ∈ cs := List.mem_of_getElem? (hget i ▸ hcu)
    refine wpAny_mono (helt C c u s₃ m₃ E' hm hn hx fun b o e => hk b o (fun hb => ?_) (Heap.get?_push_of_some _ e)) (fun y s₄ h => ⟨⟨c, u, rfl, h.1⟩, h.2⟩) fun _ _ e => e
    exact absurd (Heap.lt_size e) (by rw [List.mem_singleton.mp hb]; exact Nat.lt_irrefl _)
  · rintro D h' tk ys vs hD _ ⟨n, hpl⟩ hlen hP hF hk
    have hk' : ∀ b o, s₁.heap.get? b = some o → h'.get? b = some o := fun b o e => hk b o (fun hb => absurd (Heap.lt_size e) (by rw [List.mem_singleton.mp hb]; exact Nat.lt_irrefl _)) (Heap.get?_push_of_some _ e)
    have hD' : s₁.heap.get? D = none := by
      cases q : s₁.heap.get? D with
      | none => rfl
      | some o =>
        have h1 : (s₁.heap.push { cls := .type "str_ascii_iterator", data := .fields #[.str (txt cs) t, .int 0 0] }).get? D = some o := Heap.get?_push_of_some _ q
        rw [hD] at h1; cases h1
    have e : ys = ys.toList.toArray := by simp
    refine hQ D n ys.toList h' tk hk' hD' (by rw [← e]; exact hpl) ?_
    exact intsAre_of (F := GivesI f) (f := f) (fun c v => ∃ u, v = .str (txt [c]) u) (fun v y c ⟨u, hu⟩ ⟨c', u', hv, hy⟩ => by
      rw [hu] at hv
      have : c = c' := by
        have h1 := (Value.str.inj hv).1
        have h2 := congrArg (fun z : Str => z.cps.toList) h1
        simpa using h2
      subst this; exact hy) (by rw [hlen, hsz]) (fun j v hj => by
      obtain ⟨c, u, hcu, rfl⟩ := hP j v hj
      exact ⟨c, hget j ▸ hcu, u, rfl⟩) (paired_true hF)
theorem strComp_in {cs : List Nat} {t : Tok} {f : Nat → Int} {Q : Value → Shared → Prop} (F : Fr h₀ L s.heap m) (N : News h₀ L s.heap news) (hh : A.handled = none) (hc : ∀ c ∈ cs, c < 128) (hlen : cs.length ≤ 1000)
    (helt : ∀ C c u s₃ m₃ E', c ∈ cs → s₃.heap.Ns C m₃ → m₃ x = some (.str (txt [c]) u) → (∀ b o, s.heap.get? b = some o → s₃.heap.get? b = some o) →
      wpAny (model prog w) A (eval elt (compEnvC scope cl C env)) (fun y s₄ => (∃ t, y = .int (f c) t) ∧ Keeps s₃ s₄) E' s₃)
    (hQ : ∀ D n vs h' tk, Fr h₀ L h' m → News h₀ L h' ((D, W.listOf (List.toArray vs) n) :: news) → IntsAre vs (cs.map f) → Q (.ref D) { s with heap := h', toks := tk }) :
    StrComp prog w A env scope cl x elt f Q (.str (txt cs) t) s :=
  ⟨cs, t, rfl, hc, hlen, hh, helt, fun D n vs h' tk hk hD ho hi => hQ D n vs h' tk (F.keeps hk) (news_plus F N hk hD ho) hi⟩
end
end Mine
namespace Mine
section
variable {prog : Program} {w : World} {A : Around} {E : Value → Shared → Prop} {Q : Flow → Shared → Prop} {s : Shared} {env : Env} {h₀ : Heap} {news : List (Addr × Obj)} {m₀ : Str → Option Value} {σ : Type} {x : Str} {body : List Stmt}
/-- a for over octets that turns names of the frame and the newest list -/
theorem forB1 {b : Array UInt8} {tb : Tok} {lc : Addr} {us₀ : Array Value} {n₀ : Nat} (F : Fr h₀ env.locals s.heap m₀) (N : News h₀ env.locals s.heap ((lc, W.listOf us₀ n₀) :: news)) (hh : A.handled = none) (its : σ → List Value) (cnt : σ → Nat) (ps : σ → List (Str × Value)) (stored : List Str) (P : List Int → σ → Prop) (c₀ : σ)
    (h1 : us₀ = (its c₀).toArray) (h2 : n₀ = cnt c₀) (hk : ∀ p ∈ ps c₀, m₀ p.1 = some p.2) (hp : P [] c₀)
    (turn : ∀ (c : σ) (pre post : List Int) (n : Int) t (u : Str → Option Value) h tk own, KBw.bInts b = pre ++ n :: post → 0 ≤ n → n < 256 → OwnOff own (((lc, W.listOf us₀ n₀) :: news).map (·.1)) → P pre c →
      Fr h₀ env.locals h (fun y => if y = x then some (.int n t) else kstB (fun z => if stored.contains z then u z else m₀ z) (ps c) y) → News h₀ env.locals h ((lc, W.listOf (its c).toArray (cnt c)) :: news ++ own) →
      wpAny (model prog w) A (execs body env) (InvPostN h₀ env.locals (KstS (fun c => (lc, W.listOf (its c).toArray (cnt c)) :: news) ps (fun _ => True) x stored m₀ P (pre ++ [n])) own (((lc, W.listOf us₀ n₀) :: news).map (·.1)) { s with heap := h, toks := tk } Q) E { s with heap := h, toks := tk })
    (done : ∀ (c : σ) (u : Str → Option Value) h tk, P (KBw.bInts b) c → Fr h₀ env.locals h (fun y => if y = x then u y else kstB (fun z => if stored.contains z then u z else m₀ z) (ps c) y) → News h₀ env.locals h ((lc, W.listOf (its c).toArray (cnt c)) :: news) → Q .next { s with heap := h, toks := tk }) :
    wpAny (model prog w) A (pyIter (.bytes b tb)) (fun it s₂ => LoopAtV prog w A h₀ env x body Q E it s₂) E s := by
  subst h1; subst h2
  exact KStb.kst_bytes (fun c => (lc, W.listOf (its c).toArray (cnt c)) :: news) ps (fun _ => True) stored P c₀ rfl rfl hh F N trivial hk hp
    (fun c pre post n t u h tk own e _ h0 h1 ho _ hp F N => turn c pre post n t u h tk own e h0 h1 ho hp F N) (fun c u h tk _ _ hp F N => done c u h tk hp F N)
/-- a for over a list of ints of the ledger that turns names of the frame and the newest list -/
theorem forL1 {l : Addr} {vs : List Value} {ns : List Int} {nn : Nat} {lc : Addr} {us₀ : Array Value} {n₀ : Nat} (F : Fr h₀ env.locals s.heap m₀) (N : News h₀ env.locals s.heap ((lc, W.listOf us₀ n₀) :: news)) (hl : (l, W.listOf vs.toArray nn) ∈ news) (hi : IntsAre vs ns) (hh : A.handled = none) (its : σ → List Value) (cnt : σ → Nat) (ps : σ → List (Str × Value)) (stored : List Str) (P : List Int → σ → Prop) (c₀ : σ)
    (h1 : us₀ = (its c₀).toArray) (h2 : n₀ = cnt c₀) (hk : ∀ p ∈ ps c₀, m₀ p.1 = some p.2) (hp : P [] c₀)
    (turn : ∀ (c : σ) (pre post : List Int) (n : Int) t (u : Str → Option Value) h tk own, ns = pre ++ n :: post → n ∈ ns → OwnOff own (((lc, W.listOf us₀ n₀) :: news).map (·.1)) → P pre c →
      Fr h₀ env.locals h (fun y => if y = x then some (.int n t) else kstB (fun z => if stored.contains z then u z else m₀ z) (ps c) y) → News h₀ env.locals h ((lc, W.listOf (its c).toArray (cnt c)) :: news ++ own) →
      wpAny (model prog w) A (execs body env) (InvPostN h₀ env.locals (KstS (fun c => (lc, W.listOf (its c).toArray (cnt c)) :: news) ps (fun _ => True) x stored m₀ P (pre ++ [n])) own (((lc, W.listOf us₀ n₀) :: news).map (·.1)) { s with heap := h, toks := tk } Q) E { s with heap := h, toks := tk })
    (done : ∀ (c : σ) (u : Str → Option Value) h tk, P ns c → Fr h₀ env.locals h (fun y => if y = x then u y else kstB (fun z => if stored.contains z then u z else m₀ z) (ps c) y) → News h₀ env.locals h ((lc, W.listOf (its c).toArray (cnt c)) :: news) → Q .next { s with heap := h, toks := tk }) :
    wpAny (model prog w) A (pyIter (.ref l)) (fun it s₂ => LoopAtV prog w A h₀ env x body Q E it s₂) E s := by
  subst h1; subst h2
  exact kst_listL (nn := nn) (fun c => (lc, W.listOf (its c).toArray (cnt c)) :: news) ps (fun _ => True) stored P c₀ hh (fun _ => .tail _ hl) hi F N trivial hk hp
    (fun c pre post n t u h tk own e hm ho _ hp F N => turn c pre post n t u h tk own e hm ho hp F N) (fun c u h tk _ hp F N => done c u h tk hp F N)
end
theorem bitOr_nat (a b : Nat) : Builtin.bitOr (a : Int) (b : Int) = ((a ||| b : Nat) : Int) := by
  have h1 := bitXor_nat a b
  have h2 := bitAnd_nat a b
  unfold Builtin.bitXor at h1
  rw [h2] at h1
  have h3 : ∀ n a b : Nat, a < 2 ^ n → b < 2 ^ n → (a ||| b) = (a ^^^ b) + (a &&& b) := by
    intro n
    induction n with
    | zero => intro a b ha hb; have : a = 0 := by simpa using ha
              have : b = 0 := by simpa using hb
              subst_vars; rfl
    | succ n ih =>
      intro a b ha hb
      have h1 := ih (a / 2) (b / 2) (by rw [Nat.pow_succ] at ha; omega) (by rw [Nat.pow_succ] at hb; omega)
      have e1 := Nat.div_add_mod (a ^^^ b) 2
      rw [Nat.xor_div_two, show (a ^^^ b) % 2 = a % 2 ^^^ b % 2 from Nat.xor_mod_two_pow (n := 1)] at e1
      have e2 := Nat.div_add_mod (a &&& b) 2
      rw [Nat.and_div_two, show (a &&& b) % 2 = a % 2 &&& b % 2 from Nat.and_mod_two_pow (n := 1)] at e2
      have e3 := Nat.div_add_mod (a ||| b) 2
      rw [Nat.or_div_two, show (a ||| b) % 2 = a % 2 ||| b % 2 from Nat.or_mod_two_pow (n := 1)] at e3
      have e4 : (a % 2 ||| b % 2) = (a % 2 ^^^ b % 2) + (a % 2 &&& b % 2) := by
        rcases Nat.mod_two_eq_zero_or_one a with h | h <;> rcases Nat.mod_two_eq_zero_or_one b with h' | h' <;> rw [h, h'] <;> decide
      omega
  have hx := h3 (a + b) a b (Nat.lt_of_lt_of_le Nat.lt_two_pow_self (Nat.pow_le_pow_right (by decide) (by omega))) (Nat.lt_of_lt_of_le Nat.lt_two_pow_self (Nat.pow_le_pow_right (by decide) (by omega)))
  omega
section
variable {prog : Program} {w : World} {A : Around} {E : Value → Shared → Prop} {s : Shared} {t u : Tok} {Q : Value → Shared → Prop} {a b : Nat} {x y : Int}
theorem or_n (hx : x = (a : Int)) (hy : y = (b : Int)) (h : ∀ t' k, Q (.int ((a ||| b : Nat) : Int) t') { s with toks := k }) : wpAny (model prog w) A (binaryOp .BitOr (.int x t) (.int y u)) Q E s := by
  subst hx; subst hy; refine PyProof.Rows.or_int ?_; rw [bitOr_nat]; exact h _ _
theorem sub_n (hx : x = (a : Int)) (hy : y = (b : Int)) (hle : b ≤ a) (h : ∀ t' k, Q (.int ((a - b : Nat) : Int) t') { s with toks := k }) : wpAny (model prog w) A (binaryOp .Sub (.int x t) (.int y u)) Q E s := by
  subst hx; subst hy; refine PyProof.Rows.sub_int ?_
  rw [show (a : Int) - (b : Int) = ((a - b : Nat) : Int) by omega]; exact h _ _
end

/-- what convertbits holds at the start of a turn: k inputs of f bits taken in -/
structure CvI (f t : Nat) (ds : List Nat) (k acc bits : Nat) (ret : List Nat) : Prop where
  cv : Cv t (val f (ds.take k)) bits ret.length acc ret
  lt : bits < t
  tot : f * k = t * ret.length + bits
theorem cvI_start (f t : Nat) (ds : List Nat) (ht : 0 < t) : CvI f t ds 0 0 0 [] := ⟨cv_zero t, ht, by simp⟩
/-- within the inner while -/
structure CvW (f t : Nat) (ds : List Nat) (k acc bits : Nat) (ret : List Nat) : Prop where
  cv : Cv t (val f (ds.take (k + 1))) bits ret.length acc ret
  le : bits ≤ 12
  tot : f * (k + 1) = t * ret.length + bits
theorem shl_or (a f v : Nat) (hv : v < 2 ^ f) : a <<< f ||| v = a * 2 ^ f + v := by
  rw [Nat.shiftLeft_eq, Nat.mul_comm, Nat.two_pow_add_eq_or_of_lt hv]
theorem and_4095 (a : Nat) : a &&& 4095 = a % 4096 := Nat.and_two_pow_sub_one_eq_mod a 12
theorem cvW_start {f t k acc bits v : Nat} {ds ret : List Nat} (h : CvI f t ds k acc bits ret) (hx : ds[k]? = some v) (hv : v < 2 ^ f) (hft : f + t ≤ 13) : CvW f t ds k ((acc <<< f ||| v) &&& 4095) (bits + f) ret := by
  have e : val f (ds.take (k + 1)) = val f (ds.take k) * 2 ^ f + v := by rw [List.take_add_one, hx]; exact val_snoc _ _ _
  refine ⟨?_, by have := h.lt; omega, by rw [Nat.mul_succ, h.tot, Nat.add_assoc]⟩
  rw [e, and_4095, shl_or _ _ _ hv]
  exact cv_in f v hv h.cv
theorem cvW_step {f t k acc bits b2 d : Nat} {ds ret : List Nat} (h : CvW f t ds k acc bits ret) (hb : bits = b2 + t) (hd : d = acc / 2 ^ b2 % 2 ^ t) : CvW f t ds k acc b2 (ret ++ [d]) := by
  subst hb; subst hd
  refine ⟨?_, by have := h.le; omega, ?_⟩
  · rw [List.length_append, List.length_singleton]
    exact cv_out h.cv h.le
  · rw [h.tot, List.length_append, List.length_singleton, Nat.mul_succ]; omega
theorem cvW_end {f t k acc bits : Nat} {ds ret : List Nat} (h : CvW f t ds k acc bits ret) (hb : bits < t) : CvI f t ds (k + 1) acc bits ret := ⟨h.cv, hb, h.tot⟩
theorem shr_and (a b t : Nat) : (a >>> b) &&& (2 ^ t - 1) = a / 2 ^ b % 2 ^ t := by
  rw [Nat.and_two_pow_sub_one_eq_mod, Nat.shiftRight_eq_div_pow]
/-- the whole with the filling, the last sign where bits are left -/
theorem cvI_pad {ds : List Nat} {acc bits : Nat} {ret : List Nat} (h : CvI 8 5 ds ds.length acc bits ret) : (if bits = 0 then ret else ret ++ [(acc <<< (5 - bits)) &&& 31]) = to5 ds := by
  have hc := h.cv
  have ht := h.tot
  have hl := h.lt
  rw [List.take_length] at hc
  unfold to5
  by_cases h0 : bits = 0
  · rw [if_pos h0]
    subst h0
    have e : (8 * ds.length + 4) / 5 = ret.length := by omega
    have e2 : 5 * ((8 * ds.length + 4) / 5) - 8 * ds.length = 0 := by omega
    rw [e2, e, Nat.pow_zero, Nat.mul_one]
    have := hc.ret
    rw [Nat.pow_zero, Nat.div_one] at this
    exact this
  · rw [if_neg h0]
    have e : (8 * ds.length + 4) / 5 = ret.length + 1 := by omega
    have e2 : 5 * (ret.length + 1) - 8 * ds.length = 5 - bits := by omega
    rw [e, e2, dg]
    have e3 : val 8 ds * 2 ^ (5 - bits) / 2 ^ 5 = val 8 ds / 2 ^ bits := by
      have e4 : (2 : Nat) ^ 5 = 2 ^ (5 - bits) * 2 ^ bits := by rw [← Nat.pow_add]; congr 1; omega
      rw [e4, Nat.mul_comm (val 8 ds), Nat.mul_div_mul_left _ _ (Nat.two_pow_pos _)]
    rw [e3, ← hc.ret]
    congr 2
    rw [show (31 : Nat) = 2 ^ 5 - 1 by decide, Nat.and_two_pow_sub_one_eq_mod, Nat.shiftLeft_eq, hc.acc]
    have e5 : (4096 : Nat) = 2 ^ 5 * 128 := by decide
    have e6 : val 8 ds % 4096 % 2 ^ 5 = val 8 ds % 2 ^ 5 := by rw [e5, Nat.mod_mul_right_mod]
    rw [Nat.mul_mod, e6, ← Nat.mul_mod]
/-- back, without filling: the signs of to5 p give p again, what is left is nought -/
theorem cvI_back {p : List Nat} {acc bits : Nat} {ret : List Nat} (hp : ∀ d ∈ p, d < 256) (h : CvI 5 8 (to5 p) (to5 p).length acc bits ret) : ret = p ∧ bits < 5 ∧ (acc <<< (8 - bits)) &&& 255 = 0 := by
  have hc := h.cv
  have ht := h.tot
  have hl := h.lt
  rw [List.take_length, val_to5 hp] at hc
  rw [to5_length] at ht
  have hr : ret.length = p.length := by omega
  have hb : bits = 5 * ((8 * p.length + 4) / 5) - 8 * p.length := by omega
  refine ⟨?_, by omega, ?_⟩
  · rw [hc.ret, hr, hb, Nat.mul_div_cancel _ (Nat.two_pow_pos _)]
    exact dg_val p hp
  · rw [show (255 : Nat) = 2 ^ 8 - 1 by decide, Nat.and_two_pow_sub_one_eq_mod, Nat.shiftLeft_eq, hc.acc, ← hb]
    have e5 : (4096 : Nat) = 2 ^ 8 * 16 := by decide
    have e6 : ∀ z : Nat, z % 4096 % 2 ^ 8 = z % 2 ^ 8 := fun z => by rw [e5, Nat.mod_mul_right_mod]
    rw [Nat.mul_mod, e6, ← Nat.mul_mod, Nat.mul_assoc, ← Nat.pow_add]
    have e7 : bits + (8 - bits) = 8 := by omega
    rw [e7, Nat.mul_mod_left]
section
variable {prog : Program} {w : World} {A : Around} {E : Value → Shared → Prop} {s : Shared} {t u : Tok} {Q : Value → Shared → Prop} {a b : Nat} {x y : Int}
theorem shr_0 (hx : x = (a : Int)) (hy : y = (b : Int)) (hlt : a < 2 ^ b) (h : ∀ t' k, Q (.int 0 t') { s with toks := k }) : wpAny (model prog w) A (binaryOp .RShift (.int x t) (.int y u)) Q E s :=
  shr_n hx hy fun t' k => by
    rw [Nat.shiftRight_eq_div_pow, Nat.div_eq_of_lt hlt]; exact h t' k
theorem isub_n (hx : x = (a : Int)) (hy : y = (b : Int)) (hle : b ≤ a) (h : ∀ t' k, Q (.int ((a - b : Nat) : Int) t') { s with toks := k }) : wpAny (model prog w) A (inplaceOp .Sub (.int x t) (.int y u)) Q E s := by
  subst hx; subst hy; refine PyProof.Rows.isub_int ?_
  rw [show (a : Int) - (b : Int) = ((a - b : Nat) : Int) by omega]; exact h _ _
theorem iadd_n (hx : x = (a : Int)) (hy : y = (b : Int)) (h : ∀ t' k, Q (.int ((a + b : Nat) : Int) t') { s with toks := k }) : wpAny (model prog w) A (inplaceOp .Add (.int x t) (.int y u)) Q E s := by
  subst hx; subst hy; refine PyProof.Rows.iadd_int ?_
  rw [show (a : Int) + (b : Int) = ((a + b : Nat) : Int) by omega]; exact h _ _
end
theorem at_split {xs : List Nat} {pre post : List Int} {x : Nat} (e : (xs.map fun k : Nat => (k : Int)) = pre ++ (x : Int) :: post) : xs[pre.length]? = some x ∧ pre.length < xs.length := by
  have hl : pre.length < xs.length := by
    have := congrArg List.length e
    simp at this; omega
  refine ⟨?_, hl⟩
  have h1 := congrArg (fun l : List Int => l[pre.length]?) e
  simp only [List.getElem?_map, List.getElem?_append_right (Nat.le_refl _), Nat.sub_self, List.getElem?_cons_zero] at h1
  cases hq : xs[pre.length]? with
  | none => rw [hq] at h1; cases h1
  | some y => rw [hq] at h1; simp at h1; exact congrArg some (Int.ofNat.inj h1)
theorem intsAre_snoc {us : List Value} {r : List Nat} {d : Nat} {t : Tok} (h : IntsAre us (r.map fun k : Nat => (k : Int))) : IntsAre (us ++ [.int (d : Int) t]) ((r ++ [d]).map fun k : Nat => (k : Int)) := by
  rw [List.map_append]
  exact IntsAre.append h (.cons _ _ .nil)
end Mine
namespace Mine
theorem cvI_lt {f t k acc bits : Nat} {ds ret : List Nat} (h : CvI f t ds k acc bits ret) : acc < 4096 := by
  rw [h.cv.acc]; exact Nat.mod_lt _ (by decide)
theorem cvI_len {f t k acc bits : Nat} {ds ret : List Nat} (h : CvI f t ds k acc bits ret) : t * ret.length ≤ f * k := by have := h.tot; omega
theorem cvW_len {f t k acc bits : Nat} {ds ret : List Nat} (h : CvW f t ds k acc bits ret) : t * ret.length ≤ f * (k + 1) := by have := h.tot; omega
theorem cvW_lt {f t k acc bits : Nat} {ds ret : List Nat} (h : CvW f t ds k acc bits ret) : acc < 4096 := by
  rw [h.cv.acc]; exact Nat.mod_lt _ (by decide)
/-- the same with the octets' or the signs' row told by the loop -/
structure CvP (f t : Nat) (ds : List Nat) (pre : List Int) (acc bits : Nat) (ret : List Nat) : Prop where
  i : CvI f t ds pre.length acc bits ret
structure CvR (f t : Nat) (ds : List Nat) (pre : List Int) (acc bits : Nat) (ret : List Nat) : Prop where
  w : CvW f t ds pre.length acc bits ret
theorem cvP_start {f t : Nat} {ds : List Nat} (ht : 0 < t) : CvP f t ds [] 0 0 [] := ⟨cvI_start f t ds ht⟩
theorem cvR_start {f t acc bits v : Nat} {ds ret : List Nat} {pre post : List Int} (h : CvP f t ds pre acc bits ret) (e : (ds.map fun k : Nat => (k : Int)) = pre ++ (v : Int) :: post) (hv : v < 2 ^ f) (hft : f + t ≤ 13) :
    CvR f t ds pre ((acc <<< f ||| v) &&& 4095) (bits + f) ret := ⟨cvW_start h.i (at_split e).1 hv hft⟩
theorem cvR_step {f t acc bits : Nat} {ds ret : List Nat} {pre : List Int} (h : CvR f t ds pre acc bits ret) (hb : t ≤ bits) : CvR f t ds pre acc (bits - t) (ret ++ [(acc >>> (bits - t)) &&& (2 ^ t - 1)]) :=
  ⟨cvW_step h.w (by omega) (by rw [shr_and])⟩
theorem cvR_end {f t acc bits : Nat} {ds ret : List Nat} {pre : List Int} {v : Int} (h : CvR f t ds pre acc bits ret) (hb : ¬ t ≤ bits) : CvP f t ds (pre ++ [v]) acc bits ret :=
  ⟨by rw [List.length_append, List.length_singleton]; exact cvW_end h.w (by omega)⟩
theorem cvP_all {f t acc bits : Nat} {ds ret : List Nat} (h : CvP f t ds (ds.map fun k : Nat => (k : Int)) acc bits ret) : CvI f t ds ds.length acc bits ret := by
  have := h.i; rwa [List.length_map] at this
theorem intsAre_len {us : List Value} {r : List Nat} (h : IntsAre us (r.map fun k : Nat => (k : Int))) : us.length = r.length := by
  have := IntsAre.length h; simpa using this
theorem split_len {ds : List Nat} {pre post : List Int} {v : Int} (e : (ds.map fun k : Nat => (k : Int)) = pre ++ v :: post) : pre.length < ds.length := by
  have := congrArg List.length e
  simp at this; omega
theorem pad_to {ds : List Nat} {acc bits : Nat} {ret : List Nat} (h : CvP 8 5 ds (ds.map fun k : Nat => (k : Int)) acc bits ret) (hb : bits ≠ 0) : ret ++ [(acc <<< (5 - bits)) &&& 31] = to5 ds := by
  have := cvI_pad (cvP_all h); rwa [if_neg hb] at this
theorem pad_to0 {ds : List Nat} {acc bits : Nat} {ret : List Nat} (h : CvP 8 5 ds (ds.map fun k : Nat => (k : Int)) acc bits ret) (hb : bits = 0) : ret = to5 ds := by
  have := cvI_pad (cvP_all h); rwa [if_pos hb] at this
theorem allNe_lt {news : List (Addr × Obj)} {d : Addr} (h : ∀ p ∈ news, p.1 < d) : ∀ p ∈ news, p.1 ≠ d := fun p hp => Nat.ne_of_lt (h p hp)
theorem allNe_app {news own : List (Addr × Obj)} {d : Addr} {r : List Addr} (h : ∀ p ∈ news, p.1 < d) (h2 : OwnOff own (d :: r)) : ∀ p ∈ news ++ own, p.1 ≠ d := fun p hp =>
  (List.mem_append.mp hp).elim (fun hp => allNe_lt h p hp) fun hp => h2.ne (List.Mem.head _) p hp
theorem and_z {prog : Program} {w : World} {A : Around} {E : Value → Shared → Prop} {s : Shared} {t u : Tok} {Q : Value → Shared → Prop} {a b : Nat} {x y : Int} (hx : x = (a : Int)) (hy : y = (b : Int)) (h0 : a &&& b = 0) (h : ∀ t' k, Q (.int 0 t') { s with toks := k }) : wpAny (model prog w) A (binaryOp .BitAnd (.int x t) (.int y u)) Q E s :=
  and_n hx hy fun t' k => by rw [h0]; exact h t' k
theorem back_all {p : List Nat} (hp : ∀ d ∈ p, d < 256) {acc bits : Nat} {ret : List Nat} (h : CvP 5 8 (to5 p) ((to5 p).map fun k : Nat => (k : Int)) acc bits ret) : ret = p ∧ bits < 5 ∧ (acc <<< (8 - bits)) &&& 255 = 0 :=
  cvI_back hp (cvP_all h)
end Mine
namespace Mine
/-- the human part's signs, as the check reads them, and what stands behind -/
def hx (hs : List Nat) (xs : List Nat) : List Nat := hs.map (· >>> 5) ++ [0] ++ hs.map (· &&& 31) ++ xs
theorem hx_append (hs xs ys : List Nat) : hx hs xs ++ ys = hx hs (xs ++ ys) := by unfold hx; rw [List.append_assoc]
theorem ints_hx {v1 v2 : List Value} {hs xs : List Nat} (h1 : IntsAre v1 ((hs.map (· >>> 5) ++ [0] ++ hs.map (· &&& 31)).map fun k : Nat => (k : Int))) (h2 : IntsAre v2 (xs.map fun k : Nat => (k : Int))) : IntsAre (v1 ++ v2) ((hx hs xs).map fun k : Nat => (k : Int)) := by
  unfold hx
  rw [List.map_append]
  exact IntsAre.append h1 h2
theorem ints_hx6 {v1 : List Value} {hs xs : List Nat} {t1 t2 t3 t4 t5 t6 : Tok} (h1 : IntsAre v1 ((hx hs xs).map fun k : Nat => (k : Int))) : IntsAre (v1 ++ [.int 0 t1, .int 0 t2, .int 0 t3, .int 0 t4, .int 0 t5, .int 0 t6]) ((hx hs (xs ++ [0, 0, 0, 0, 0, 0])).map fun k : Nat => (k : Int)) := by
  rw [← hx_append, List.map_append]
  exact IntsAre.append h1 (.cons _ _ (.cons _ _ (.cons _ _ (.cons _ _ (.cons _ _ (.cons _ _ .nil))))))
theorem hx_length (hs xs : List Nat) : (hx hs xs).length = 2 * hs.length + 1 + xs.length := by
  unfold hx; simp; omega
section
variable {prog : Program} {w : World} {A : Around} {E : Value → Shared → Prop} {s : Shared} {Q : Value → Shared → Prop} {h₀ : Heap} {L : Addr} {m : Str → Option Value} {news : List (Addr × Obj)}
theorem add_ints {a b : Addr} {v1 v2 : List Value} {n1 n2 : Nat} {xs ys : List Nat} (F : Fr h₀ L s.heap m) (N : News h₀ L s.heap news) (ha : (a, W.listOf v1.toArray n1) ∈ news) (hb : (b, W.listOf v2.toArray n2) ∈ news) (hi : IntsAre v1 (xs.map fun k : Nat => (k : Int))) (hj : IntsAre v2 (ys.map fun k : Nat => (k : Int)))
    (hz : xs.length + ys.length ≤ 10000)
    (h : ∀ D us h', Fr h₀ L h' m → News h₀ L h' ((D, W.listOf (List.toArray us) 0) :: news) → (∀ p ∈ news, p.1 < D) → IntsAre us ((xs ++ ys).map fun k : Nat => (k : Int)) → Q (.ref D) { s with heap := h' }) : wpAny (model prog w) A (binaryOp .Add (.ref a) (.ref b)) Q E s :=
  kmk_add_ints F N (News.isList N ha) (News.isList N hb) hi hj (fun D us h' F' N' l hu => h D us h' F' N' l (by rw [List.map_append]; exact hu)) (by rw [sizeLine_eq, List.length_map, List.length_map]; omega)
end
theorem ints6 {t1 t2 t3 t4 t5 t6 : Tok} : IntsAre [.int 0 t1, .int 0 t2, .int 0 t3, .int 0 t4, .int 0 t5, .int 0 t6] (([0, 0, 0, 0, 0, 0] : List Nat).map fun k : Nat => (k : Int)) := .cons _ _ (.cons _ _ (.cons _ _ (.cons _ _ (.cons _ _ (.cons _ _ .nil)))))
theorem allLt_all {d : Addr} : ∀ {l : List (Addr × Obj)}, AllLt d l → ∀ p ∈ l, p.1 < d
  | [], _, _, h => nomatch h
  | _ :: _, h, p, hp => by
    rcases List.mem_cons.mp hp with rfl | hp
    · exact h.1
    · exact allLt_all h.2 p hp
theorem allNe_succ {news : List (Addr × Obj)} {d : Addr} (h : ∀ p ∈ news, p.1 < d) : ∀ p ∈ news, p.1 ≠ d + 1 := fun p hp => Nat.ne_of_lt (Nat.lt_succ_of_lt (h p hp))
theorem crc_one (P b : Nat) : Builtin.bitAnd ((P : Int).fdiv (2 ^ b)) 31 = ((P / 2 ^ b % 32 : Nat) : Int) := by
  have e : (P : Int).fdiv (2 ^ b) = ((P / 2 ^ b : Nat) : Int) := by
    rw [Int.fdiv_eq_ediv_of_nonneg _ (Int.le_of_lt (Int.pow_pos (by decide))), Int.natCast_ediv, Int.natCast_pow]; rfl
  rw [e, show (31 : Int) = ((31 : Nat) : Int) from rfl, bitAnd_nat]
  exact congrArg _ (Nat.and_two_pow_sub_one_eq_mod (P / 2 ^ b) 5)
theorem crc_ints (P : Nat) : (rangeKs 0 (6 - 0 : Int).toNat).map (fun k' => Builtin.bitAnd ((P : Int).fdiv (2 ^ (5 * (5 - k')).toNat)) 31) = (dig6 P).map fun k : Nat => (k : Int) := by
  have e : rangeKs 0 (6 - 0 : Int).toNat = [0, 1, 2, 3, 4, 5] := by decide
  rw [e]
  simp only [List.map_cons, List.map_nil]
  rw [show (5 * (5 - 0) : Int).toNat = 25 by decide, show (5 * (5 - 1) : Int).toNat = 20 by decide, show (5 * (5 - 2) : Int).toNat = 15 by decide, show (5 * (5 - 3) : Int).toNat = 10 by decide, show (5 * (5 - 4) : Int).toNat = 5 by decide, show (5 * (5 - 5) : Int).toNat = 0 by decide]
  rw [crc_one, crc_one, crc_one, crc_one, crc_one, crc_one]
  unfold dig6
  rw [Nat.pow_zero, Nat.div_one]
  rfl
/-- the signs of bech32, as numbers -/
def b32s : List Nat := [113, 112, 122, 114, 121, 57, 120, 56, 103, 102, 50, 116, 118, 100, 119, 48, 115, 51, 106, 110, 53, 52, 107, 104, 99, 101, 54, 109, 117, 97, 55, 108]
theorem b32_str : PySem.Str.ofString "qpzry9x8gf2tvdw0s3jn54khce6mua7l" = txt b32s := by decide +kernel
def bsgn (d : Nat) : Nat := b32s.getD d 0
theorem dig6_length (p : Nat) : (dig6 p).length = 6 := rfl
theorem dig6_lt (p : Nat) : ∀ k ∈ dig6 p, k < 32 := by
  intro k hk
  unfold dig6 at hk
  simp only [List.mem_cons, List.not_mem_nil, or_false] at hk
  omega
theorem ints_one {ver : Nat} {t : Tok} : IntsAre [.int (ver : Int) t] (([ver] : List Nat).map fun k : Nat => (k : Int)) := .cons _ _ .nil
end Mine
namespace Mine
section
variable {prog : Program} {w : World} {A : Around} {E : Value → Shared → Prop} {s : Shared} {env : Env} {scope : Scope} {cl : List (Str × Addr)} {x : Str} {elt : Expr} {h₀ : Heap} {L : Addr} {m : Str → Option Value} {news : List (Addr × Obj)}
abbrev GivesS (f : Nat → Str) (v y : Value) : Prop := ∃ (c : Nat) (u : Tok), v = .int (c : Int) u ∧ ∃ t, y = .str (f c) t
theorem ints_at {vs : List Value} {xs : List Nat} (h : IntsAre vs (xs.map fun k : Nat => (k : Int))) {j : Nat} {v : Value} (hj : vs[j]? = some v) : ∃ c, xs[j]? = some c ∧ ∃ u, v = .int (c : Int) u := by
  induction xs generalizing vs j with
  | nil => cases h; simp at hj
  | cons a xs ih =>
    cases h with
    | cons _ t h =>
      cases j with
      | zero => simp at hj; exact ⟨a, rfl, t, hj.symm⟩
      | succ j => exact ih h (by simpa using hj)
/-- what a comprehension over a list of ints asks where its source stands -/
def IntComp (prog : Program) (w : World) (A : Around) (env : Env) (scope : Scope) (cl : List (Str × Addr)) (x : Str) (elt : Expr) (f : Nat → Str) (Q : Value → Shared → Prop) (v : Value) (s₁ : Shared) : Prop :=
  ∃ l vs n xs, v = .ref l ∧ s₁.heap.get? l = some (W.listOf (List.toArray vs) n) ∧ IntsAre vs ((List.map fun k : Nat => (k : Int)) xs) ∧ xs.length ≤ 1000 ∧ A.handled = none ∧
    (∀ C k u s₃ m₃ E', k ∈ xs → s₃.heap.Ns C m₃ → m₃ x = some (.int ((k : Nat) : Int) u) → (∀ b o, s₁.heap.get? b = some o → s₃.heap.get? b = some o) →
      wpAny (model prog w) A (eval elt (compEnvC scope cl C env)) (fun y s₄ => (∃ t, y = .str (f k) t) ∧ Keeps s₃ s₄) E' s₃) ∧
    ∀ D n vs h' tk, (∀ b o, s₁.heap.get? b = some o → h'.get? b = some o) → s₁.heap.get? D = none → h'.get? D = some (W.listOf (List.toArray vs) n) → StrsAre vs (xs.map f) → Q (.ref D) { s₁ with heap := h', toks := tk }
theorem listcomp_int {iter : Expr} {px pos : Pos} {Q : Value → Shared → Prop} (f : Nat → Str) (hclos : closureFor scope env = pure cl) (hcell : ∀ y ∈ scope.names, y.2 ≠ .cell) (hkind : scope.kind = .function)
    (hnames : ∀ y ∈ scope.names, y.2 = .local → scope.names.lookup y.1 = some .local) (hx : scope.names.lookup x = some .local)
    (h : wpAny (model prog w) A (eval iter env) (IntComp prog w A env scope cl x elt f Q) E s) (hs : ∀ x, foldedSetIterable iter env x = pure x) :
    wpAny (model prog w) A (eval (.ListComp elt [⟨.Name x px, iter, [], 0⟩] scope pos) env) Q E s := by
  refine wpAny_ListComp_free (fun _ => true) (GivesS f) hclos hcell hkind hnames hx (wpAny_mono h (fun v s₁ h₁ => ?_) fun _ _ e => e) hs
  obtain ⟨l, vs, n, xs, rfl, hl, hi, hlen, hh, helt, hQ⟩ := h₁
  have hll : s₁.heap.IsList l vs.toArray := ⟨_, hl, rfl, _, rfl⟩
  have hlt : l < s₁.heap.objs.size := Heap.lt_size hl
  have hvl : vs.length = xs.length := by have := IntsAre.length hi; simpa using this
  refine wpAny_pyIter_list hll ?_
  have W := Walks.list (prog := prog) (w := w) hh s₁.heap.objs.size l (Nat.ne_of_lt hlt) vs.toArray
  have hsz : vs.toArray.size = xs.length := by simp [hvl]
  refine ⟨_, _, _, _, _, _, rfl, W, by rw [hsz, sizeLine_eq]; omega, ⟨⟨_, Heap.get?_push_size _ rfl, rfl, rfl⟩, hll.push _⟩, fun b hb => ?_, ⟨?_, ?_⟩, ?_⟩
  · show b < (s₁.heap.push _).objs.size
    rw [Heap.size_push]
    rcases List.mem_cons.mp hb with rfl | hb
    · exact Nat.lt_succ_self _
    · rw [List.mem_singleton.mp hb]; exact Nat.lt_succ_of_lt hlt
  · intro C i v s₃ m₃ E' _ _ _ _ _ _
    exact wpAny_pure ⟨rfl, s₃.heap, s₃.toks, rfl, fun _ _ e => e⟩
  · rintro C i v s₃ m₃ E' hC hcu _ hn hx hk htk
    obtain ⟨c, hc, u, rfl⟩ := ints_at hi (j := i) (by simpa using hcu)
    have hm : c ∈ xs := List.mem_of_getElem? hc
    refine wpAny_mono (helt C c u s₃ m₃ E' hm hn hx fun b o e => hk b o (fun hb => ?_) (Heap.get?_push_of_some _ e)) (fun y s₄ h => ⟨⟨c, u, rfl, h.1⟩, h.2⟩) fun _ _ e => e
    exact absurd (Heap.lt_size e) (by rw [List.mem_singleton.mp hb]; exact Nat.lt_irrefl _)
  · rintro D h' tk ys vs' hD _ ⟨n, hpl⟩ hlen' hP hF hk
    have hk' : ∀ b o, s₁.heap.get? b = some o → h'.get? b = some o := fun b o e => hk b o (fun hb => absurd (Heap.lt_size e) (by rw [List.mem_singleton.mp hb]; exact Nat.lt_irrefl _)) (Heap.get?_push_of_some _ e)
    have hD' : s₁.heap.get? D = none := by
      cases q : s₁.heap.get? D with
      | none => rfl
      | some o =>
        have h1 : (s₁.heap.push { cls := .type "list_iterator", data := .fields #[.ref l, .int 0 0] }).get? D = some o := Heap.get?_push_of_some _ q
        rw [hD] at h1; cases h1
    have e : ys = ys.toList.toArray := by simp
    refine hQ D n ys.toList h' tk hk' hD' (by rw [← e]; exact hpl) ?_
    exact strsAre_of (F := GivesS f) (f := f) (fun (c : Nat) v => ∃ u, v = .int (c : Int) u) (fun v y c ⟨u, hu⟩ ⟨c', u', hv, hy⟩ => by
      rw [hu] at hv
      have : c = c' := Int.ofNat.inj (Value.int.inj hv).1
      subst this; exact hy) (by rw [hlen', hsz]) (fun j v hj => by
      have := hP j v hj
      exact ints_at hi (by simpa using this)) (paired_true hF)
theorem intComp_in {l : Addr} {vs : List Value} {n : Nat} {xs : List Nat} {f : Nat → Str} {Q : Value → Shared → Prop} (F : Fr h₀ L s.heap m) (N : News h₀ L s.heap news) (hh : A.handled = none) (hl : (l, W.listOf vs.toArray n) ∈ news) (hi : IntsAre vs (xs.map fun k : Nat => (k : Int))) (hlen : xs.length ≤ 1000)
    (helt : ∀ C k u s₃ m₃ E', k ∈ xs → s₃.heap.Ns C m₃ → m₃ x = some (.int ((k : Nat) : Int) u) → (∀ b o, s.heap.get? b = some o → s₃.heap.get? b = some o) →
      wpAny (model prog w) A (eval elt (compEnvC scope cl C env)) (fun y s₄ => (∃ t, y = .str (f k) t) ∧ Keeps s₃ s₄) E' s₃)
    (hQ : ∀ D n vs h' tk, Fr h₀ L h' m → News h₀ L h' ((D, W.listOf (List.toArray vs) n) :: news) → StrsAre vs (xs.map f) → Q (.ref D) { s with heap := h', toks := tk }) :
    IntComp prog w A env scope cl x elt f Q (.ref l) s :=
  ⟨l, vs, n, xs, rfl, (N _ hl).1, hi, hlen, hh, helt, fun D n vs h' tk hk hD ho hi => hQ D n vs h' tk (F.keeps hk) (news_plus F N hk hD ho) hi⟩
end
section
variable {prog : Program} {w : World} {A : Around} {E : Value → Shared → Prop} {s : Shared} {value slice : PySem.Expr} {t u : Tok} {Q : Value → Shared → Prop}
theorem item_b32 {k : Nat} (h1 : k < 32) (h : ∀ t' j, Q (.str (txt [bsgn k]) t') { s with toks := j })
    (hs : subscripted slice false (.str (PySem.Str.ofString "qpzry9x8gf2tvdw0s3jn54khce6mua7l") t) (.int (k : Int) u) = operate [.str (PySem.Str.ofString "qpzry9x8gf2tvdw0s3jn54khce6mua7l") t, .int (k : Int) u] (getItem (.str (PySem.Str.ofString "qpzry9x8gf2tvdw0s3jn54khce6mua7l") t) (.int (k : Int) u)) := by with_unfolding_all rfl)
    (ht : ∀ r, letTemporaryGo value (.str (PySem.Str.ofString "qpzry9x8gf2tvdw0s3jn54khce6mua7l") t) r = pure () := by intro _; with_unfolding_all rfl) :
    wpAny (model prog w) A (subscriptTail value slice (.str (PySem.Str.ofString "qpzry9x8gf2tvdw0s3jn54khce6mua7l") t) (.int (k : Int) u)) Q E s := by
  rw [b32_str] at hs ht ⊢
  exact item_txt (by omega) (by show (k : Int) < 32; omega) (by decide) (fun t' j => by rw [Int.toNat_natCast]; exact h t' j) hs ht
theorem join_txt {D : Addr} {vs : List Value} {xs : List Nat} {f : Nat → Nat} (hl : s.heap.IsList D vs.toArray) (hf : StrsAre vs (xs.map fun k => txt [f k])) (hn : xs.length ≤ 1000) (h : ∀ t' k, Q (.str (txt (xs.map f)) t') { s with toks := k }) :
    wpAny (model prog w) A (call (.builtin "str.join") [.str (PySem.Str.ofString "") t, .ref D]) Q E s := by
  refine join_list (ys := xs.map fun k => txt [f k]) hl (by simpa using hf) ?_ ?_
  · have e3 : (PySem.Str.ofString "").length = 0 := by decide +kernel
    rw [e3, Nat.mul_zero, Nat.add_zero, List.map_map]
    have : ∀ l : List Nat, (l.map ((·.length) ∘ fun d => txt [f d])).sum = l.length := by
      intro l
      induction l with
      | nil => rfl
      | cons a r ih => rw [List.map_cons, List.sum_cons, ih, List.length_cons, Nat.add_comm]; rfl
    rw [this]; omega
  · rw [join_signs f]; exact h
theorem one_str : PySem.Str.ofString "1" = txt [49] := by decide +kernel
theorem add_txtE {x y : Str} {a b : List Nat} (hx : x = txt a) (hy : y = txt b) (hsz : a.length + b.length ≤ 10000) (h : ∀ t' k, Q (.str (txt (a ++ b)) t') { s with toks := k }) : wpAny (model prog w) A (binaryOp .Add (.str x t) (.str y u)) Q E s := by
  subst hx; subst hy; exact add_txt (by omega) h
end
end Mine
namespace Mine
/-- the ledger with another object at P -/
def setP (P : Addr) (o : Obj) (news : List (Addr × Obj)) : List (Addr × Obj) := news.map fun q => if q.1 = P then (P, o) else q
theorem setP_setP (P : Addr) (o o' : Obj) (news : List (Addr × Obj)) : setP P o (setP P o' news) = setP P o news := by
  unfold setP
  rw [List.map_map]
  apply List.map_congr_left
  intro q _
  by_cases h : q.1 = P
  · simp [h]
  · simp [h]
theorem setP_mem {P : Addr} {o o' : Obj} {news : List (Addr × Obj)} (h : (P, o') ∈ news) : (P, o) ∈ setP P o news :=
  List.mem_map.mpr ⟨_, h, by simp⟩
theorem setP_adr {P : Addr} {o : Obj} {news : List (Addr × Obj)} {q : Addr × Obj} (h : q ∈ setP P o news) : ∃ r ∈ news, r.1 = q.1 := by
  obtain ⟨r, hr, rfl⟩ := List.mem_map.mp h
  refine ⟨r, hr, ?_⟩
  by_cases e : r.1 = P
  · simp [e]
  · simp [e]
theorem setP_lt {P : Addr} {o : Obj} {news : List (Addr × Obj)} {d : Addr} (h : ∀ q ∈ news, q.1 < d) : ∀ q ∈ setP P o news, q.1 < d := fun q hq => by
  obtain ⟨r, hr, e⟩ := setP_adr hq
  exact e ▸ h r hr
theorem news_setP {h₀ h h' : Heap} {L P : Addr} {o o' : Obj} {news : List (Addr × Obj)} (N : News h₀ L h news) (hm : (P, o') ∈ news) (hx : Heap.ExtBut P h h') (ho : h'.get? P = some o) : News h₀ L h' (setP P o news) := fun q hq => by
  obtain ⟨r, hr, rfl⟩ := List.mem_map.mp hq
  by_cases e : r.1 = P
  · have n := N _ hm
    simp only [e, if_true]
    exact ⟨ho, n.2⟩
  · have n := N r hr
    simp only [e, if_false]
    exact ⟨hx _ _ e n.1, n.2⟩
theorem news_up {h₀ h h' : Heap} {L : Addr} {news : List (Addr × Obj)} (N : News h₀ L h news) (hk : ∀ p ∈ news, ∀ o, h.get? p.1 = some o → h'.get? p.1 = some o) : News h₀ L h' news := fun q hq => ⟨hk q hq _ (N q hq).1, (N q hq).2⟩
section
variable {M : Model} {A : Around} {E : Value → Shared → Prop} {s : Shared}
theorem genCode_L {env : Env} {c P : Addr} {ps : Array Value} {pos : Pos} {qn : Str} {scope : Scope} {Q : Value → Shared → Prop} (C : CodeHd s.heap c P) (hP : s.heap.get? P = some (tabObj ps)) (ht : TriplesOk ps.toList) (hcode : env.code = .ref c)
    (hQ : ∀ code h' tk ps', Heap.ExtBut P s.heap h' → s.heap.objs.size ≤ h'.objs.size → h'.get? P = some (tabObj ps') → TriplesOk ps'.toList → Q code { s with heap := h', toks := tk }) :
    wpAny M A (genexprCode env pos qn scope) Q E s := by
  cases hnf : codeAmong pos ps.toList with
  | none =>
    refine wpAny_genexprCodeX hcode (C.code hP ht) (C.tab hP) hnf fun c' h₃ tk₃ hx hge hlt hcode₃ _ htab₃ _ => ?_
    refine hQ _ _ _ _ hx (Nat.le_trans hge (Nat.le_of_lt hlt)) htab₃.2 ?_
    obtain ⟨o, vs, file, tf, flags, tg, inF, text, tt, op, _, _, _, _, _, _, _, hop, hpd, htr, _⟩ := hcode₃
    exact htr
  | some cv =>
    obtain ⟨o, vs, file, tf, flags, tg, inF, text, tt, op, ho, hd, h11, h2, h7, h9, h10, hop, hpd, htr, hne⟩ := C.code hP ht
    unfold genexprCode codeAt
    rw [hcode, if_neg (show ¬ ((Value.ref c == Value.none) = true) from Bool.false_ne_true)]
    refine wpAny_bind (wpAny_fieldsOf ho hd ?_)
    rw [h11]
    refine wpAny_bind (wpAny_fieldsOf hop hpd ?_)
    rw [hnf]
    exact wpAny_pure (hQ _ s.heap s.toks ps (Heap.ExtBut.refl _ _) (Nat.le_refl _) hP ht)
end
/-- a generator that gives f of each sign, no address of the ledger above Kb -/
structure GenB (prog : Program) (w : World) (A : Around) (L Kb a : Addr) (cs : List Nat) (f : Nat → Bool) (news : List (Addr × Obj)) (s : Shared) : Prop where
  gen : Gen prog w A Kb a cs.length (fun j y => ∃ k, cs[j]? = some k ∧ y = .bool (f k)) s
  le : L ≤ Kb
  all : ∀ q ∈ news, q.1 ≤ Kb
section
variable {prog : Program} {w : World} {A : Around} {E : Value → Shared → Prop} {s : Shared} {h₀ : Heap} {L c P : Addr} {m mg mb : Str → Option Value} {news : List (Addr × Obj)} {p : Program} {loose : List Str} {mean : ExcName → Option Value}
/-- what a generator expression over a text asks where its source stands -/
def GenSrc (prog : Program) (w : World) (A : Around) (h₀ : Heap) (P : Addr) (env : Env) (scope : Scope) (cl : List (Str × Addr)) (x : Str) (elt : Expr) (f : Nat → Bool) (Q : Value → Shared → Prop) (v : Value) (s₁ : Shared) : Prop :=
  ∃ cs t m L news ps, v = .str (txt cs) t ∧ (∀ k ∈ cs, k < 128) ∧ Fr h₀ L s₁.heap m ∧ News h₀ L s₁.heap news ∧ (P, tabObj ps) ∈ news ∧ TriplesOk ps.toList ∧ AllBare s₁.gens ∧ A.handled = none ∧
    (∀ (C : Addr) (code : Value) (A' : Around) (E' : Value → Shared → Prop) k u (s₂ : Shared) m₂, A'.handled = none → k ∈ cs → Fr h₀ C s₂.heap m₂ → m₂ x = some (.str (txt [k]) u) →
      wpAny (model prog w) A' (eval elt (genEnv scope cl C code builtinsNs env)) (fun y s₃ => y = .bool (f k) ∧ Keeps s₂ s₃) E' s₂) ∧
    ∀ a s₅ ps' Kb, TriplesOk ps'.toList → Fr h₀ L s₅.heap m → News h₀ L s₅.heap (setP P (tabObj ps') news) → AllBare s₅.gens → s₅.os = s₁.os → GenB prog w A L Kb a cs f (setP P (tabObj ps') news) s₅ → Q (.ref a) s₅
theorem genexp_str {env : Env} {elt iter : Expr} {x : Str} {px : Pos} {scope : Scope} {cl : List (Str × Addr)} {pos : Pos} {Q : Value → Shared → Prop} (f : Nat → Bool)
    (C : CodeHd h₀ c P) (T : Top p loose mean mg mb h₀) (hg : env.globals = mainGlobals) (hcode : env.code = .ref c)
    (hh : A.handled = none) (hco : scope.isCoroutine = false) (hclos : closureFor scope env = pure cl) (hcell : ∀ y ∈ scope.names, y.2 ≠ .cell) (h0 : scope.names.lookup (".0" : Str) = some NameKind.local)
    (hx : scope.names.lookup x = some .local) (hkind : scope.kind = .function) (hroom : A.depth < recursionLimit)
    (h : wpAny (model prog w) A (eval iter env) (GenSrc prog w A h₀ P env scope cl x elt f Q) E s)
    (hs : ∀ x, genFold iter env x = pure x) :
    wpAny (model prog w) A (eval (.GeneratorExp elt [⟨.Name x px, iter, [], 0⟩] scope pos) env) Q E s := by
  refine wpAny_GeneratorExp_walksQ hh hco hclos hcell h0 hx hkind hroom (wpAny_mono h (fun v s₁ h₁ => ?_) fun _ _ e => e) hs
  obtain ⟨cs, t, m, L, news, ps, rfl, hc, F, N, hm, ht, G, _, helt, hQ⟩ := h₁
  refine wpAny_pyIter_ascii (ascii_all hc) ?_
  have up : ∀ b o, s₁.heap.get? b = some o → (s₁.heap.push { cls := .type "str_ascii_iterator", data := .fields #[.str (txt cs) t, .int 0 0] }).get? b = some o := fun b o e => Heap.get?_push_of_some _ e
  have nP := N _ hm
  have hcP : cStatics ≠ P := fun e => by
    obtain ⟨_, hns, _⟩ := T.nolimit
    obtain ⟨o, es, ep, ho, hd, _⟩ := hns
    rw [e, nP.2.2] at ho; cases ho
  have hlim : (s₁.heap.push { cls := .type "str_ascii_iterator", data := .fields #[.str (txt cs) t, .int 0 0] }).NoLimit := (T.nolimit.keeps F.keep).keeps up
  refine ⟨hlim, genCode_L ((C.keeps F.keep).keeps up) (up _ _ nP.1) ht hcode fun code h₃ tk₃ ps' hx₃ hsz₃ hP₃ ht₃ => ?_⟩
  obtain ⟨bm, ob, b1, b2, b3, b4, b5, b6⟩ := T.bmain
  have hgP : mainGlobals ≠ P := fun q => by
    obtain ⟨o, es, ep, e, hd, _⟩ := T.g
    rw [q, nP.2.2] at e; cases e
  have hbP : bm ≠ P := fun q => by rw [q, nP.2.2] at b3; cases b3
  have hsz : (s₁.heap.push { cls := .type "str_ascii_iterator", data := .fields #[.str (txt cs) t, .int 0 0] }).objs.size = s₁.heap.objs.size + 1 := Heap.size_push _ _
  have hPlt : P < s₁.heap.objs.size := Heap.lt_size nP.1
  have old : ∀ b o, h₀.get? b = some o → h₃.get? b = some o := fun b o e => hx₃ b o (fun q => by rw [q, nP.2.2] at e; cases e) (up b o (F.keep b o e))
  refine wpAny_builtinsFor (hg ▸ ((T.g.keeps F.keep).keeps up).extBut hx₃ hgP) b1 b2 (old _ _ b3) b4 b5 b6 ?_
  replace hsz₃ : s₁.heap.objs.size + 1 ≤ h₃.objs.size := Nat.le_trans (Nat.le_of_eq hsz.symm) hsz₃
  have hIP : s₁.heap.objs.size ≠ P := Nat.ne_of_gt hPlt
  refine ⟨_, _, _, _, _, _, (fun _ => true), (fun j y => ∃ k, cs[j]? = some k ∧ y = .bool (f k)), rfl, (fun A' hA => Walks.strAscii hA s₁.heap.objs.size (txt cs) t), ?_, ?_, ?_, ?_, ?_, ?_⟩
  · obtain ⟨o, ho, r⟩ := (⟨_, Heap.get?_push_size s₁.heap rfl, rfl, rfl⟩ : (s₁.heap.push { cls := .type "str_ascii_iterator", data := .fields #[.str (txt cs) t, .int 0 0] }).IsStrIter s₁.heap.objs.size "str_ascii_iterator" (txt cs) t 0)
    exact ⟨o, hx₃ _ _ hIP ho, r⟩
  · intro b hb
    rw [List.mem_singleton.mp hb]
    exact Nat.lt_of_lt_of_le (by omega) hsz₃
  · exact hlim.extBut hx₃ hcP
  · intro hb
    have e := List.mem_singleton.mp hb
    obtain ⟨_, hns, _⟩ := T.nolimit
    obtain ⟨o, es, ep, ho, hd, _⟩ := hns
    exact absurd (Heap.lt_size (F.keep _ _ ho)) (by rw [e]; exact Nat.lt_irrefl _)
  · intro href hhref
    have frame : ∀ (s₂ : Shared) m₂, s₂.heap.Ns h₃.objs.size m₂ → (∀ b ∈ List.range h₃.objs.size, b ∉ [s₁.heap.objs.size] → ∀ o, href.get? b = some o → s₂.heap.get? b = some o) → Fr h₀ h₃.objs.size s₂.heap m₂ := by
      intro s₂ m₂ hn hk
      refine ⟨hn, fun b o e => ?_, ?_⟩
      · have e3 := old b o e
        refine hk b (List.mem_range.mpr (Heap.lt_size e3)) (fun hb => ?_) o (hhref _ _ e3)
        exact absurd (Heap.lt_size (F.keep _ _ e)) (by rw [List.mem_singleton.mp hb]; exact Nat.lt_irrefl _)
      · exact Nat.le_trans F.above (Nat.le_of_lt (Nat.lt_of_lt_of_le F.ns.lt (Nat.le_of_succ_le hsz₃)))
    refine ⟨?_, ?_⟩
    · intro A' E' i v s₂ m₂ hA _ hn hm2 hk
      exact wpAny_pure ⟨rfl, s₂.heap, s₂.toks, rfl, fun _ _ e => e⟩
    · rintro A' E' i v s₂ m₂ hA ⟨k, u, hk1, rfl⟩ _ hn hm2 hk
      have hk2 : cs[i]? = some k := by simpa using hk1
      refine wpAny_mono (helt _ code A' E' k u s₂ m₂ hA (List.mem_of_getElem? hk2) (frame s₂ m₂ hn hk) hm2) (fun y s₃ r => ⟨⟨k, hk2, r.1⟩, r.2⟩) fun _ _ e => e
  · intro a h₅ tk gs hgb hag hsz₅ hk₅ W hat
    have F3 : Fr h₀ L h₃ m := ⟨((F.ns.push _).extBut hx₃ nP.2.1.symm), old, F.above⟩
    have N3 : News h₀ L h₃ (setP P (tabObj ps') news) := news_setP (news_up N fun q _ o e => up _ _ e) hm hx₃ hP₃
    have hlt : ∀ q ∈ news, q.1 < s₁.heap.objs.size := fun q hq => Heap.lt_size (N q hq).1
    refine hQ a _ ps' (s₁.heap.objs.size - 1) ht₃ (F3.keeps hk₅) (news_up N3 fun q _ o e => hk₅ _ _ e) (G.push hgb) rfl ⟨?_, ?_, ?_⟩
    · have hp : (passing (fun _ => true) (txt cs).cps.size 0) = List.range cs.length := by
        unfold passing; simp
      rw [hp] at W
      have e : (List.range cs.length).length = cs.length := List.length_range
      rw [e] at W
      refine ⟨_, _, _, _, W.imp ?_, hat, (fun i s' st => st.1.typeIs), List.mem_cons_self, ?_, ?_⟩
      · rintro j y ⟨i, hi, hy⟩
        have hji : i = j := by
          have hj : j < cs.length := by
            have := (List.getElem?_eq_some_iff.mp hi).1
            simpa using this
          rw [List.getElem?_eq_getElem (by simpa using hj)] at hi
          simpa using (Option.some.inj hi).symm
        exact hji ▸ hy
      · intro b hb
        show b < h₅.objs.size
        rw [hsz₅]
        rcases List.mem_cons.mp hb with rfl | hb
        · exact Nat.lt_succ_self _
        · rcases List.mem_cons.mp hb with rfl | hb
          · exact Nat.lt_succ_of_lt hag
          · exact Nat.lt_succ_of_lt (Nat.lt_trans (List.mem_range.mp hb) hag)
      · intro b hb
        have : s₁.heap.objs.size ≤ b := by
          rcases List.mem_cons.mp hb with rfl | hb
          · show s₁.heap.objs.size ≤ h₃.objs.size
            omega
          · rw [List.mem_singleton.mp hb]
            exact Nat.le_refl _
        exact Nat.lt_of_lt_of_le (Nat.sub_lt (Nat.lt_of_le_of_lt (Nat.zero_le P) hPlt) (by decide)) this
    · exact Nat.le_sub_one_of_lt F.ns.lt
    · intro q hq
      exact Nat.le_sub_one_of_lt (setP_lt hlt q hq)
/-- any and all of such a generator -/
theorem any_L {a Kb : Addr} {cs : List Nat} {f : Nat → Bool} {Q : Value → Shared → Prop} (F : Fr h₀ L s.heap m) (N : News h₀ L s.heap news) (G : AllBare s.gens) (X : GenB prog w A L Kb a cs f news s)
    (h : ∀ s', Fr h₀ L s'.heap m → News h₀ L s'.heap news → AllBare s'.gens → s'.os = s.os → Q (.bool (cs.any f)) s') : wpAny (model prog w) A (call (.builtin "any") [.ref a]) Q E s := by
  refine any_rowsK F G X.gen X.le (fun j => (cs[j]?.map f).getD false) (fun j v s Q E hv hQ => ?_) fun s' F' G' hos hk => ?_
  · obtain ⟨b, hb, rfl⟩ := hv
    simp only [hb, Option.map_some, Option.getD_some] at hQ
    exact wpAny_truthy_bool hQ
  · have e : ((List.range cs.length).any fun j => (cs[j]?.map f).getD false) = cs.any f := by
      rw [← any_rangeD cs f]
      congr 1
      funext j
      cases cs[j]? <;> rfl
    rw [e]
    exact h s' F' (news_up N fun q hq o e => hk _ _ (X.all q hq) e) G' hos
theorem all_L {a Kb : Addr} {cs : List Nat} {f : Nat → Bool} {Q : Value → Shared → Prop} (F : Fr h₀ L s.heap m) (N : News h₀ L s.heap news) (G : AllBare s.gens) (X : GenB prog w A L Kb a cs f news s)
    (h : ∀ s', Fr h₀ L s'.heap m → News h₀ L s'.heap news → AllBare s'.gens → s'.os = s.os → Q (.bool (cs.all f)) s') : wpAny (model prog w) A (call (.builtin "all") [.ref a]) Q E s := by
  refine all_rowsK F G X.gen X.le (fun j => (cs[j]?.map f).getD true) (fun j v s Q E hv hQ => ?_) fun s' F' G' hos hk => ?_
  · obtain ⟨b, hb, rfl⟩ := hv
    simp only [hb, Option.map_some, Option.getD_some] at hQ
    exact wpAny_truthy_bool hQ
  · have e : ((List.range cs.length).all fun j => (cs[j]?.map f).getD true) = cs.all f := by
      rw [← all_rangeD cs f]
      congr 1
      funext j
      cases cs[j]? <;> rfl
    rw [e]
    exact h s' F' (news_up N fun q hq o e => hk _ _ (X.all q hq) e) G' hos
theorem genSrc_in {env : Env} {scope : Scope} {cl : List (Str × Addr)} {x : Str} {elt : Expr} {f : Nat → Bool} {Q : Value → Shared → Prop} {cs : List Nat} {t : Tok} {ps : Array Value} (F : Fr h₀ L s.heap m) (N : News h₀ L s.heap news) (hm : (P, tabObj ps) ∈ news) (ht : TriplesOk ps.toList) (G : AllBare s.gens) (hh : A.handled = none) (hc : ∀ k ∈ cs, k < 128)
    (helt : ∀ (C : Addr) (code : Value) (A' : Around) (E' : Value → Shared → Prop) k u (s₂ : Shared) m₂, A'.handled = none → k ∈ cs → Fr h₀ C s₂.heap m₂ → m₂ x = some (.str (txt [k]) u) →
      wpAny (model prog w) A' (eval elt (genEnv scope cl C code builtinsNs env)) (fun y s₃ => y = .bool (f k) ∧ Keeps s₂ s₃) E' s₂)
    (h : ∀ a s₅ ps' Kb, TriplesOk ps'.toList → Fr h₀ L s₅.heap m → News h₀ L s₅.heap (setP P (tabObj ps') news) → AllBare s₅.gens → s₅.os = s.os → GenB prog w A L Kb a cs f (setP P (tabObj ps') news) s₅ → Q (.ref a) s₅) :
    GenSrc prog w A h₀ P env scope cl x elt f Q (.str (txt cs) t) s :=
  ⟨cs, t, m, L, news, ps, rfl, hc, F, N, hm, ht, G, hh, helt, h⟩
/-- a name of the module, of the built-ins, in a generator -/
theorem gen_global {K : Frag} {scope : Scope} {C : Addr} {code : Value} {env : Env} {cl : List (Str × Addr)} {x : Str} {pos : Pos} {v : Value} {Q : Value → Shared → Prop} (F : Fr h₀ C s.heap m) (X : K.In h₀) (T : Top p loose mean mg mb h₀) (e : nsIn K mainGlobals x = some (some v)) (h : Q v s) (hg : env.globals = mainGlobals := by rfl)
    (hk : scope.kind = .function := by rfl) (hx : (genEnv scope cl C code builtinsNs env).kindOf x = some .globalImplicit := by rfl) (hd : (x == ("__debug__" : Str)) = false := by decide) :
    wpAny (model prog w) A (eval (.Name x pos) (genEnv scope cl C code builtinsNs env)) Q E s :=
  Name_function_global hk hx (loadGlobal_global (env := genEnv scope cl C code builtinsNs env) (show s.heap.Ns env.globals mg from hg ▸ (T.keeps F.keep).g) (mg_of X T.g e) h) hd
theorem gen_built {K : Frag} {scope : Scope} {C : Addr} {code : Value} {env : Env} {cl : List (Str × Addr)} {x : Str} {pos : Pos} {v : Value} {Q : Value → Shared → Prop} (F : Fr h₀ C s.heap m) (X : K.In h₀) (T : Top p loose mean mg mb h₀) (e : nsIn K mainGlobals x = some none) (hv : bootBuiltins x = some v) (hn : x ≠ "__name__") (h : Q v s) (hg : env.globals = mainGlobals := by rfl)
    (hk : scope.kind = .function := by rfl) (hx : (genEnv scope cl C code builtinsNs env).kindOf x = some .globalImplicit := by rfl) (hd : (x == ("__debug__" : Str)) = false := by decide) :
    wpAny (model prog w) A (eval (.Name x pos) (genEnv scope cl C code builtinsNs env)) Q E s :=
  Name_function_global hk hx (loadGlobal_builtin (env := genEnv scope cl C code builtinsNs env) (show s.heap.Ns env.globals mg from hg ▸ (T.keeps F.keep).g) (mg_none_of X T.g e) (show s.heap.Ns builtinsNs mb from (T.keeps F.keep).b) ((T.builtins x hn).trans hv) h) hd
end
end Mine
namespace Mine
/-- the same of a def whose code makes generators: P is the table of its code, in the ledger -/
abbrev DoesG (prog : Program) (w : World) (K : Frag) (P : Addr) (hd : Option Value) (dp un : Nat) (f : Addr) (vs : List Value) (pre : Heap → Heap → Addr → Heap → List (Addr × Obj) → Prop)
    (post : Heap → Addr → (Str → Option Value) → List (Addr × Obj) → Shared → (Value → Shared → Prop) → (Value → Shared → Prop) → Prop) : Prop :=
  ∀ (p : Program) (loose : List Str) (mean : ExcName → Option Value) (mg mb : Str → Option Value) (cn : Str) (cs : Scope) (a : Addr) (ccd : Value) (cl : List (Str × Addr)) (outer : List Env) (A₀ : Around) (base h₀ : Heap) (L : Addr)
    (m : Str → Option Value) (news : List (Addr × Obj)) (s : Shared) (Q E : Value → Shared → Prop) (ps : Array Value),
    Below A₀ base outer h₀ → Fr h₀ L s.heap m → K.In h₀ → News h₀ L s.heap news → Top p loose mean mg mb h₀ → cs.kind = .function → AllBare s.gens → (P, tabObj ps) ∈ news → TriplesOk ps.toList → pre base h₀ L s.heap news → post h₀ L m news s Q E →
    wpAny (model prog w) (room hd dp un cn cs L a ccd cl outer) (call (.ref f) vs) Q E s
theorem bsgn_ok {d : Nat} (h : d < 32) : 48 ≤ bsgn d ∧ bsgn d < 127 ∧ ¬ (65 ≤ bsgn d ∧ bsgn d ≤ 90) ∧ bsgn d ≠ 49 := by
  have : ∀ d : Fin 32, 48 ≤ bsgn d ∧ bsgn d < 127 ∧ ¬ (65 ≤ bsgn d ∧ bsgn d ≤ 90) ∧ bsgn d ≠ 49 := by decide
  exact this ⟨d, h⟩
theorem bech_signs {hs ys : List Nat} (hhs : ∀ k ∈ hs, 33 ≤ k ∧ k < 127 ∧ ¬ (65 ≤ k ∧ k ≤ 90) ∧ k ≠ 49) (hy : ∀ k ∈ ys, k < 32) : ∀ k ∈ hs ++ [49] ++ ys.map bsgn, 33 ≤ k ∧ k < 127 ∧ ¬ (65 ≤ k ∧ k ≤ 90) := by
  intro k hk
  rcases List.mem_append.mp hk with hk | hk
  · rcases List.mem_append.mp hk with hk | hk
    · have := hhs k hk; omega
    · have := List.mem_singleton.mp hk; omega
  · obtain ⟨d, hd, rfl⟩ := List.mem_map.mp hk
    have := bsgn_ok (hy d hd)
    omega
section
variable {prog : Program} {w : World} {A : Around} {E : Value → Shared → Prop} {s : Shared} {h₀ : Heap} {L : Addr} {m : Str → Option Value} {news : List (Addr × Obj)}
theorem any_LF {a Kb : Addr} {cs : List Nat} {Q : Value → Shared → Prop} (F : Fr h₀ L s.heap m) (N : News h₀ L s.heap news) (G : AllBare s.gens) (X : GenB prog w A L Kb a cs (fun _ => false) news s)
    (h : ∀ s', Fr h₀ L s'.heap m → News h₀ L s'.heap news → AllBare s'.gens → s'.os = s.os → Q (.bool false) s') : wpAny (model prog w) A (call (.builtin "any") [.ref a]) Q E s :=
  any_L F N G X fun s' F' N' G' o => by
    have e : cs.any (fun _ => false) = false := by induction cs with
      | nil => rfl
      | cons _ _ ih => simp
    rw [e]; exact h s' F' N' G' o
theorem all_LT {a Kb : Addr} {cs : List Nat} {Q : Value → Shared → Prop} (F : Fr h₀ L s.heap m) (N : News h₀ L s.heap news) (G : AllBare s.gens) (X : GenB prog w A L Kb a cs (fun _ => true) news s)
    (h : ∀ s', Fr h₀ L s'.heap m → News h₀ L s'.heap news → AllBare s'.gens → s'.os = s.os → Q (.bool true) s') : wpAny (model prog w) A (call (.builtin "all") [.ref a]) Q E s :=
  all_L F N G X fun s' F' N' G' o => by
    have e : cs.all (fun _ => true) = true := by induction cs with
      | nil => rfl
      | cons _ _ ih => simp
    rw [e]; exact h s' F' N' G' o
end
theorem still_txt {cs : List Nat} (h : ∀ k ∈ cs, 33 ≤ k ∧ k < 127 ∧ ¬ (65 ≤ k ∧ k ≤ 90)) : KXs.Still (txt cs) := fun c hc => by
  have := h c (by simpa using hc)
  omega
theorem at_one {l : List Nat} {c i : Nat} : StrLaws.At (txt l) (txt [c]) (txt l).length i ↔ l[i]? = some c := by
  unfold StrLaws.At Builtin.Str.subAt
  have hl1 : (txt [c]).length = 1 := rfl
  rw [hl1, txt_len]
  have he : (txt l).cps.extract i (i + 1) = ((l.drop i).take 1).toArray := by
    apply Array.toList_inj.mp
    simp
  rw [he]
  constructor
  · rintro ⟨h1, h2⟩
    have h3 : ((l.drop i).take 1).toArray = #[c] := beq_iff_eq.mp h2
    have h4 : (l.drop i).take 1 = [c] := by simpa using h3
    have h5 : i < l.length := by omega
    rw [List.drop_eq_getElem_cons h5] at h4
    have h6 : l[i] = c := (List.cons.inj h4).1
    rw [List.getElem?_eq_getElem h5, h6]
  · intro h
    obtain ⟨h1, h2⟩ := List.getElem?_eq_some_iff.mp h
    refine ⟨by omega, ?_⟩
    rw [List.drop_eq_getElem_cons h1, h2]
    exact beq_iff_eq.mpr rfl
theorem rfind_one {hs r : List Nat} (h : ∀ k ∈ r, k ≠ 49) : Txt.rfind (txt (hs ++ [49] ++ r)) (txt [49]) = (hs.length : Int) := by
  have a1 : StrLaws.At (txt (hs ++ [49] ++ r)) (txt [49]) (txt (hs ++ [49] ++ r)).length hs.length := at_one.mpr (by simp)
  rcases rfind_whole (txt (hs ++ [49] ++ r)) (txt [49]) with ⟨_, h2⟩ | ⟨i, e, h2, h3⟩
  · exact absurd a1 (h2 _)
  · rw [e]
    have h4 := at_one.mp h2
    congr 1
    rcases Nat.lt_trichotomy i hs.length with hlt | rfl | hgt
    · exact absurd a1 (h3 _ hlt)
    · rfl
    · rw [List.getElem?_append_right (by simp; omega)] at h4
      exact absurd rfl (h 49 (List.mem_of_getElem? h4))
theorem find_b32 {d : Nat} (h : d < 32) : Txt.find (PySem.Str.ofString "qpzry9x8gf2tvdw0s3jn54khce6mua7l") (txt [bsgn d]) = (d : Int) := by
  have : ∀ d : Fin 32, Txt.find (PySem.Str.ofString "qpzry9x8gf2tvdw0s3jn54khce6mua7l") (txt [bsgn d]) = ((d : Nat) : Int) := by decide +kernel
  exact this ⟨d, h⟩
theorem in_b32 {d : Nat} (h : d < 32) : Txt.contains (PySem.Str.ofString "qpzry9x8gf2tvdw0s3jn54khce6mua7l") (txt [bsgn d]) = true := by
  have : ∀ d : Fin 32, Txt.contains (PySem.Str.ofString "qpzry9x8gf2tvdw0s3jn54khce6mua7l") (txt [bsgn d]) = true := by decide +kernel
  exact this ⟨d, h⟩
section
variable {prog : Program} {w : World} {A : Around} {E : Value → Shared → Prop} {s : Shared} {t u : Tok} {Q : Value → Shared → Prop}
theorem ne_same {x : Str} (h : Q (.bool false) s) : wpAny (model prog w) A (compareOp .NotEq (.str x t) (.str x u)) Q E s :=
  ne_str (by rw [show (x != x) = false by simp]; exact h)
theorem len_txtE {l : List Nat} {n : Nat} (hn : l.length = n) (hl : n ≤ 1000000) (h : ∀ t' k, Q (.int (n : Int) t') { s with toks := k }) : wpAny (model prog w) A (call (.builtin "len") [.str (txt l) t]) Q E s :=
  len_str (by rw [txt_len]; omega) (by rw [txt_len, hn]; exact h _ _)
theorem rfind_K {hs r : List Nat} {y : Str} (hy : y = txt [49]) (hr : ∀ k ∈ r, k ≠ 49) (h : ∀ t' k, Q (.int ((hs.length : Nat) : Int) t') { s with toks := k }) : wpAny (model prog w) A (call (.builtin "str.rfind") [.str (txt (hs ++ [49] ++ r)) t, .str y u]) Q E s := by
  subst hy
  exact KXw.rfind (rfind_one hr) h
end
end Mine
namespace Mine
theorem pick_row (l : List Nat) (a : Nat) : ∀ k, a + k ≤ l.length → ((List.range k).map fun j => a + j).filterMap (l[·]?) = (l.drop a).take k
  | 0, _ => by simp
  | k + 1, h => by
    rw [List.range_succ, List.map_append, List.filterMap_append, pick_row l a k (by omega), List.take_add_one]
    congr 1
    simp only [List.map_cons, List.map_nil, List.getElem?_drop]
    rw [List.getElem?_eq_getElem (by omega : a + k < l.length)]
    simp [List.getElem?_eq_getElem (by omega : a + k < l.length)]
theorem slice_row {l : List Nat} {lo hi : Option Int} {a k : Nat} (h : a + k ≤ l.length) (e : Builtin.Str.strSliceIndices lo hi 1 l.length = (List.range k).map fun j => a + j) : Txt.slice (txt l) lo hi = txt ((l.drop a).take k) := by
  unfold Txt.slice
  rw [txt_len, e]
  split
  · rename_i q
    have q : k = l.length := by simpa using q
    have : a = 0 := by omega
    subst this
    rw [List.drop_zero, List.take_of_length_le (by omega)]
  · have : (txt l).cps = l.toArray := rfl
    rw [this]
    have e2 : (fun x : Nat => l.toArray[x]?) = fun x => l[x]? := by funext x; simp
    rw [e2, pick_row l a k h]
theorem range_row {a b : Int} {n k : Nat} (ha : a = (n : Int)) (hb : b = ((n + k : Nat) : Int)) : sliceRange a b 1 = (List.range k).map fun j => n + j := by
  subst ha; subst hb
  unfold sliceRange
  have hc : (if (1 : Int) > 0 then (if (n : Int) < ((n + k : Nat) : Int) then (((n + k : Nat) : Int) - (n : Int) + 1 - 1) / 1 else 0) else (if (n : Int) > ((n + k : Nat) : Int) then ((n : Int) - ((n + k : Nat) : Int) - 1 - 1) / (-1) else 0)).toNat = k := by
    rw [if_pos (by decide)]
    split
    · rw [Int.ediv_one]; omega
    · omega
  dsimp only
  rw [hc]
  apply List.map_congr_left
  intro j _
  omega
theorem slice_from {l : List Nat} {i : Int} {n : Nat} (hi : i = (n : Int)) (hn : n ≤ l.length) : Txt.slice (txt l) (some i) none = txt (l.drop n) := by
  subst hi
  have e : Builtin.Str.strSliceIndices (some (n : Int)) none 1 l.length = (List.range (l.length - n)).map fun j => n + j := by
    unfold Builtin.Str.strSliceIndices
    refine range_row ?_ ?_
    · simp only [show (1 : Int) > 0 by decide, if_true]
      rw [if_neg (by omega)]
      omega
    · simp only [show (1 : Int) > 0 by decide, if_true]
      omega
  rw [slice_row (by omega) e, List.take_of_length_le (by simp)]
theorem slice_to {l : List Nat} {i : Int} {n : Nat} (hi : i = (n : Int)) (hn : n ≤ l.length) : Txt.slice (txt l) none (some i) = txt (l.take n) := by
  subst hi
  have e : Builtin.Str.strSliceIndices none (some (n : Int)) 1 l.length = (List.range n).map fun j => 0 + j := by
    unfold Builtin.Str.strSliceIndices
    refine range_row ?_ ?_
    · simp only [show (1 : Int) > 0 by decide, if_true]
      rfl
    · simp only [show (1 : Int) > 0 by decide, if_true]
      rw [if_neg (by omega)]
      omega
  rw [slice_row (by omega) e, List.drop_zero]
section
variable {prog : Program} {w : World} {A : Around} {E : Value → Shared → Prop} {s : Shared} {h₀ : Heap} {L : Addr} {m : Str → Option Value} {news : List (Addr × Obj)} {value slice : PySem.Expr} {t ui : Tok} {Q : Value → Shared → Prop} {l : List Nat} {i : Int} {n : Nat} {r : List Nat}
theorem cut_from (F : Fr h₀ L s.heap m) (N : News h₀ L s.heap news) (hi : i = (n : Int)) (hn : n ≤ l.length) (hl : l.length ≤ 1000) (hr : l.drop n = r) (h : ∀ h' t' k, Fr h₀ L h' m → News h₀ L h' news → Q (.str (txt r) t') { s with heap := h', toks := k })
    (hs : subscripted slice false (.str (txt l) t) (.ref s.heap.objs.size) = operate [.ref s.heap.objs.size, .str (txt l) t] (getItem (.str (txt l) t) (.ref s.heap.objs.size)))
    (ht : ∀ r, letTemporaryGo value (.str (txt l) t) r = pure ()) :
    wpAny (model prog w) A (subscriptTail value slice (.str (txt l) t) (.ref s.heap.objs.size)) Q E { s with heap := s.heap.push { cls := .type "slice", data := .fields #[.int i ui, .none, .none] } } :=
  slice_strN_sn F N (fun h' t' k F' N' => by rw [slice_from hi hn, hr]; exact h h' t' k F' N') hs ht (by rw [txt_len, sizeLine_eq]; omega)
theorem cut_to (F : Fr h₀ L s.heap m) (N : News h₀ L s.heap news) (hi : i = (n : Int)) (hn : n ≤ l.length) (hl : l.length ≤ 1000) (hr : l.take n = r) (h : ∀ h' t' k, Fr h₀ L h' m → News h₀ L h' news → Q (.str (txt r) t') { s with heap := h', toks := k })
    (hs : subscripted slice false (.str (txt l) t) (.ref s.heap.objs.size) = operate [.ref s.heap.objs.size, .str (txt l) t] (getItem (.str (txt l) t) (.ref s.heap.objs.size)))
    (ht : ∀ r, letTemporaryGo value (.str (txt l) t) r = pure ()) :
    wpAny (model prog w) A (subscriptTail value slice (.str (txt l) t) (.ref s.heap.objs.size)) Q E { s with heap := s.heap.push { cls := .type "slice", data := .fields #[.none, .int i ui, .none] } } :=
  slice_strN_ns F N (fun h' t' k F' N' => by rw [slice_to hi hn, hr]; exact h h' t' k F' N') hs ht (by rw [txt_len, sizeLine_eq]; omega)
end
theorem drop_sep (hs r : List Nat) (c : Nat) : (hs ++ [c] ++ r).drop (hs.length + 1) = r := by
  rw [show hs.length + 1 = (hs ++ [c]).length by simp, List.drop_left]
theorem take_sep (hs r : List Nat) (c : Nat) : (hs ++ [c] ++ r).take hs.length = hs := by
  rw [List.append_assoc, List.take_left]
section
variable {prog : Program} {w : World} {A : Around} {E : Value → Shared → Prop} {s : Shared} {t u : Tok} {Q : Value → Shared → Prop} {d : Nat}
theorem in_b32K (hd : d < 32) (h : Q (.bool true) s) : wpAny (model prog w) A (compareOp .In (.str (txt [bsgn d]) u) (.str (PySem.Str.ofString "qpzry9x8gf2tvdw0s3jn54khce6mua7l") t)) Q E s :=
  SB.contains (by rw [in_b32 hd]; exact h)
theorem find_b32K (hd : d < 32) (h : ∀ t' k, Q (.int (d : Int) t') { s with toks := k }) : wpAny (model prog w) A (call (.builtin "str.find") [.str (PySem.Str.ofString "qpzry9x8gf2tvdw0s3jn54khce6mua7l") t, .str (txt [bsgn d]) u]) Q E s :=
  KXw.find (find_b32 hd) h
end
end Mine
namespace Mine
section
variable {prog : Program} {w : World} {A : Around} {E : Value → Shared → Prop} {s : Shared} {env : Env} {scope : Scope} {cl : List (Str × Addr)} {x y : Str} {elt : Expr} {h₀ : Heap} {L : Addr} {m : Str → Option Value} {news : List (Addr × Obj)}
def StrCompA (prog : Program) (w : World) (A : Around) (env : Env) (scope : Scope) (cl : List (Str × Addr)) (x y : Str) (elt : Expr) (f : Nat → Int) (Q : Flow → Shared → Prop) (v : Value) (s₁ : Shared) : Prop :=
  ∃ cs t h₀ m news, v = .str (txt cs) t ∧ (∀ c ∈ cs, c < 128) ∧ cs.length ≤ 1000 ∧ A.handled = none ∧ Fr h₀ env.locals s₁.heap m ∧ News h₀ env.locals s₁.heap news ∧
    (∀ C c u s₃ m₃ E', c ∈ cs → s₃.heap.Ns C m₃ → m₃ x = some (.str (txt [c]) u) → (∀ b o, s₁.heap.get? b = some o → s₃.heap.get? b = some o) →
      wpAny (model prog w) A (eval elt (compEnvC scope cl C env)) (fun y s₄ => (∃ t, y = .int (f c) t) ∧ Keeps s₃ s₄) E' s₃) ∧
    ∀ D n vs h' tk, Fr h₀ env.locals h' (fun z => if z = y then some (.ref D) else m z) → News h₀ env.locals h' ((D, W.listOf (List.toArray vs) n) :: news) → (∀ p ∈ news, p.1 ≠ D) → IntsAre vs (cs.map f) → Q .next { s₁ with heap := h', toks := tk }
theorem assigncomp_str {iter : Expr} {px py pos spos : Pos} {Q : Flow → Shared → Prop} (f : Nat → Int)
    (hsw : swapsWith (.ListComp elt [⟨.Name x px, iter, [], 0⟩] scope pos) (some (.Name y py)) spos.line env = pure true)
    (hclos : closureFor scope env = pure cl) (hcell : ∀ y ∈ scope.names, y.2 ≠ .cell) (hkind : scope.kind = .function)
    (hnames : ∀ y ∈ scope.names, y.2 = .local → scope.names.lookup y.1 = some .local) (hx : scope.names.lookup x = some .local)
    (hy : env.kindOf y = some .local) (hp : (env.scope.kind == .class || (env.scope.kind == .module && env.locals != env.globals)) = false)
    (h : wpAny (model prog w) A (eval iter env) (StrCompA prog w A env scope cl x y elt f Q) E s) (hs : ∀ x, foldedSetIterable iter env x = pure x) :
    wpAny (model prog w) A (exec (.Assign [.Name y py] (.ListComp elt [⟨.Name x px, iter, [], 0⟩] scope pos) spos) env) Q E s := by
  refine wpAny_Assign_ListComp_free (fun _ => true) (GivesI f) hsw hclos hcell hkind hnames hx hy hp (wpAny_mono h (fun v s₁ h₁ => ?_) fun _ _ e => e) hs
  obtain ⟨cs, t, h₀, m, news, rfl, hc, hlen, hh, F, N, helt, hQ⟩ := h₁
  refine wpAny_pyIter_ascii (ascii_all hc) ?_
  have W := Walks.strAscii (prog := prog) (w := w) hh s₁.heap.objs.size (txt cs) t
  have hsz : (txt cs).cps.size = cs.length := by simp
  have hget : ∀ i : Nat, (txt cs).cps[i]? = cs[i]? := fun i => by simp
  have hLI : env.locals ≠ s₁.heap.objs.size := Nat.ne_of_lt F.ns.lt
  refine ⟨_, _, _, _, _, _, m, rfl, W, by rw [hsz, sizeLine_eq]; omega, ⟨_, Heap.get?_push_size _ rfl, rfl, rfl⟩, fun b hb => by rw [List.mem_singleton.mp hb]; show _ < (s₁.heap.push _).objs.size; rw [Heap.size_push]; exact Nat.lt_succ_self _, fun hb => hLI (List.mem_singleton.mp hb), F.ns.push _, ⟨?_, ?_⟩, ?_⟩
  · intro C i v s₃ m₃ E' _ _ _ _ _ _
    exact wpAny_pure ⟨rfl, s₃.heap, s₃.toks, rfl, fun _ _ e => e⟩
  · rintro C i v s₃ m₃ E' hC ⟨c, u, hcu, rfl⟩ _ hn hx hk htk
    have hm : c ∈ cs := List.mem_of_getElem? (hget i ▸ hcu)
    refine wpAny_mono (helt C c u s₃ m₃ E' hm hn hx fun b o e => hk b o (fun hb => ?_) (Heap.get?_push_of_some _ e)) (fun y s₄ h => ⟨⟨c, u, rfl, h.1⟩, h.2⟩) fun _ _ e => e
    exact absurd (Heap.lt_size e) (by rw [List.mem_singleton.mp hb]; exact Nat.lt_irrefl _)
  · rintro D h' tk ys vs hD _ ⟨n, hpl⟩ hlen hP hF hn' hk
    have hk' : ∀ b o, b ≠ env.locals → s₁.heap.get? b = some o → h'.get? b = some o := fun b o hb e => hk b o hb (fun hb => absurd (Heap.lt_size e) (by rw [List.mem_singleton.mp hb]; exact Nat.lt_irrefl _)) (Heap.get?_push_of_some _ e)
    have hD' : s₁.heap.get? D = none := by
      cases q : s₁.heap.get? D with
      | none => rfl
      | some o =>
        have h1 : (s₁.heap.push { cls := .type "str_ascii_iterator", data := .fields #[.str (txt cs) t, .int 0 0] }).get? D = some o := Heap.get?_push_of_some _ q
        rw [hD] at h1; cases h1
    have hL₀ : h₀.get? env.locals = none := Heap.get?_none_of_le F.above
    have e : ys = ys.toList.toArray := by simp
    refine hQ D n ys.toList h' tk ⟨hn', fun b o e => hk' b o (fun q => by rw [q, hL₀] at e; cases e) (F.keep b o e), F.above⟩ (fun p hp => ?_) (fun p hp q => by have := (N p hp).1; rw [q, hD'] at this; cases this) ?_
    · rcases List.mem_cons.mp hp with rfl | hp
      · refine ⟨by rw [← e]; exact hpl, ?_, ?_⟩
        · rintro rfl
          obtain ⟨oL, _, _, hL, _⟩ := F.ns
          rw [hL] at hD'; cases hD'
        · cases q : h₀.get? D with
          | none => rfl
          | some o' => have := F.keep _ _ q; rw [hD'] at this; cases this
      · exact ⟨hk' _ _ (N p hp).2.1 (N p hp).1, (N p hp).2⟩
    · exact intsAre_of (F := GivesI f) (f := f) (fun c v => ∃ u, v = .str (txt [c]) u) (fun v y c ⟨u, hu⟩ ⟨c', u', hv, hy⟩ => by
        rw [hu] at hv
        have : c = c' := by
          have h1 := (Value.str.inj hv).1
          have h2 := congrArg (fun z : Str => z.cps.toList) h1
          simpa using h2
        subst this; exact hy) (by rw [hlen, hsz]) (fun j v hj => by
        obtain ⟨c, u, hcu, rfl⟩ := hP j v hj
        exact ⟨c, hget j ▸ hcu, u, rfl⟩) (paired_true hF)
theorem strCompA_in {cs : List Nat} {t : Tok} {f : Nat → Int} {Q : Flow → Shared → Prop} (F : Fr h₀ env.locals s.heap m) (N : News h₀ env.locals s.heap news) (hh : A.handled = none) (hc : ∀ c ∈ cs, c < 128) (hlen : cs.length ≤ 1000)
    (helt : ∀ C c u s₃ m₃ E', c ∈ cs → s₃.heap.Ns C m₃ → m₃ x = some (.str (txt [c]) u) → (∀ b o, s.heap.get? b = some o → s₃.heap.get? b = some o) →
      wpAny (model prog w) A (eval elt (compEnvC scope cl C env)) (fun y s₄ => (∃ t, y = .int (f c) t) ∧ Keeps s₃ s₄) E' s₃)
    (hQ : ∀ D n vs h' tk, Fr h₀ env.locals h' (fun z => if z = y then some (.ref D) else m z) → News h₀ env.locals h' ((D, W.listOf (List.toArray vs) n) :: news) → (∀ p ∈ news, p.1 ≠ D) → IntsAre vs (cs.map f) → Q .next { s with heap := h', toks := tk }) :
    StrCompA prog w A env scope cl x y elt f Q (.str (txt cs) t) s :=
  ⟨cs, t, h₀, m, news, rfl, hc, hlen, hh, F, N, helt, hQ⟩
end
/-- the figure of a sign of bech32 -/
def bval (k : Nat) : Nat := b32s.idxOf k
theorem bval_bsgn {d : Nat} (h : d < 32) : bval (bsgn d) = d := by
  have : ∀ d : Fin 32, bval (bsgn d) = d := by decide
  exact this ⟨d, h⟩
theorem bvals {ys : List Nat} (hy : ∀ k ∈ ys, k < 32) : ((ys.map bsgn).map fun k => ((bval k : Nat) : Int)) = ys.map fun k : Nat => (k : Int) := by
  rw [List.map_map]
  exact List.map_congr_left fun k hk => by show ((bval (bsgn k) : Nat) : Int) = _; rw [bval_bsgn (hy k hk)]
theorem asc_of {hs : List Nat} (h : ∀ k ∈ hs, 33 ≤ k ∧ k < 127 ∧ ¬ (65 ≤ k ∧ k ≤ 90) ∧ k ≠ 49) : ∀ k ∈ hs, k < 128 := fun k hk => Nat.lt_trans (h k hk).2.1 (by decide)
theorem news_drop3 {h₀ h : Heap} {L : Addr} {a b c : Addr × Obj} {r : List (Addr × Obj)} (N : News h₀ L h (a :: b :: c :: r)) : News h₀ L h (a :: b :: r) := fun p hp => N p (by
  rcases List.mem_cons.mp hp with rfl | hp
  · exact .head _
  · rcases List.mem_cons.mp hp with rfl | hp
    · exact .tail _ (.head _)
    · exact .tail _ (.tail _ (.tail _ hp)))
theorem take6 {a b : List Nat} (h : b.length = 6) : (a ++ b).take ((a ++ b).length - 6) = a := by
  rw [List.length_append, h, Nat.add_sub_cancel, List.take_left]
end Mine
namespace Mine
/-- the six signs of the check -/
def chk6 (hs ys : List Nat) (mk : Bool) : List Nat := dig6 (pm 1 (hx hs ys ++ [0, 0, 0, 0, 0, 0]) ^^^ (if mk then 734539939 else 1))
theorem enc_ok {hs ys : List Nat} {mk : Bool} (hh : ∀ x ∈ hx hs ys, x < 32) : pm 1 (hx hs (ys ++ chk6 hs ys mk)) = if mk then 734539939 else 1 := by
  unfold chk6
  rw [← hx_append, pm_append, pm_append]
  refine pm_check (pm_lt (by decide) hh) ?_
  cases mk <;> decide
theorem hx_lt {hs ys : List Nat} (h1 : ∀ k ∈ hs, k < 128) (h2 : ∀ k ∈ ys, k < 32) : ∀ x ∈ hx hs ys, x < 32 := by
  intro x hx'
  unfold hx at hx'
  rcases List.mem_append.mp hx' with h | h
  · rcases List.mem_append.mp h with h | h
    · rcases List.mem_append.mp h with h | h
      · obtain ⟨k, hk, rfl⟩ := List.mem_map.mp h
        have := h1 k hk
        show k >>> 5 < 32
        rw [Nat.shiftRight_eq_div_pow]
        omega
      · have := List.mem_singleton.mp h; omega
    · obtain ⟨k, hk, rfl⟩ := List.mem_map.mp h
      have e : k &&& 31 ≤ 31 := Nat.and_le_right
      exact Nat.lt_succ_of_le e
  · exact h2 x h
/-- a witness address -/
def wit (hs : List Nat) (ver : Nat) (b : List Nat) (mk : Bool) : List Nat := hs ++ [49] ++ ((ver :: to5 b) ++ chk6 hs (ver :: to5 b) mk).map bsgn
theorem ver_lt {ver : Nat} {mk : Bool} {b : List Nat} (hver : ver = 0 ∧ mk = false ∨ ver = 1 ∧ mk = true) : ∀ k ∈ ver :: to5 b, k < 32 := by
  intro k hk
  rcases List.mem_cons.mp hk with rfl | hk
  · omega
  · exact to5_lt _ k hk
theorem ints_cons {vs : List Value} {ver : Nat} {t : Tok} {r : List Nat} (h : IntsAre vs (r.map fun k : Nat => (k : Int))) : IntsAre (.int (ver : Int) t :: vs) ((ver :: r).map fun k : Nat => (k : Int)) := .cons _ _ h
/-- (a number, a list) is not (None, None) -/
theorem eq_none2 {prog : Program} {w : World} {A : Around} {E : Value → Shared → Prop} {s : Shared} {Q : Value → Shared → Prop} {h₀ : Heap} {L q D l : Addr} {i : Int} {t : Tok} {news : List (Addr × Obj)} {vs : List Value} {n : Nat} (N : News h₀ L s.heap news)
    (h1 : (q, { cls := .type "tuple", data := .seq #[.int i t, .ref l] }) ∈ news) (h2 : (D, { cls := .type "tuple", data := .seq #[.none, .none] }) ∈ news) (h3 : (l, W.listOf vs.toArray n) ∈ news) (hu : A.units + 1 < cLine) (h : Q (.bool false) s) :
    wpAny (model prog w) A (compareOp .Eq (.ref q) (.ref D)) Q E s := by
  have hl : s.heap.IsList l vs.toArray := ⟨_, (N _ h3).1, rfl, _, rfl⟩
  refine SeqAt.eq_tupleAt (items := #[.int i t, .ref l]) (items2 := #[.none, .none]) (e := fun _ => false) ⟨_, (N _ h1).1, rfl, _, rfl⟩ ⟨_, (N _ h2).1, rfl, _, rfl⟩ (Nat.lt_of_succ_lt hu) (fun j j1 j2 => ?_) ?_
  · match j, j1, j2 with
    | 0, _, _ => exact SeqAt.EqAt.int_none i t
    | 1, _, _ => exact SeqAt.EqAt.list_none hl hu
  · exact h
end Mine
namespace Mine
theorem int_no_bytes : typeLookup (.type "int") "__bytes__" = pure none := by rw [typeLookup_type, builtinLookup_eq_fast]; kernel_rfl
theorem int_has_index : typeLookup (.type "int") "__index__" = pure (some (.builtin "int.__index__")) := by rw [typeLookup_type, builtinLookup_eq_fast]; kernel_rfl
section
variable {prog : Program} {w : World} {A : Around} {E : Value → Shared → Prop} {s : Shared}
theorem bn_new {n : Int} {t : Tok} {Q : Value → Shared → Prop} (h0 : 0 ≤ n) (hn : n ≤ 1000)
    (hQ : ∀ t' k, Q (.bytes (Array.replicate n.toNat 0) t') { s with toks := k }) :
    codeAny (model prog w) A (.call (.builtin "bytes.__new__") ⟨[.type "bytes", .int n t], []⟩) (wants Q E) s := by
  refine codeAny_of_tree ?_
  show wpAny _ A.in1 (do checkBuiltinCall "bytes.__new__" ⟨[.type "bytes", .int n t], []⟩; again (.builtin "bytes.__new__" ⟨[.type "bytes", .int n t], []⟩)) _ _ s
  refine wpAny_bind (wpAny_of_eq (F.bm_newCall _) (wpAny_pure ⟨plainId_quiet F.bm_plain _, codeAny_builtin F.bm_entry ?_⟩))
  rw [Around.under_plainId F.bm_plain _]
  unfold Builtin.«bytes.__new__»
  refine wpAny_bind (wpAny_of_eq (a := true) rfl ?_)
  refine bm_if_false rfl ?_
  refine wpAny_bind (wpAny_of_eq F.bm_sub ?_)
  refine bm_if_false rfl ?_
  refine wpAny_bind (wpAny_of_eq (F.bm_bind _) ?_)
  refine wpAny_bind (wpAny_of_eq (a := ()) rfl ?_)
  refine wpAny_bind (wpAny_of_eq (a := ()) rfl ?_)
  refine bm_if_false rfl ?_
  refine wpAny_bind (wpAny_specialOf (typeIs_int _ _ _) int_no_bytes ?_)
  refine wpAny_bind (wpAny_of_eq (a := false) rfl ?_)
  refine bm_if_false rfl ?_
  refine wpAny_bind (wpAny_specialOf (typeIs_int _ _ _) int_has_index ?_)
  refine bm_if_false rfl ?_
  refine wpAny_bind (wpAny_attempt (wpAny_of_eq (rfl : asIndex (.int n t) = pure n) ?_))
  dsimp only
  refine bm_if_false (by simp only [Builtin.Bytes.fitsIndex, Bool.not_eq_false', Bool.and_eq_true, decide_eq_true_eq]; omega) ?_
  have i1 : ∀ {α : Type} {c : Prop} [Decidable c] {a b : Sem α} {Q : α → Shared → Prop} {E : Value → Shared → Prop} {s : Shared}, ¬ c → wpAny (model prog w) A.in1 b Q E s → wpAny (model prog w) A.in1 (if c then a else b) Q E s := by
    intro α c _ a b Q E s hc h
    rw [if_neg hc]; exact h
  refine i1 (by omega) ?_
  refine i1 (by omega) ?_
  refine bm_if_false (by simp only [Builtin.Bytes.tooLong, decide_eq_false_iff_not, sizeLine_eq]; omega) ?_
  refine wpAny_bind (wpAny_rule ?_)
  refine wpAny_bind (wpAny_mkBytes ?_ (by rw [Array.size_replicate, sizeLine_eq]; omega))
  show wpAny _ _ (if (Value.type "bytes" == Value.type "bytes") = true then _ else _) _ _ _
  refine bm_if_true (by decide) ?_
  first
    | exact wpAny_pure (hQ _ _)
    | exact wpAny_bind (wpAny_pure (wpAny_pure (hQ _ _)))
theorem call_bytes_int {n : Int} {t : Tok} {Q : Value → Shared → Prop} (h0 : 0 ≤ n) (hn : n ≤ 1000)
    (hQ : ∀ t' k, Q (.bytes (Array.replicate n.toNat 0) t') { s with toks := k }) : wpAny (model prog w) A (call (.type "bytes") [.int n t]) Q E s := by
  refine callType_codes (Q₁ := fun obj s₁ => s₁.TypeIs obj "bytes" ∧ Q obj s₁) F.bm_called (F.bm_typeCall _) F.entry_object_init
    (bn_new h0 hn fun t' k => ⟨PySem.W.typeIs_bytes _ _ _, hQ t' k⟩) fun obj s₁ h₁ => ?_
  exact ⟨h₁.1, F.args_object_init_2 obj _, object_init_meets F.bm_called.init.lookup F.bm_called.made (by decide) prog w A.in1 _ s₁ ⟨h₁.1, rfl, h₁.2⟩⟩
end
theorem picked_first {b : Array UInt8} {n : Nat} (h : n ≤ b.size) : (KBy.picked b none (some (n : Int))).size = n := by
  rw [picked_size]
  have e : clipAt b.size (n : Int) = n := by
    have := clipAt_cast b.size (n : Int)
    rw [if_neg (by omega)] at this
    omega
  simp only [Option.elim, e]
  omega
theorem rep5 {k : Nat} {a b c d e : UInt8} : (List.replicate k [a, b, c, d, e]).flatten.toArray.size = 5 * k := by
  rw [List.size_toArray]
  induction k with
  | zero => rfl
  | succ k ih => rw [List.replicate_succ, List.flatten_cons, List.length_append, ih]; simp only [List.length_cons, List.length_nil]; omega
end Mine
namespace Mine
theorem clip_pos {n k : Nat} (h : k ≤ n) : clipAt n (k : Int) = k := by
  have := clipAt_cast n (k : Int)
  rw [if_neg (by omega)] at this
  omega
theorem clip_neg {n k : Nat} (h0 : 0 < k) (h : k ≤ n) : clipAt n (-(k : Int)) = n - k := by
  have := clipAt_cast n (-(k : Int))
  rw [if_pos (by omega)] at this
  omega
theorem arr_of {x y : Array UInt8} (h : x.toList = y.toList) : x = y := Array.toList_inj.mp h
/-- the first octets, those from a place on, those between, the last ones -/
theorem cut_head {D x r : Array UInt8} {k : Int} (hD : D = x ++ r) (hk : k = (x.size : Int)) : KBy.picked D none (some k) = x := by
  subst hD; subst hk
  rw [KBc.picked_eq]
  apply arr_of
  simp only [Option.elim, clip_pos (show x.size ≤ (x ++ r).size by rw [Array.size_append]; omega)]
  simp
theorem cut_rest {D x r : Array UInt8} {k : Int} (hD : D = x ++ r) (hk : k = (x.size : Int)) : KBy.picked D (some k) none = r := by
  subst hD; subst hk
  rw [KBc.picked_eq]
  apply arr_of
  simp only [Option.elim, clip_pos (show x.size ≤ (x ++ r).size by rw [Array.size_append]; omega)]
  simp
  exact List.take_of_length_le (by simp)
theorem cut_mid {D x y z : Array UInt8} {k j : Int} (hD : D = x ++ y ++ z) (hk : k = (x.size : Int)) (hj : j = ((x.size + y.size : Nat) : Int)) : KBy.picked D (some k) (some j) = y := by
  subst hD; subst hk; subst hj
  rw [KBc.picked_eq]
  apply arr_of
  simp only [Option.elim, clip_pos (show x.size ≤ (x ++ y ++ z).size by rw [Array.size_append, Array.size_append]; omega), clip_pos (show x.size + y.size ≤ (x ++ y ++ z).size by rw [Array.size_append, Array.size_append]; omega)]
  simp
theorem cut_last {D x z : Array UInt8} {k : Int} (hD : D = x ++ z) (hz : 0 < z.size) (hk : k = -(z.size : Int)) : KBy.picked D (some k) none = z := by
  subst hD; subst hk
  rw [KBc.picked_eq]
  apply arr_of
  simp only [Option.elim, clip_neg hz (show z.size ≤ (x ++ z).size by rw [Array.size_append]; omega)]
  simp
  exact List.take_of_length_le (by simp)
section
variable {prog : Program} {w : World} {A : Around} {E : Value → Shared → Prop} {s : Shared} {b c r : Array UInt8} {t u : Tok} {Q : Value → Shared → Prop} {h₀ : Heap} {L : Addr} {m : PySem.Str → Option Value} {news : List (Addr × Obj)}
theorem bcutE {value slice : PySem.Expr} {l v : Value} {lo hi : Option Int} (hF : Fr h₀ L s.heap m) (hN : News h₀ L s.heap news) (hl : IsPart l lo) (hu : IsPart v hi) (hz : b.size ≤ 16777216) (e : KBy.picked b lo hi = r)
    (h : ∀ h' t' k, Fr h₀ L h' m → News h₀ L h' news → Q (.bytes r t') { s with heap := h', toks := k })
    (hs : subscripted slice false (.bytes b t) (.ref s.heap.objs.size) = operate [.ref s.heap.objs.size, .bytes b t] (getItem (.bytes b t) (.ref s.heap.objs.size)) := by with_unfolding_all rfl)
    (ht : ∀ r, letTemporaryGo value (.bytes b t) r = pure () := by intro _; with_unfolding_all rfl) :
    wpAny (model prog w) A (subscriptTail value slice (.bytes b t) (.ref s.heap.objs.size)) Q E { s with heap := s.heap.push { cls := .type "slice", data := .fields #[l, v, .none] } } :=
  bcut hF hN hl hu hz (fun h' t' k F N => by rw [e]; exact h h' t' k F N) hs ht
theorem beq_same (h : Q (.bool true) s) : wpAny (model prog w) A (compareOp .Eq (.bytes b t) (.bytes b u)) Q E s :=
  PySem.W.eq_bytes (by rw [beq_self_eq_true]; exact h)
theorem beq_diff (hne : b ≠ c) (h : Q (.bool false) s) : wpAny (model prog w) A (compareOp .Eq (.bytes b t) (.bytes c u)) Q E s :=
  PySem.W.eq_bytes (by rw [show (b.toList == c.toList) = false from beq_eq_false_iff_ne.mpr fun q => hne (arr_of q)]; exact h)
end
end Mine
namespace Mine
/-- signs of base 58 -/
def sg (l : List Nat) : List Nat := l.map fun d => b58s.getD d 0
theorem zeros_front {c : Nat} {r : List Nat} (h : c ≠ 0) : zeros (c :: r) = 0 := by
  cases c with
  | zero => exact absurd rfl h
  | succ c => rfl
theorem b58_front {b : List Nat} {i k q : Nat} (hz : zeros b = 0) (hk : i + k = 150) (hq : num b / 58 ^ i = q) (h0 : q ≠ 0) : ∃ rest, b58l b = sg (leF k q).reverse ++ rest := by
  obtain ⟨pre, _, e⟩ := leF_split i k (num b) (by rw [hq]; exact h0)
  refine ⟨sg pre.reverse, ?_⟩
  unfold b58l sg
  rw [hz, ← hk, e, hq, List.reverse_append, List.map_append]; rfl
theorem head_q {v r : List Nat} {i : Nat} (hr : ∀ d ∈ r, d < 256) : num v * 256 ^ r.length / 58 ^ i ≤ num (v ++ r) / 58 ^ i ∧ num (v ++ r) / 58 ^ i ≤ ((num v + 1) * 256 ^ r.length - 1) / 58 ^ i := by
  have h := num_lt hr
  rw [num_append]
  constructor
  · exact Nat.div_le_div_right (by omega)
  · refine Nat.div_le_div_right ?_
    rw [Nat.add_mul, Nat.one_mul]; omega
/-- a front sign c that is not nought, r octets behind: the front figure lies between two -/
def front1 (c n i lo hi : Nat) : Bool := c != 0 && decide (lo ≤ c * 256 ^ n / 58 ^ i) && decide (((c + 1) * 256 ^ n - 1) / 58 ^ i ≤ hi) && decide (0 < lo) && decide (hi < 58) && decide (i < 150)
theorem front1_is {c n i lo hi : Nat} {r : List Nat} (h : front1 c n i lo hi = true) (hr : ∀ d ∈ r, d < 256) (hn : r.length = n) : ∃ q rest, lo ≤ q ∧ q ≤ hi ∧ b58l (c :: r) = b58s.getD q 0 :: rest := by
  simp only [front1, Bool.and_eq_true, bne_iff_ne, ne_eq, decide_eq_true_eq] at h
  obtain ⟨⟨⟨⟨⟨h1, h2⟩, h3⟩, h4⟩, h5⟩, h6⟩ := h
  have hq := head_q (v := [c]) (i := i) hr
  have e : num [c] = c := by simp [num]
  rw [e, hn] at hq
  have hl : lo ≤ num ([c] ++ r) / 58 ^ i := Nat.le_trans h2 hq.1
  have hh : num ([c] ++ r) / 58 ^ i ≤ hi := Nat.le_trans hq.2 h3
  obtain ⟨rest, e2⟩ := b58_front (b := c :: r) (i := i) (k := 149 - i + 1) (zeros_front h1) (by omega) rfl (by
    have : num (c :: r) = num ([c] ++ r) := rfl
    rw [this]; omega)
  refine ⟨num ([c] ++ r) / 58 ^ i, rest, hl, hh, ?_⟩
  rw [e2]
  show sg (leF (149 - i + 1) (num ([c] ++ r) / 58 ^ i)).reverse ++ rest = _
  rw [leF_pos (by omega), Nat.div_eq_of_lt (by omega : num ([c] ++ r) / 58 ^ i < 58), leF_zero, Nat.mod_eq_of_lt (by omega)]
  rfl
/-- the version v, 78 octets behind: the first four signs are those of name -/
def keyOk (v name : List Nat) : Bool := (match v with | c :: _ => c != 0 | [] => false) && (num v * 256 ^ 78 / 58 ^ 107 == ((num v + 1) * 256 ^ 78 - 1) / 58 ^ 107) && (num v * 256 ^ 78 / 58 ^ 107 != 0) && (sg (leF 43 (num v * 256 ^ 78 / 58 ^ 107)).reverse == name)
theorem keyOk_is {v name r : List Nat} (h : keyOk v name = true) (hr : ∀ d ∈ r, d < 256) (hn : r.length = 78) : ∃ rest, b58l (v ++ r) = name ++ rest := by
  unfold keyOk at h
  rw [Bool.and_eq_true, Bool.and_eq_true, Bool.and_eq_true] at h
  obtain ⟨⟨⟨h1, h2⟩, h3⟩, h4⟩ := h
  have hq := head_q (v := v) (i := 107) hr
  rw [hn, ← beq_iff_eq.mp h2] at hq
  have hz : zeros (v ++ r) = 0 := by
    cases v with
    | nil => cases h1
    | cons c v => exact zeros_front (by simpa using h1)
  have e : num (v ++ r) / 58 ^ 107 = num v * 256 ^ 78 / 58 ^ 107 := Nat.le_antisymm hq.2 hq.1
  obtain ⟨rest, e2⟩ := b58_front (k := 43) hz rfl e (by simpa using h3)
  exact ⟨rest, by rw [e2, beq_iff_eq.mp h4]⟩
/-- lengths -/
theorem b58l_len {b : List Nat} {m : Nat} (h : num b < 58 ^ m) : (b58l b).length ≤ zeros b + m := by
  unfold b58l
  rw [List.length_append, List.length_replicate, List.length_map, List.length_reverse]
  have := leF_len 150 _ _ h
  omega
theorem num_zeros : ∀ {b : List Nat}, (∀ d ∈ b, d < 256) → num b < 256 ^ (b.length - zeros b)
  | [], _ => by decide
  | 0 :: r, h => by
    have ih := num_zeros (b := r) fun d hd => h d (.tail _ hd)
    rw [num_cons, Nat.zero_mul, Nat.zero_add, List.length_cons]
    show num r < 256 ^ (r.length + 1 - (zeros r + 1))
    rwa [Nat.add_sub_add_right]
  | (c + 1) :: r, h => num_lt h
theorem len0 {r : List Nat} (hr : ∀ d ∈ r, d < 256) (hn : r.length = 24) : (b58l (0 :: r)).length ≤ 34 ∧ ∃ rest, b58l (0 :: r) = 49 :: rest := by
  constructor
  · have h1 := num_zeros hr
    have hz := zeros_le r
    rw [hn] at h1 hz
    have t : ∀ z : Fin 25, 256 ^ (24 - (z : Nat)) ≤ 58 ^ (33 - (z : Nat)) := by decide +kernel
    have h2 := t ⟨zeros r, by omega⟩
    have e : num (0 :: r) = num r := by rw [num_cons]; simp
    have := b58l_len (b := 0 :: r) (m := 33 - zeros r) (by rw [e]; exact Nat.lt_of_lt_of_le h1 h2)
    have e2 : zeros (0 :: r) = zeros r + 1 := rfl
    omega
  · exact ⟨_, rfl⟩
theorem lenc {c m : Nat} {r : List Nat} (hc : c ≠ 0) (hr : ∀ d ∈ r, d < 256) (hn : r.length = 24) (h : (c + 1) * 256 ^ 24 ≤ 58 ^ m) : (b58l (c :: r)).length ≤ m := by
  have h1 := num_lt hr
  have := b58l_len (b := c :: r) (m := m) (by
    rw [num_cons, hn]; rw [hn] at h1
    refine Nat.lt_of_lt_of_le ?_ h
    rw [Nat.add_mul, Nat.one_mul]; omega)
  rwa [zeros_front hc, Nat.zero_add] at this

/-- a text with a check, out of octets -/
def E58 (b : Array UInt8) : List Nat := b58l (bl (b ++ KBy.picked (dsha b) (some 0) (some 4)))
theorem E58_bl (v body : Array UInt8) : ∃ r, bl ((v ++ body) ++ KBy.picked (dsha (v ++ body)) (some 0) (some 4)) = bl v ++ r ∧ (∀ d ∈ r, d < 256) ∧ r.length = body.size + 4 := by
  refine ⟨bl body ++ bl (KBy.picked (dsha (v ++ body)) (some 0) (some 4)), by rw [bl_append, bl_append, List.append_assoc], ?_, ?_⟩
  · intro d hd
    rcases List.mem_append.mp hd with hd | hd
    · exact bl_lt _ d hd
    · exact bl_lt _ d hd
  · rw [List.length_append, bl_length, bl_length, picked4]
theorem key_front {v body : Array UInt8} {name : List Nat} (h : keyOk (bl v) name = true) (hb : body.size = 74) : ∃ rest, E58 (v ++ body) = name ++ rest := by
  obtain ⟨r, e, hr, hl⟩ := E58_bl v body
  unfold E58
  rw [e]
  exact keyOk_is h hr (by omega)
theorem one_front {v body : Array UInt8} {c n i lo hi : Nat} (hv : bl v = [c]) (h : front1 c (n + 4) i lo hi = true) (hb : body.size = n) : ∃ q rest, lo ≤ q ∧ q ≤ hi ∧ E58 (v ++ body) = b58s.getD q 0 :: rest := by
  obtain ⟨r, e, hr, hl⟩ := E58_bl v body
  unfold E58
  rw [e, hv, List.singleton_append]
  exact front1_is h hr (by omega)
theorem one_len {v body : Array UInt8} {c m : Nat} (hv : bl v = [c]) (hc : c ≠ 0) (h : (c + 1) * 256 ^ 24 ≤ 58 ^ m) (hb : body.size = 20) : (E58 (v ++ body)).length ≤ m := by
  obtain ⟨r, e, hr, hl⟩ := E58_bl v body
  unfold E58
  rw [e, hv, List.singleton_append]
  exact lenc hc hr (by omega) h
theorem nought_front {v body : Array UInt8} (hv : bl v = [0]) (hb : body.size = 20) : (E58 (v ++ body)).length ≤ 34 ∧ ∃ rest, E58 (v ++ body) = 49 :: rest := by
  obtain ⟨r, e, hr, hl⟩ := E58_bl v body
  unfold E58
  rw [e, hv, List.singleton_append]
  exact len0 hr (by omega)

/-- what the law asks of a network: main or not -/
structure NetFacts (low : Nat) (wif pkh sh : Array UInt8) : Prop where
  plain : ∀ body : Array UInt8, body.size = 32 → ∃ rest, E58 (wif ++ body) = (if low = 0 then 53 else 57) :: rest
  packed : ∀ body : Array UInt8, body.size = 33 → ∃ c rest, (if low = 0 then c = 75 ∨ c = 76 else c = 99) ∧ E58 (wif ++ body) = c :: rest
  one : ∀ body : Array UInt8, body.size = 20 → (E58 (pkh ++ body)).length ≤ 34 ∧ ∃ c rest, (if low = 0 then c = 49 else c = 109 ∨ c = 110) ∧ E58 (pkh ++ body) = c :: rest
  other : ∀ body : Array UInt8, body.size = 20 → (E58 (sh ++ body)).length ≤ 35 ∧ ∃ rest, E58 (sh ++ body) = (if low = 0 then 51 else 50) :: rest
theorem facts_main : NetFacts 0 #[128] #[0] #[5] where
  plain body hb := by
    obtain ⟨q, rest, h1, h2, e⟩ := one_front (v := #[128]) (c := 128) (i := 50) (lo := 4) (hi := 4) rfl (by decide +kernel) hb
    have : q = 4 := by omega
    subst this
    exact ⟨rest, e⟩
  packed body hb := by
    obtain ⟨q, rest, h1, h2, e⟩ := one_front (v := #[128]) (c := 128) (i := 51) (lo := 18) (hi := 19) rfl (by decide +kernel) hb
    rcases (by omega : q = 18 ∨ q = 19) with rfl | rfl
    · exact ⟨75, rest, Or.inl rfl, e⟩
    · exact ⟨76, rest, Or.inr rfl, e⟩
  one body hb := by
    obtain ⟨h, rest, e⟩ := nought_front (v := #[0]) rfl hb
    exact ⟨h, 49, rest, rfl, e⟩
  other body hb := by
    obtain ⟨q, rest, h1, h2, e⟩ := one_front (v := #[5]) (c := 5) (i := 33) (lo := 2) (hi := 2) rfl (by decide +kernel) hb
    have : q = 2 := by omega
    subst this
    exact ⟨Nat.le_succ_of_le (one_len (m := 34) rfl (by decide) (by decide +kernel) hb), rest, e⟩
theorem facts_test : NetFacts 1 #[239] #[111] #[196] where
  plain body hb := by
    obtain ⟨q, rest, h1, h2, e⟩ := one_front (v := #[239]) (c := 239) (i := 50) (lo := 8) (hi := 8) rfl (by decide +kernel) hb
    have : q = 8 := by omega
    subst this
    exact ⟨rest, e⟩
  packed body hb := by
    obtain ⟨q, rest, h1, h2, e⟩ := one_front (v := #[239]) (c := 239) (i := 51) (lo := 35) (hi := 35) rfl (by decide +kernel) hb
    have : q = 35 := by omega
    subst this
    exact ⟨99, rest, rfl, e⟩
  one body hb := by
    obtain ⟨q, rest, h1, h2, e⟩ := one_front (v := #[111]) (c := 111) (i := 33) (lo := 44) (hi := 45) rfl (by decide +kernel) hb
    refine ⟨one_len (m := 34) rfl (by decide) (by decide +kernel) hb, ?_⟩
    rcases (by omega : q = 44 ∨ q = 45) with rfl | rfl
    · exact ⟨109, rest, Or.inl rfl, e⟩
    · exact ⟨110, rest, Or.inr rfl, e⟩
  other body hb := by
    obtain ⟨q, rest, h1, h2, e⟩ := one_front (v := #[196]) (c := 196) (i := 34) (lo := 1) (hi := 1) rfl (by decide +kernel) hb
    have : q = 1 := by omega
    subst this
    exact ⟨one_len (m := 35) rfl (by decide) (by decide +kernel) hb, rest, e⟩
end Mine
namespace Mine
/-- the written dict at a holds v at x -/
def ItemAt (P : Params) (K : Frag) (a : Addr) (x : Str) (v : Value) : Prop := ∃ es n, K.lookup a = some ⟨.type "dict", none, .dict es n, #[]⟩ ∧ KeysLit P es.toList ∧ nsIn K a x = some (some v)
section
variable {prog : Program} {w : World} {A : Around} {E : Value → Shared → Prop} {s : Shared} {h₀ : Heap} {L a : Addr} {m : Str → Option Value} {K : Frag} {x : Str} {t : Tok} {v : Value} {Q : Value → Shared → Prop}
theorem netItem {value slice : Expr} (F : Fr h₀ L s.heap m) (X₀ : K.In h₀) (e : ItemAt w.params K a x v) (h : ∀ k, Q v { s with toks := k })
    (hs : subscripted slice false (.ref a) (.str x t) = operate [.ref a, .str x t] (getItem (.ref a) (.str x t)) := by with_unfolding_all rfl) :
    wpAny (model prog w) A (subscriptTail value slice (.ref a) (.str x t)) Q E s := by
  obtain ⟨es, n, hl, hk, e⟩ := e
  exact topItem_K F X₀ hl hk e (h _) hs
end
/-- the signs of the ten rows of keys, and of what begins their texts on test networks -/
def rowsL : List (List Nat) := [[120, 112, 114, 118], [120, 112, 117, 98], [121, 112, 114, 118], [122, 112, 114, 118], [89, 112, 114, 118], [90, 112, 114, 118], [121, 112, 117, 98], [122, 112, 117, 98], [89, 112, 117, 98], [90, 112, 117, 98]]
def frontsL : List (List Nat) := [[116, 112, 114, 118], [116, 112, 117, 98], [117, 112, 114, 118], [118, 112, 114, 118], [85, 112, 114, 118], [86, 112, 114, 118], [117, 112, 117, 98], [118, 112, 117, 98], [85, 112, 117, 98], [86, 112, 117, 98]]
/-- a network's dict, as far as the texts ask it -/
structure NetIs (P : Params) (K : Frag) (net : Addr) (low : Nat) (hs : List Nat) : Prop where
  few : ∃ wif pkh sh t1 t2 t3 t4, wif.size = 1 ∧ pkh.size = 1 ∧ sh.size = 1 ∧ ItemAt P K net (PySem.Str.ofString "wif") (.bytes wif t1) ∧ ItemAt P K net (PySem.Str.ofString "p2pkh") (.bytes pkh t2) ∧ ItemAt P K net (PySem.Str.ofString "p2sh") (.bytes sh t3) ∧ ItemAt P K net (PySem.Str.ofString "bech32") (.str (txt hs) t4) ∧ NetFacts low wif pkh sh
  key : ∀ j, j < 10 → ∃ v t, v.size = 4 ∧ ItemAt P K net (txt (rowsL.getD j [])) (.bytes v t) ∧ keyOk (bl v) (if low = 0 then rowsL.getD j [] else frontsL.getD j []) = true
  hs : (∀ k ∈ hs, 33 ≤ k ∧ k < 127 ∧ ¬ (65 ≤ k ∧ k ≤ 90) ∧ k ≠ 49) ∧ 1 ≤ hs.length ∧ hs.length ≤ 10
end Mine
namespace Mine
theorem row_strs : ∀ {t1 t2 t3 t4 t5 t6 t7 t8 t9 t10 : Tok}, StrsAre [.str (PySem.Str.ofString "xprv") t1, .str (PySem.Str.ofString "xpub") t2, .str (PySem.Str.ofString "yprv") t3, .str (PySem.Str.ofString "zprv") t4, .str (PySem.Str.ofString "Yprv") t5, .str (PySem.Str.ofString "Zprv") t6, .str (PySem.Str.ofString "ypub") t7, .str (PySem.Str.ofString "zpub") t8, .str (PySem.Str.ofString "Ypub") t9, .str (PySem.Str.ofString "Zpub") t10] (rowsL.map txt) := by
  intro t1 t2 t3 t4 t5 t6 t7 t8 t9 t10
  rw [show PySem.Str.ofString "xprv" = txt [120, 112, 114, 118] by decide +kernel, show PySem.Str.ofString "xpub" = txt [120, 112, 117, 98] by decide +kernel, show PySem.Str.ofString "yprv" = txt [121, 112, 114, 118] by decide +kernel, show PySem.Str.ofString "zprv" = txt [122, 112, 114, 118] by decide +kernel, show PySem.Str.ofString "Yprv" = txt [89, 112, 114, 118] by decide +kernel, show PySem.Str.ofString "Zprv" = txt [90, 112, 114, 118] by decide +kernel, show PySem.Str.ofString "ypub" = txt [121, 112, 117, 98] by decide +kernel, show PySem.Str.ofString "zpub" = txt [122, 112, 117, 98] by decide +kernel, show PySem.Str.ofString "Ypub" = txt [89, 112, 117, 98] by decide +kernel, show PySem.Str.ofString "Zpub" = txt [90, 112, 117, 98] by decide +kernel]
  exact .cons _ _ (.cons _ _ (.cons _ _ (.cons _ _ (.cons _ _ (.cons _ _ (.cons _ _ (.cons _ _ (.cons _ _ (.cons _ _ .nil)))))))))
section
variable {prog : Program} {w : World} {A : Around} {E : Value → Shared → Prop} {s : Shared} {h₀ : Heap} {L l : Addr} {news : List (Addr × Obj)} {t : Tok} {Q : Value → Shared → Prop}
theorem item_rows {value slice : Expr} {vs : List Value} {n : Nat} {i : Int} (N : News h₀ L s.heap news) (hl : (l, W.listOf vs.toArray n) ∈ news) (hv : StrsAre vs (rowsL.map txt)) (h0 : 0 ≤ i) (h1 : i < 10)
    (h : ∀ t, Q (.str (txt (rowsL.getD i.toNat [])) t) s)
    (hs : subscripted slice false (.ref l) (.int i t) = operate [.ref l, .int i t] (getItem (.ref l) (.int i t)) := by with_unfolding_all rfl) :
    wpAny (model prog w) A (subscriptTail value slice (.ref l) (.int i t)) Q E s := by
  have hi : i.toNat < rowsL.length := by show i.toNat < 10; omega
  obtain ⟨t', e⟩ := StrsAre.get hv i.toNat (txt (rowsL.getD i.toNat [])) (by
    rw [List.getElem?_map, List.getElem?_eq_getElem hi, List.getD_eq_getElem?_getD, List.getElem?_eq_getElem hi]; rfl)
  exact tail_any (News.isList N hl).typeIs slot_list_getitem.lookup (wpAny_getItem_list (News.isList N hl) h0 (by omega) (by simpa using e) (h t')) hs
/-- an item of a dict of the ledger, its keys texts -/
theorem item_dict {value slice : Expr} {es : List DictEntry} {n : Nat} {x : Str} {v : Value} (N : News h₀ L s.heap news) (hl : (l, dictOf es n) ∈ news) (hk : KeysLit w.params es) (e : findBy Value.isStrOf es.toArray x = some v)
    (h : ∀ k, Q v { s with toks := k })
    (hs : subscripted slice false (.ref l) (.str x t) = operate [.ref l, .str x t] (getItem (.ref l) (.str x t)) := by with_unfolding_all rfl) :
    wpAny (model prog w) A (subscriptTail value slice (.ref l) (.str x t)) Q E s := by
  have hm : s.heap.MapOf (strKind prog w) l (fun k => findBy Value.isStrOf es.toArray k) :=
    ⟨_, es.toArray, n, (N _ hl).1, ⟨rfl, rfl, rfl⟩, rfl, fun e he => by
      obtain ⟨x, t, e1, e2⟩ := hk.all e (by simpa using he)
      exact ⟨x, by rw [e1]; exact strKind_is prog w x t, e2⟩, fun _ => rfl⟩
  exact tail_any hm.typeIs slot_dict_getitem.lookup (wpAny_getItem_of (strKind_is prog w x t) hm e (h _)) hs
end
end Mine
namespace Mine
section
variable {prog : Program} {w : World} {A : Around} {E : Value → Shared → Prop} {s : Shared} {D : Array UInt8} {t u : Tok} {Q : Value → Shared → Prop} {value slice : Expr} {c : Int} {n : Nat}
/-- the size of octets, told -/
theorem blenE (hn : D.size = n) (hz : n ≤ 1000) (h : ∀ t' k, Q (.int (n : Int) t') { s with toks := k }) : wpAny (model prog w) A (call (.builtin "len") [.bytes D t]) Q E s :=
  blen (by omega) fun t' k => by rw [hn]; exact h t' k
/-- the first octet, and the last -/
theorem bitem0 (hn : D.size = n) (h1 : 0 < n) (hz : n ≤ 1000) (e : (KBw.bInts D).getD 0 0 = c) (h : ∀ t' k, Q (.int c t') { s with toks := k })
    (hs : subscripted slice false (.bytes D t) (.int 0 u) = operate [.bytes D t, .int 0 u] (getItem (.bytes D t) (.int 0 u)) := by with_unfolding_all rfl)
    (ht : ∀ r, letTemporaryGo value (.bytes D t) r = pure () := by intro _; with_unfolding_all rfl) : wpAny (model prog w) A (subscriptTail value slice (.bytes D t) (.int 0 u)) Q E s :=
  KBw.item_K rfl (by rw [KBw.ints_length]; omega) (by decide) (by rw [KBw.ints_length]; omega) (fun t' k _ _ => by
    show Q (.int ((KBw.bInts D).getD 0 0) t') _
    rw [e]; exact h t' k) hs ht
theorem bitemL (hn : D.size = n) (h1 : 0 < n) (hz : n ≤ 1000) (e : (KBw.bInts D).getD (n - 1) 0 = c) (h : ∀ t' k, Q (.int c t') { s with toks := k })
    (hs : subscripted slice false (.bytes D t) (.int (-1) u) = operate [.bytes D t, .int (-1) u] (getItem (.bytes D t) (.int (-1) u)) := by with_unfolding_all rfl)
    (ht : ∀ r, letTemporaryGo value (.bytes D t) r = pure () := by intro _; with_unfolding_all rfl) : wpAny (model prog w) A (subscriptTail value slice (.bytes D t) (.int (-1) u)) Q E s :=
  KBc.itemR_K rfl (by rw [KBw.ints_length]; omega) (by rw [KBw.ints_length]; omega) (by decide) (fun t' k _ _ => by
    have e2 : ((-1 : Int) + (KBw.bInts D).length).toNat = n - 1 := by rw [KBw.ints_length]; omega
    rw [e2, e]; exact h t' k) hs ht
end
theorem bInts_first {a : UInt8} {r : List UInt8} {D body : Array UInt8} (h : D = (a :: r).toArray ++ body) : (KBw.bInts D).getD 0 0 = (a.toNat : Int) := by
  subst h
  unfold KBw.bInts
  simp
theorem bInts_last {a : UInt8} {D x : Array UInt8} {n : Nat} (h : D = x ++ #[a]) (hn : x.size = n) : (KBw.bInts D).getD n 0 = (a.toNat : Int) := by
  subst h; subst hn
  unfold KBw.bInts
  simp
end Mine
namespace Mine
section
variable {prog : Program} {w : World} {A : Around} {E : Value → Shared → Prop} {s : Shared} {t u : Tok} {Q : Value → Shared → Prop} {value slice : Expr} {c : Nat} {r : List Nat} {x y : Str}
/-- the first sign of a text -/
theorem item_first (hl : (c :: r).length ≤ 1000) (h : ∀ t' k, Q (.str (txt [c]) t') { s with toks := k })
    (hs : subscripted slice false (.str (txt (c :: r)) t) (.int 0 u) = operate [.str (txt (c :: r)) t, .int 0 u] (getItem (.str (txt (c :: r)) t) (.int 0 u)) := by with_unfolding_all rfl)
    (ht : ∀ v, letTemporaryGo value (.str (txt (c :: r)) t) v = pure () := by intro _; with_unfolding_all rfl) :
    wpAny (model prog w) A (subscriptTail value slice (.str (txt (c :: r)) t) (.int 0 u)) Q E s :=
  item_txt (by decide) (by rw [List.length_cons]; omega) (by omega) h hs ht
theorem eq_txtE (e : x = y) (h : Q (.bool true) s) : wpAny (model prog w) A (compareOp .Eq (.str x t) (.str y u)) Q E s :=
  eq_str (by rw [show (x == y) = true from beq_iff_eq.mpr e]; exact h)
theorem ne_txtE (e : x = y) (h : Q (.bool false) s) : wpAny (model prog w) A (compareOp .NotEq (.str x t) (.str y u)) Q E s := by
  subst e; exact ne_same h
theorem in_txtE (e : Txt.contains y x = true) (h : Q (.bool true) s) : wpAny (model prog w) A (compareOp .In (.str x t) (.str y u)) Q E s :=
  SB.contains (by rw [e]; exact h)
end
theorem len_some {l : List Nat} {m : Nat} (h : l.length ≤ m) : ∃ n, l.length = n ∧ n ≤ m := ⟨_, rfl, h⟩
end Mine
namespace Mine
theorem E58_len {b : Array UInt8} (h : b.size ≤ 100) : (E58 b).length ≤ 300 := by
  unfold E58 b58l
  have h1 := zeros_le (bl (b ++ KBy.picked (dsha b) (some 0) (some 4)))
  rw [bl_length, Array.size_append, picked4] at h1
  have h2 := leF_le 150 (num (bl (b ++ KBy.picked (dsha b) (some 0) (some 4))))
  rw [List.length_append, List.length_replicate, List.length_map, List.length_reverse]
  omega
theorem plain_at {low : Nat} {wif pkh sh body : Array UInt8} (hf : NetFacts low wif pkh sh) (hz : wif.size = 1) (hb : body.size = 32) : ∃ c rest, (if low = 0 then c = 53 else c = 57) ∧ E58 (wif ++ body) = c :: rest ∧ (c :: rest).length ≤ 300 := by
  obtain ⟨r, e⟩ := hf.plain body hb
  have := E58_len (b := wif ++ body) (by rw [Array.size_append]; omega)
  rw [e] at this
  refine ⟨_, r, ?_, e, this⟩
  by_cases h : low = 0
  · rw [if_pos h, if_pos h]
  · rw [if_neg h, if_neg h]
theorem packed_at {low : Nat} {wif pkh sh body : Array UInt8} (hf : NetFacts low wif pkh sh) (hz : wif.size = 1) (hb : body.size = 32) : ∃ c rest, (if low = 0 then c = 75 ∨ c = 76 else c = 99) ∧ E58 (wif ++ body ++ #[1]) = c :: rest ∧ (c :: rest).length ≤ 300 := by
  have e2 : wif ++ body ++ #[1] = wif ++ (body ++ #[1]) := Array.append_assoc
  obtain ⟨c, r, h1, e⟩ := hf.packed (body ++ #[1]) (by rw [Array.size_append, hb]; rfl)
  have := E58_len (b := wif ++ (body ++ #[1])) (by rw [Array.size_append, Array.size_append, hb, hz]; decide)
  rw [e] at this
  exact ⟨c, r, h1, by rw [e2, e], this⟩
end Mine
namespace Mine
theorem turns_of (number : Int) : ∃ n : Nat, (5 : Int) + number.fmod 4 = (n : Int) ∧ n ≤ 8 := by
  have h1 := int_fmod_lo number (d := 4) (by decide)
  have h2 := int_fmod_hi number (d := 4) (by decide)
  exact ⟨((5 : Int) + number.fmod 4).toNat, by omega, by omega⟩
/-- the names' place -/
theorem place10 (k : Int) : 0 ≤ k.fmod 10 ∧ k.fmod 10 < 10 := ⟨int_fmod_lo k (by decide), int_fmod_hi k (by decide)⟩
theorem rowsL_len {i : Nat} (h : i < 10) : (rowsL.getD i []).length = 4 := by
  have : ∀ i : Fin 10, (rowsL.getD i []).length = 4 := by decide
  exact this ⟨i, h⟩
theorem frontsL_len {i : Nat} (h : i < 10) : (frontsL.getD i []).length = 4 := by
  have : ∀ i : Fin 10, (frontsL.getD i []).length = 4 := by decide
  exact this ⟨i, h⟩
theorem names_eq {j : Nat} (h : j < 10) : ([PySem.Str.ofString "xprv", PySem.Str.ofString "xpub", PySem.Str.ofString "yprv", PySem.Str.ofString "zprv", PySem.Str.ofString "Yprv", PySem.Str.ofString "Zprv", PySem.Str.ofString "ypub", PySem.Str.ofString "zpub", PySem.Str.ofString "Ypub", PySem.Str.ofString "Zpub"].getD j Str.empty) = txt (rowsL.getD j []) := by
  have : ∀ j : Fin 10, ([PySem.Str.ofString "xprv", PySem.Str.ofString "xpub", PySem.Str.ofString "yprv", PySem.Str.ofString "zprv", PySem.Str.ofString "Yprv", PySem.Str.ofString "Zprv", PySem.Str.ofString "ypub", PySem.Str.ofString "zpub", PySem.Str.ofString "Ypub", PySem.Str.ofString "Zpub"].getD (j : Nat) Str.empty) = txt (rowsL.getD j []) := by decide +kernel
  exact this ⟨j, h⟩
/-- a key's text, by the name's place -/
theorem key_at {P : Params} {K : Frag} {net : Addr} {low : Nat} {hs : List Nat} (hn : NetIs P K net low hs) (k : Int) : ∃ v t name, v.size = 4 ∧ ItemAt P K net ([PySem.Str.ofString "xprv", PySem.Str.ofString "xpub", PySem.Str.ofString "yprv", PySem.Str.ofString "zprv", PySem.Str.ofString "Yprv", PySem.Str.ofString "Zprv", PySem.Str.ofString "ypub", PySem.Str.ofString "zpub", PySem.Str.ofString "Ypub", PySem.Str.ofString "Zpub"].getD (k.fmod 10).toNat Str.empty) (.bytes v t) ∧ (if low = 0 then txt name = ([PySem.Str.ofString "xprv", PySem.Str.ofString "xpub", PySem.Str.ofString "yprv", PySem.Str.ofString "zprv", PySem.Str.ofString "Yprv", PySem.Str.ofString "Zprv", PySem.Str.ofString "ypub", PySem.Str.ofString "zpub", PySem.Str.ofString "Ypub", PySem.Str.ofString "Zpub"].getD (k.fmod 10).toNat Str.empty) else name = frontsL.getD (k.fmod 10).toNat []) ∧ name.length = 4 ∧
    ∀ body : Array UInt8, body.size = 74 → ∃ rest, E58 (v ++ body) = name ++ rest ∧ (name ++ rest).length ≤ 300 := by
  have hk := place10 k
  have hj : (k.fmod 10).toNat < 10 := by omega
  obtain ⟨v, t, hz, hi, ho⟩ := hn.key _ hj
  rw [names_eq hj]
  refine ⟨v, t, if low = 0 then rowsL.getD (k.fmod 10).toNat [] else frontsL.getD (k.fmod 10).toNat [], hz, hi, ?_, ?_, fun body hb => ?_⟩
  · by_cases h : low = 0
    · rw [if_pos h, if_pos h]
    · rw [if_neg h, if_neg h]
  · by_cases h : low = 0
    · rw [if_pos h]; exact rowsL_len hj
    · rw [if_neg h]; exact frontsL_len hj
  · obtain ⟨rest, e⟩ := key_front ho hb
    have := E58_len (b := v ++ body) (by rw [Array.size_append]; omega)
    rw [e] at this
    exact ⟨rest, e, this⟩
theorem take_name {name rest : List Nat} (h : name.length = 4) : (name ++ rest).take 4 = name := by rw [← h, List.take_left]
/-- the dict of fronts, its places -/
theorem front_at {u1 u2 u3 u4 u5 u6 u7 u8 u9 u10 : Tok} {i : Nat} (h : i < 10) : ∃ t, valueAt [(PySem.Str.ofString "xprv", Value.str (PySem.Str.ofString "tprv") u1), (PySem.Str.ofString "xpub", Value.str (PySem.Str.ofString "tpub") u2), (PySem.Str.ofString "yprv", Value.str (PySem.Str.ofString "uprv") u3), (PySem.Str.ofString "zprv", Value.str (PySem.Str.ofString "vprv") u4), (PySem.Str.ofString "Yprv", Value.str (PySem.Str.ofString "Uprv") u5), (PySem.Str.ofString "Zprv", Value.str (PySem.Str.ofString "Vprv") u6), (PySem.Str.ofString "ypub", Value.str (PySem.Str.ofString "upub") u7), (PySem.Str.ofString "zpub", Value.str (PySem.Str.ofString "vpub") u8), (PySem.Str.ofString "Ypub", Value.str (PySem.Str.ofString "Upub") u9), (PySem.Str.ofString "Zpub", Value.str (PySem.Str.ofString "Vpub") u10)] ([PySem.Str.ofString "xprv", PySem.Str.ofString "xpub", PySem.Str.ofString "yprv", PySem.Str.ofString "zprv", PySem.Str.ofString "Yprv", PySem.Str.ofString "Zprv", PySem.Str.ofString "ypub", PySem.Str.ofString "zpub", PySem.Str.ofString "Ypub", PySem.Str.ofString "Zpub"].getD i Str.empty) = some (.str (txt (frontsL.getD i [])) t) := by
  match i, h with
  | 0, _ => exact ⟨u1, by with_unfolding_all rfl⟩
  | 1, _ => exact ⟨u2, by with_unfolding_all rfl⟩
  | 2, _ => exact ⟨u3, by with_unfolding_all rfl⟩
  | 3, _ => exact ⟨u4, by with_unfolding_all rfl⟩
  | 4, _ => exact ⟨u5, by with_unfolding_all rfl⟩
  | 5, _ => exact ⟨u6, by with_unfolding_all rfl⟩
  | 6, _ => exact ⟨u7, by with_unfolding_all rfl⟩
  | 7, _ => exact ⟨u8, by with_unfolding_all rfl⟩
  | 8, _ => exact ⟨u9, by with_unfolding_all rfl⟩
  | 9, _ => exact ⟨u10, by with_unfolding_all rfl⟩
section
variable {prog : Program} {w : World} {A : Around} {E : Value → Shared → Prop} {s : Shared} {h₀ : Heap} {L l : Addr} {news : List (Addr × Obj)} {t : Tok} {Q : Value → Shared → Prop}
theorem item_front {value slice : Expr} {o : Obj} {u1 u2 u3 u4 u5 u6 u7 u8 u9 u10 : Tok} {i : Nat} (hi : i < 10) (hd : o.IsDictOf (PySem.strKind prog w) [(PySem.Str.ofString "xprv", Value.str (PySem.Str.ofString "tprv") u1), (PySem.Str.ofString "xpub", Value.str (PySem.Str.ofString "tpub") u2), (PySem.Str.ofString "yprv", Value.str (PySem.Str.ofString "uprv") u3), (PySem.Str.ofString "zprv", Value.str (PySem.Str.ofString "vprv") u4), (PySem.Str.ofString "Yprv", Value.str (PySem.Str.ofString "Uprv") u5), (PySem.Str.ofString "Zprv", Value.str (PySem.Str.ofString "Vprv") u6), (PySem.Str.ofString "ypub", Value.str (PySem.Str.ofString "upub") u7), (PySem.Str.ofString "zpub", Value.str (PySem.Str.ofString "vpub") u8), (PySem.Str.ofString "Ypub", Value.str (PySem.Str.ofString "Upub") u9), (PySem.Str.ofString "Zpub", Value.str (PySem.Str.ofString "Vpub") u10)]) (N : News h₀ L s.heap news)
    (hl : (l, o) ∈ news) (h : ∀ t k, Q (.str (txt (frontsL.getD i [])) t) { s with toks := k })
    (hs : subscripted slice false (.ref l) (.str ([PySem.Str.ofString "xprv", PySem.Str.ofString "xpub", PySem.Str.ofString "yprv", PySem.Str.ofString "zprv", PySem.Str.ofString "Yprv", PySem.Str.ofString "Zprv", PySem.Str.ofString "ypub", PySem.Str.ofString "zpub", PySem.Str.ofString "Ypub", PySem.Str.ofString "Zpub"].getD i Str.empty) t) = operate [.ref l, .str ([PySem.Str.ofString "xprv", PySem.Str.ofString "xpub", PySem.Str.ofString "yprv", PySem.Str.ofString "zprv", PySem.Str.ofString "Yprv", PySem.Str.ofString "Zprv", PySem.Str.ofString "ypub", PySem.Str.ofString "zpub", PySem.Str.ofString "Ypub", PySem.Str.ofString "Zpub"].getD i Str.empty) t] (getItem (.ref l) (.str ([PySem.Str.ofString "xprv", PySem.Str.ofString "xpub", PySem.Str.ofString "yprv", PySem.Str.ofString "zprv", PySem.Str.ofString "Yprv", PySem.Str.ofString "Zprv", PySem.Str.ofString "ypub", PySem.Str.ofString "zpub", PySem.Str.ofString "Ypub", PySem.Str.ofString "Zpub"].getD i Str.empty) t)) := by with_unfolding_all rfl) :
    wpAny (model prog w) A (subscriptTail value slice (.ref l) (.str ([PySem.Str.ofString "xprv", PySem.Str.ofString "xpub", PySem.Str.ofString "yprv", PySem.Str.ofString "zprv", PySem.Str.ofString "Yprv", PySem.Str.ofString "Zprv", PySem.Str.ofString "ypub", PySem.Str.ofString "zpub", PySem.Str.ofString "Ypub", PySem.Str.ofString "Zpub"].getD i Str.empty) t)) Q E s := by
  obtain ⟨t', e⟩ := front_at (u1 := u1) (u2 := u2) (u3 := u3) (u4 := u4) (u5 := u5) (u6 := u6) (u7 := u7) (u8 := u8) (u9 := u9) (u10 := u10) hi
  have hD := kda_dict N hl hd
  exact tail_any hD.typeIs slot_dict_getitem.lookup (wpAny_getItem_of (strKind_is prog w _ _) hD.mapOf e (h t' _)) hs
end
end Mine
namespace Mine
theorem wit_take {hs b : List Nat} {ver c n : Nat} {mk : Bool} (hc : bsgn ver = c) (hn : n = hs.length + 2) : (wit hs ver b mk).take n = hs ++ [49] ++ [c] := by
  subst hc; subst hn
  unfold wit
  rw [List.cons_append, List.map_cons]
  have e : hs ++ [49] ++ bsgn ver :: List.map bsgn (to5 b ++ chk6 hs (ver :: to5 b) mk) = (hs ++ [49] ++ [bsgn ver]) ++ List.map bsgn (to5 b ++ chk6 hs (ver :: to5 b) mk) := by simp
  rw [e]
  have : hs.length + 2 = (hs ++ [49] ++ [bsgn ver]).length := by simp
  rw [this, List.take_left]
theorem wit_len {hs b : List Nat} {ver : Nat} {mk : Bool} : (wit hs ver b mk).length = hs.length + 8 + (8 * b.length + 4) / 5 := by
  unfold wit chk6
  simp only [List.length_append, List.length_map, dig6_length, List.length_cons, to5_length, List.length_nil]
  omega
theorem setP_drop2 {h₀ h : Heap} {L P : Addr} {o : Obj} {a b : Addr × Obj} {news : List (Addr × Obj)} (N : News h₀ L h (setP P o (a :: b :: news))) : News h₀ L h (setP P o news) := fun p hp => N p (List.Mem.tail _ (List.Mem.tail _ hp))
theorem setP_drop2' {h₀ h : Heap} {L P : Addr} {o o' : Obj} {a b : Addr × Obj} {news : List (Addr × Obj)} (N : News h₀ L h (setP P o (a :: b :: setP P o' news))) : News h₀ L h (setP P o news) := by
  rw [← setP_setP P o o' news]; exact setP_drop2 N
theorem first20 {b : Array UInt8} (h : b.size = 32) : ∃ c, KBy.picked b none (some 20) = c ∧ c.size = 20 := ⟨_, rfl, picked_first (n := 20) (by omega)⟩
theorem eq_intE {prog : Program} {w : World} {A : Around} {E : Value → Shared → Prop} {s : Shared} {t u : Tok} {Q : Value → Shared → Prop} {i j : Int} (e : i = j) (h : Q (.bool true) s) : wpAny (model prog w) A (compareOp .Eq (.int i t) (.int j u)) Q E s :=
  PyProof.Rows.eq_int (by rw [show (i == j) = true from beq_iff_eq.mpr e]; exact h)
theorem q_str : PySem.Str.ofString "q" = txt [113] := by decide +kernel
theorem p_str : PySem.Str.ofString "p" = txt [112] := by decide +kernel
end Mine
namespace Mine
/-- the text of a key -/
def keyOf : Value → Str
  | .str x _ => x
  | _ => Str.empty
theorem pairs_lit {prog : Program} {w : World} : ∀ {l : List DictEntry}, KeysLit w.params l → Pairs (PySem.strKind prog w) l (l.map fun e => (keyOf e.key, e.val))
  | [], _ => .nil
  | e :: r, ⟨⟨x, t, e1, _⟩, hr⟩ => by
    refine .cons ?_ rfl (pairs_lit hr)
    show (PySem.strKind prog w).is (keyOf e.key) e.key = true
    rw [e1]
    exact strKind_is prog w x t
section
variable {prog : Program} {w : World} {A : Around} {E : Value → Shared → Prop} {Q : Flow → Shared → Prop} {s : Shared} {env : Env} {h₀ h : Heap} {news : List (Addr × Obj)} {m₀ : Str → Option Value} {x : Str} {body : List Stmt} {K : Frag} {a : Addr} {es : Array DictEntry} {n : Nat}
theorem dictAt_K (X : K.In h) (hl : K.lookup a = some ⟨.type "dict", none, .dict es n, #[]⟩) (hk : KeysLit w.params es.toList) (hnd : (es.toList.map fun e => keyOf e.key).Nodup) : h.DictAt (PySem.strKind prog w) a (es.toList.map fun e => (keyOf e.key, e.val)) n :=
  ⟨_, es, X _ _ hl, ⟨rfl, rfl, rfl⟩, rfl, fun e he => by
    obtain ⟨x, t, e1, e2⟩ := hk.all e (Array.mem_toList_iff.mpr he)
    exact ⟨x, by rw [e1]; exact strKind_is prog w x t, e2⟩, pairs_lit hk, by rw [List.map_map]; exact hnd⟩
/-- a for over the keys of a written dict that stores nothing but its name -/
theorem forKeys0 (F : Fr h₀ env.locals s.heap m₀) (N : News h₀ env.locals s.heap news) (X₀ : K.In h₀) (hl : K.lookup a = some ⟨.type "dict", none, .dict es n, #[]⟩) (hk : KeysLit w.params es.toList) (hnd : (es.toList.map fun e => keyOf e.key).Nodup) (lo : (a == sysModules) = false) (hh : A.handled = none)
    (turn : ∀ (e : DictEntry) t h tk own, e ∈ es.toList → OwnOff own (news.map (·.1)) → Fr h₀ env.locals h (fun y => if y = x then some (.str (keyOf e.key) t) else m₀ y) → News h₀ env.locals h (news ++ own) →
      wpAny (model prog w) A (execs body env) (InvPostN h₀ env.locals (KstS (fun _ : Unit => news) (fun _ => []) (fun _ => True) x [] m₀ (fun _ _ => True) []) own (news.map (·.1)) { s with heap := h, toks := tk } Q) E { s with heap := h, toks := tk })
    (done : ∀ (u : Str → Option Value) h tk, Fr h₀ env.locals h (fun y => if y = x then u y else m₀ y) → News h₀ env.locals h news → Q .next { s with heap := h, toks := tk }) :
    wpAny (model prog w) A (pyIter (.ref a)) (fun it s₂ => LoopAtV prog w A h₀ env x body Q E it s₂) E s := by
  have hat := dictAt_K (prog := prog) (X₀.keeps F.keep) hl hk hnd
  have ha₀ := X₀ _ _ hl
  have halt : a < h₀.objs.size := Heap.lt_size ha₀
  have hne : a ≠ s.heap.objs.size := Nat.ne_of_lt (Nat.lt_trans (Nat.lt_of_lt_of_le halt F.above) F.ns.lt)
  refine wpAny_pyIter_dict lo hat ?_
  refine loop_invN (fun _ => KstS (fun _ : Unit => news) (fun _ => []) (fun _ => True) x [] m₀ (fun _ _ => True) []) (Walks.dictKeys (knd := PySem.strKind prog w) hh s.heap.objs.size a hne _ n) ?_ ?_ ?_ ?_ ⟨⟨_, Heap.get?_push_size _ rfl, rfl, by simp⟩, hat.push _⟩ (F.push _) (fun p hp => ⟨Heap.get?_push_of_some _ (N p hp).1, (N p hp).2⟩) ⟨(), rfl, trivial, List.forall_mem_nil _, fun _ _ _ _ => rfl, trivial⟩ ?_ ?_
  · intro hm
    rcases List.mem_cons.mp hm with e | hm
    · exact absurd F.ns.lt (e ▸ Nat.lt_irrefl _)
    · exact absurd (Nat.lt_of_lt_of_le halt F.above) ((List.mem_singleton.mp hm) ▸ Nat.lt_irrefl _)
  · intro b hb
    rw [List.mem_singleton.mp hb]
    exact next_is_new F
  · intro p hp hI
    exact absurd (Heap.lt_size (N p hp).1) ((List.mem_singleton.mp hI) ▸ Nat.lt_irrefl _)
  · intro p hp hI
    rcases List.mem_cons.mp hI with e | hI
    · exact absurd (Heap.lt_size (N p hp).1) (e ▸ Nat.lt_irrefl _)
    · have := (N p hp).2.2
      rw [List.mem_singleton.mp hI, ha₀] at this
      cases this
  · rintro i v m₁ news₁ h tk own hi ⟨k, y, hx, hk⟩ hadr hoff ⟨c, rfl, _, _, hm, _⟩ F₁ N₁
    rw [List.getElem?_map] at hx
    cases he : es.toList[i]? with
    | none => rw [he] at hx; cases hx
    | some e =>
      rw [he] at hx
      obtain ⟨rfl, rfl⟩ := Prod.mk.inj (Option.some.inj hx)
      have hv : ∃ t, v = .str (keyOf e.key) t := by
        cases v <;> simp [PySem.strKind, Value.isStrOf] at hk
        exact ⟨_, by rw [hk]⟩
      obtain ⟨t, rfl⟩ := hv
      have e1 : (fun z => if z = x then some (Value.str (keyOf e.key) t) else m₁ z) = fun z => if z = x then some (Value.str (keyOf e.key) t) else m₀ z := by
        funext z
        by_cases hz : z = x
        · simp [hz]
        · simp only [if_neg hz]; exact hm z hz (List.forall_mem_nil _) rfl
      rw [e1] at F₁
      exact turn e t h tk own (List.mem_of_getElem? he) hoff F₁ N₁
  · rintro m₁ news₁ h tk ⟨c, rfl, _, _, hm, _⟩ F₁ N₁
    refine done m₁ h tk ?_ N₁
    have e1 : (fun z => if z = x then m₁ z else m₀ z) = m₁ := by
      funext z
      by_cases hz : z = x
      · simp [hz]
      · simp only [if_neg hz]; exact (hm z hz (List.forall_mem_nil _) rfl).symm
    rw [e1]; exact F₁
end
/-- the figures of octets in base 16, as bytes.hex writes them -/
def hexS (b : Array UInt8) : Str := ⟨b.toList.zipIdx.foldl (fun (out : Array Nat) (c : UInt8 × Nat) => (out.push (Builtin.Bytes.hexDigit (c.1.toNat / 16))).push (Builtin.Bytes.hexDigit (c.1.toNat % 16))) #[]⟩
section
variable {prog : Program} {w : World} {A : Around} {E : Value → Shared → Prop} {s : Shared} {b : Array UInt8} {t : Tok}
theorem hex_call {Q : Value → Shared → Prop} (hz : (hexS b).length ≤ 1000) (h : ∀ t' k, Q (.str (hexS b) t') { s with toks := k }) : wpAny (model prog w) A (call (.builtin "bytes.hex") [.bytes b t]) Q E s := by
  refine wpAny_call_entry FB.slot_bytes_hex (typeIs_bytes s _ t) FB.entry_bytes_hex ?_ (FB.args_bytes_hex_1 _)
  show wpAny _ _ (Builtin.Bytes.bindOptional _ "hex" ["sep", "bytes_per_sep"] [] [] >>= fun r => _) _ _ _
  refine wpAny_bind (wpAny_of_eq (a := [none, none]) (by kernel_rfl) ?_)
  refine wpAny_bind (wpAny_of_eq (a := (1 : Int)) rfl ?_)
  refine wpAny_bind (wpAny_of_eq (a := ()) rfl ?_)
  refine wpAny_bind (wpAny_of_eq (a := (none : Option Nat)) rfl ?_)
  refine wpAny_bind (wpAny_of_eq (a := b) rfl ?_)
  show wpAny _ _ (mkStr (hexS b) >>= fun v => ret v) _ _ _
  refine wpAny_bind (wpAny_mkStr (wpAny_pure ⟨_, rfl, h _ _⟩) ?_)
  rw [sizeLine_eq]; omega
theorem hex_method {M : Model} {pl : Sem Bool} {Q : Value × List Value → Shared → Prop} (h : Q (.builtin "bytes.hex", [.bytes b t]) s) : wpAny M A (getMethod (.bytes b t) (PySem.Str.ofString "hex") pl) Q E s :=
  KBd.method_of (.bytes b t) (typeIs_bytes _ _ _) FB.slot_bytes_hex FB.type_bytes_hex KBd.noRef h
end
theorem len_K {prog : Program} {w : World} {A : Around} {E : Value → Shared → Prop} {s : Shared} {Q : Value → Shared → Prop} {h₀ : Heap} {L a : Addr} {m : Str → Option Value} {K : Frag} {es : Array DictEntry} {n k : Nat} (F : Fr h₀ L s.heap m) (X₀ : K.In h₀) (hl : K.lookup a = some ⟨.type "dict", none, .dict es n, #[]⟩) (hk : KeysLit w.params es.toList)
    (hnd : (es.toList.map fun e => keyOf e.key).Nodup) (hn : es.toList.length = k) (hz : k ≤ 1000) (lo : (a == sysModules) = false) (h : ∀ t' j, Q (.int (k : Int) t') { s with toks := j }) : wpAny (model prog w) A (call (.builtin "len") [.ref a]) Q E s :=
  call_len_dict lo (dictAt_K (prog := prog) (X₀.keeps F.keep) hl hk hnd).dictOf (by rw [List.length_map]; omega) (by rw [List.length_map, hn]; exact h _ _)
/-- a network's table against the law's own -/
structure TabIs (P : Params) (K : Frag) (net rows : Addr) : Prop where
  ex : ∃ es n, K.lookup rows = some ⟨.type "dict", none, .dict es n, #[]⟩ ∧ KeysLit P es.toList ∧ (es.toList.map fun e => keyOf e.key).Nodup ∧ ∀ e ∈ es.toList, ∃ b tb ts, ItemAt P K net (keyOf e.key) (.bytes b tb) ∧ ItemAt P K rows (keyOf e.key) (.str (hexS b) ts) ∧ (hexS b).length ≤ 1000
  len : ∃ es n, K.lookup net = some ⟨.type "dict", none, .dict es n, #[]⟩ ∧ KeysLit P es.toList ∧ (es.toList.map fun e => keyOf e.key).Nodup ∧ es.toList.length = 15
end Mine
namespace Mine
/-- how the law ends: True, what stood before stands, but for the table at P, that has grown; generators are bare -/
structure LawEnd (s₁ : Shared) (P : Addr) (r : Result) (s' : Shared) : Prop where
  ret : r = .ok (.ret (.bool true))
  keep : ∀ b o, b ≠ P → s₁.heap.get? b = some o → s'.heap.get? b = some o
  grown : ∃ ps, s'.heap.get? P = some (tabObj ps)
  os : s'.os = s₁.os
  gens : AllBare s'.gens
theorem ghost1 {h : Heap} {c P b : Addr} {o : Obj} (e : h.get? b = some o) (hb : b ≠ P) : (ghostOf h [(c, P)]).get? b = some o :=
  ghost_ne e fun q => hb (List.mem_singleton.mp q)
theorem law_end {M : Model} {A : Around} {cd : Code} {s s₁ : Shared} {cw : ClaimW} {cl : Str → Option Addr} {mean : ExcName → Option Value} {args : List WData} {c P : Addr} (hT : TabsAt [(c, P)] s₁.heap) (hn : ∀ cls, cw.raises args cls = false) (hp : cw.post args (.bool true) args = true)
    (h : codeAny M A cd (fun r s' => LawEnd s₁ P r s') s) : codeAny M A cd (GoodWG cw cl mean args s₁) s :=
  codeAny_mono h fun r s' e => by
    have hTP := hT (c, P) (.head _)
    obtain ⟨ps, hps⟩ := e.grown
    refine ⟨.inl ⟨.bool true, .bool true, [], e.ret, hn, .bool true, hp, fun _ => ⟨.nil, fun _ h => nomatch h⟩⟩, ⟨fun b o eb => ?_, fun b o eb => ?_⟩, e.os, e.gens⟩
    · by_cases hb : b = P
      · subst hb
        have e2 : o = tabObj #[] := Option.some.inj (eb.symm.trans hTP.2)
        subst e2
        exact .inr (.inl ⟨(hTP.1.tab hTP.2).isCodeTable, rfl, #[], ps, rfl, by rw [Array.empty_append]; exact hps⟩)
      · exact .inl (e.keep b o hb eb)
    · by_cases hb : b = P
      · subst hb; exact ⟨_, hps⟩
      · exact ⟨o, e.keep b o hb eb⟩
theorem lawEnd_in {s₁ s' : Shared} {c P L : Addr} {m : Str → Option Value} {news : List (Addr × Obj)} {ps : Array Value} (F : Fr (ghostOf s₁.heap [(c, P)]) L s'.heap m) (N : News (ghostOf s₁.heap [(c, P)]) L s'.heap news) (hm : (P, tabObj ps) ∈ news) (hos : s'.os = s₁.os) (hg : AllBare s'.gens) : LawEnd s₁ P (.ok (.ret (.bool true))) s' :=
  ⟨rfl, fun b o hb e => F.keep b o (ghost1 e hb), ⟨ps, (N _ hm).1⟩, hos, hg⟩
end Mine
namespace Mine
theorem mod_is {prog : Program} {w : World} {A : Around} {E : Value → Shared → Prop} {s : Shared} {t u : Tok} {Q : Value → Shared → Prop} {a d k : Int} (hd : d ≠ 0) (e : a.fmod d = k) (h : ∀ t' j, Q (.int k t') { s with toks := j }) : wpAny (model prog w) A (binaryOp .Mod (.int a t) (.int d u)) Q E s :=
  mod_int' hd (by rw [e]; exact h _ _)
theorem four (n : Int) : n.fmod 4 = 0 ∨ n.fmod 4 = 1 ∨ n.fmod 4 = 2 ∨ n.fmod 4 = 3 := by
  have h1 := int_fmod_lo n (d := 4) (by decide)
  have h2 := int_fmod_hi n (d := 4) (by decide)
  omega
end Mine
namespace Mine
theorem crc_nonneg {k : Int} (h : k < 0 + ((6 - 0 : Int).toNat : Int)) : 0 ≤ 5 * (5 - k) := by
  have : ((6 - 0 : Int).toNat : Int) = 6 := by decide
  omega
end Mine
namespace Mine
theorem same0 : @instDecidableEqStr = @instDecidableEqStr := rfl
end Mine
name_quick tw13752992999198178147 for instDecidableEqStr by Mine.same0
name_quick tw17135648729849155523 for instDecidableEqStr by Mine.same0
name_quick tw8439988535228966438 for instDecidableEqStr by Mine.same0
name_quick tw1644446134746349960 for instDecidableEqStr by Mine.same0
name_quick tw1868467898204465577 for instDecidableEqStr by Mine.same0
name_quick tw6606824679078017482 for instDecidableEqStr by Mine.same0
name_quick tw16280008528108769835 for instDecidableEqStr by Mine.same0
name_quick tw8528965721796354827 for instDecidableEqStr by Mine.same0
name_quick tw13913903156301006060 for instDecidableEqStr by Mine.same0
name_quick tw15301575566798041261 for instDecidableEqStr by Mine.same0
name_quick tw12894244258007645839 for instDecidableEqStr by Mine.same0
name_quick tw7849593712839893679 for instDecidableEqStr by Mine.same0
name_quick tw2571142823596722417 for instDecidableEqStr by Mine.same0
name_quick tw10605223739361159665 for instDecidableEqStr by Mine.same0
name_quick tw6030276586255828243 for instDecidableEqStr by Mine.same0
name_quick tw701022963333882227 for instDecidableEqStr by Mine.same0
name_quick tw8526969284030236083 for instDecidableEqStr by Mine.same0
name_quick tw6285926442271491220 for instDecidableEqStr by Mine.same0
name_quick tw16782438727306417461 for instDecidableEqStr by Mine.same0
name_quick tw17138671325344230805 for instDecidableEqStr by Mine.same0
name_quick tw8455765186041025143 for instDecidableEqStr by Mine.same0
name_quick tw10743014179463847767 for instDecidableEqStr by Mine.same0
name_quick tw5705401196148836120 for instDecidableEqStr by Mine.same0
name_quick tw5450351586043987993 for instDecidableEqStr by Mine.same0
name_quick tw15295140112437865049 for instDecidableEqStr by Mine.same0
name_quick tw8838703818522509339 for instDecidableEqStr by Mine.same0
name_quick tw4202420392311795164 for instDecidableEqStr by Mine.same0
name_quick tw2306396927067264540 for instDecidableEqStr by Mine.same0
name_quick tw11610854611148031980 for instDecidableEqStr by Mine.same0
name_quick tw11004172415109596817 for instDecidableEqStr by Mine.same0
name_quick tw7431166417926376057 for instDecidableEqStr by Mine.same0
namespace MineB
set_option maxHeartbeats 0 in
open_top hd for PySem.Challenge.rw_bv5019_02
end MineB
namespace Mine
theorem fill_tmp : MineB.hd.heap_39 = MineB.hd.heap_39 ∧ PySem.Challenge.rw_bv5019_02 = PySem.Challenge.rw_bv5019_02 := by
  k_fill
  exact ⟨rfl, rfl⟩
local macro_rules | `(tactic| ktn_end $b:term) => `(tactic| (refine wpAny_call ?_; k_dflt (refine' code_def (binds := $b) ?k1 ?k2 ?k3 ?k4 ?k5 ?kA ?kF ?kK ?k6 ?k7 ?k8 ?k9 ?kB ?_ ?c2 ?c3 ?c4 ?c5; (case kA => exact rfl); (case kF => exact rfl); (case kK => assumption); (case k1 => k_asm); (case k2 => k_asm); (case k3 => k_asm); (case k4 => k_asm); (case k5 => k_asm); (case k6 => k_is); (case k7 => k_is); (case k8 => exact Nat.le_of_ble_eq_true rfl); (case k9 => first | exact BindsTo.of_eq rfl | exact binds_K (by k_in) rfl (by k_is) rfl rfl rfl); (case c5 => decide); (case kB => exact locs rfl); (case c2 => exact rfl); (case c3 => exact rfl); (case c4 => exact rfl); k_whole; intro g' L' h' FG' F' N' B' X' T'; (try simp only [List.reverse_cons, List.reverse_nil, List.nil_append, List.cons_append] at F'); (try dsimp only); (try k_lift B'); (try k_fold))))
local macro_rules | `(tactic| k_room) => `(tactic| exact Nat.le_of_ble_eq_true rfl)
-- the ledger at an end: what the call made and nobody keeps is dropped
local macro_rules | `(tactic| walk_at "mine led") => `(tactic| first | k_asm | (refine cb_drop (by assumption) ?_; intro p hp; (repeat (first | exact hp | exact List.mem_append_left _ hp | refine List.Mem.tail _ ?_)); done) | (refine cb_drop (by assumption) ?_; intro p hp; rcases List.mem_cons.mp hp with hp | hp; (subst hp; exact List.Mem.head _); (repeat (first | exact hp | exact List.mem_append_left _ hp | refine List.Mem.tail _ ?_)); done))
-- sizes of octets
local macro_rules | `(tactic| walk_at "mine size") => `(tactic| ((try simp only [Array.size_append, List.size_toArray, List.length_cons, List.length_nil, octs_size, dsha_size, picked4]); omega))
local macro_rules | `(tactic| walk_at "binaryOp Add bytes bytes") => `(tactic| ((with_reducible refine badd ?z ?_); (case z => walk_at "mine size"); intro _ _))
local macro_rules | `(tactic| walk_at "call ref") => `(tactic| (k_here; (with_reducible show wpAny _ _ (call (Value.ref _) [Value.bytes _ _, Value.str _ _]) _ _ _); kfb_any; k_dflt (refine fb_call (by k_asm) (by k_mem) (by walk_at "mine size") ?_); intro _ _))
-- the walk up to a loop
local macro_rules | `(tactic| walk_at "mine steps") => `(tactic| repeat' ((fail_if_success (with_reducible show wpAny _ _ (exec (Stmt.While _ _ _ _) _) _ _ _)); (fail_if_success (with_reducible show wpAny _ _ (exec (Stmt.For _ _ _ _ _) _) _ _ _)); (fail_if_success (with_reducible show wpAny _ _ (pyIter _) _ _ _)); (fail_if_success (with_reducible show wpAny _ _ (eval (Expr.ListComp _ _ _ _) _) _ _ _)); (fail_if_success (with_reducible show StrComp _ _ _ _ _ _ _ _ _ _ _ _)); (fail_if_success (with_reducible show IntComp _ _ _ _ _ _ _ _ _ _ _ _)); (fail_if_success (with_reducible show (∃ _, _) ∧ Keeps _ _)); (fail_if_success (with_reducible show KswEnd _ _ _ _ _ _ _ _ _ _ _ _)); (fail_if_success (with_reducible show InvEndN _ _ _ _ _ _ _)); first | ((with_reducible show wpAny _ _ (call (Value.ref _) _) _ _ _); walk_at "call ref") | (k_unfold; (try dsimp only)) | walk1 | (dsimp only; walk1)))
-- a call by what was shown of the def: $c the theorem, $r what it asks of the heap
local macro_rules | `(tactic| ktr_call $c:term $r:term) => `(tactic| (k_here; k_dflt (refine' lower ($c _ _ _ _ _ _ _ _ _ _ _ _ _ _ _ _ _ _ _ _ ?kB ?kF ?kX ?kN ?kT ?kK ?kr ?kR) ?h1 ?h2 ?h3 ?h4 ?h5; (case h3 => exact rfl); (case h1 => exact rfl); (case h2 => exact Nat.le_of_ble_eq_true rfl); (case h4 => exact rfl); (case h5 => exact Nat.le_of_ble_eq_true rfl); (case kB => k_asm); (case kF => k_asm); (case kX => k_asm); (case kN => k_asm); (case kT => k_asm); (case kK => exact rfl); (case kr => exact $r); k_whole); (try dsimp only); intros; (try ((rename (∀ _ ∈ _, _) => l9); k_lt l9)); (try k_fold)))
local macro_rules | `(tactic| walk_at "mine bcut") => `(tactic| ((with_reducible rename Fr _ _ _ _ => F'); (with_reducible rename News _ _ _ _ => N'); (refine bcut (s := ⟨_, _, _, _, _⟩) F' N' (by constructor) (by constructor) (by walk_at "mine size") ?_); intro _ _ _ _ _))
local macro_rules | `(tactic| walk_at "subscriptTail Call") => `(tactic| ((with_reducible show wpAny _ _ (subscriptTail _ (Expr.Slice _ _ none _) (Value.bytes _ _) (Value.ref _)) _ _ _); k_dflt (walk_at "mine bcut")))
local macro_rules | `(tactic| walk_at "subscriptTail Name Slice bytes ref") => `(tactic| (k_dflt (walk_at "mine bcut")))
local macro_rules | `(tactic| k_all) => `(tactic| exact allNe_app (by assumption) (by assumption))
local macro_rules | `(tactic| walk_at "mine mem") => `(tactic| repeat' (first | exact List.Mem.head _ | assumption | refine List.Mem.tail _ ?_))
local macro_rules | `(tactic| walk_at "mine len") => `(tactic| ((try simp only [List.length_append, List.length_map, List.length_cons, List.length_nil, List.length_singleton, List.length_dropLast, List.length_drop, to5_length, hx_length, dig6_length]); omega))
local macro_rules | `(tactic| walk_at "binaryOp Add ref ref") => `(tactic| (k_dflt (refine' add_ints ?F ?N ?a ?b ?i ?j ?z ?_; (case F => k_asm); (case N => k_asm); (case a => walk_at "mine mem"); (case b => walk_at "mine mem"); (case i => first | assumption | exact ints_one (ver := 0) | exact ints_one (ver := 1)); (case j => first | assumption | exact ints6); (case z => walk_at "mine len")); intro D' us' h' F' N' l1 hI'; (try k_lt l1)))
-- a def with cells
local macro_rules | `(tactic| cell_end $b:term $c9:term $d9:term) => `(tactic| (refine wpAny_call ?_; k_dflt (refine' code_defC (binds := $b) ?k1 ?k2 ?k3 ?k4 ?k5 ?kA ?kF ?kK ?k6 ?k7 ?k8 ?k9 ?kB ?kD ?_ ?c2 ?c3 ?c4; (case kA => exact rfl); (case kF => exact rfl); (case kK => assumption); (case k1 => k_asm); (case k2 => k_asm); (case k3 => k_asm); (case k4 => k_asm); (case k5 => k_asm); (case k6 => k_is); (case k7 => k_is); (case k8 => exact Nat.le_of_ble_eq_true rfl); (case k9 => first | exact BindsTo.of_eq rfl | exact binds_K (by k_in) rfl (by k_is) rfl rfl rfl); (case kB => exact rfl); (case kD => decide +kernel); (case c2 => exact rfl); (case c3 => exact rfl); (case c4 => exact rfl); k_whole; intro g' L' h' tk' cells' FG' F' N' Y' B' X' T' l1; (try k_lt l1); k_cells Y'; (try simp only [List.cons_append, List.nil_append] at N'); (try dsimp only); (try k_lift B'); (try k_fold))))
local macro_rules | `(tactic| walk_at "mine lt") => `(tactic| first | assumption | ((with_reducible rename (_ ∧ _) => l8); (repeat (replace l8 := l8.2)); exact allLt_all l8))
local macro_rules | `(tactic| k_all) => `(tactic| exact allNe_succ (by assumption))
local macro_rules | `(tactic| walk_at "mine led2") => `(tactic| ((refine cb_drop (by assumption) ?_); intro p hp; rcases List.mem_cons.mp hp with hp | hp; (subst hp; (repeat (first | exact List.Mem.head _ | refine List.Mem.tail _ ?_)); done); rcases List.mem_cons.mp hp with hp | hp; (subst hp; (repeat (first | exact List.Mem.head _ | refine List.Mem.tail _ ?_)); done); (repeat (first | exact hp | refine List.Mem.tail _ ?_))))
local macro_rules | `(tactic| walk_at "execs cons") => `(tactic| (k_here; (with_reducible refine wpAny_execs_cons ?_); (try dsimp only)))
-- the lines that serve most steps, ahead of the library's slower ones
local macro_rules | `(tactic| walk_at "callWith ref") => `(tactic| (k_here; k_dflt (first | (refine' callWith_K ?k1 ?k2 ?_; (case k1 => k_asm); (case k2 => k_is); k_whole) | (refine' callWith_K0 ?k1 ?k2 ?_; (case k1 => k_in); (case k2 => k_is); k_whole))))
local macro_rules | `(tactic| walk_at "eval Name") => `(tactic| (k_here; (with_reducible show wpAny _ _ (eval (Expr.Name _ _) (envOf _ _ _ _ _)) _ _ _); first | (k_dflt (refine' ld ?k1 ?k2 ?_; (case k1 => k_asm); (case k2 => exact rfl); k_whole)) | ((with_reducible rename Fr _ _ _ _ => kF); k_dflt (refine' name_K kF ?k1 ?k2 ?k3 ?_; (case k1 => k_asm); (case k2 => k_asm); (case k3 => k_is); k_whole))))
section
theorem anewS2 : True ∧ True := by first | (walk1; done) | exact ⟨trivial, trivial⟩
local macro_rules | `(tactic| walk_at "binaryOp Pow int int") => `(tactic| ((with_reducible refine pow_num ?z ?_); (case z => walk_at "mine size"); intro _ _))
local macro_rules | `(tactic| walk_at "binaryOp Mult int int") => `(tactic| ((with_reducible refine mul_sha ?z ?_); (case z => walk_at "mine size"); intro _ _))
local macro_rules | `(tactic| walk_at "binaryOp Mod int int") => `(tactic| ((with_reducible refine mod_sha ?z ?_); (case z => decide +kernel); intro _ _))
local macro_rules | `(tactic| walk_at "call builtin:int.to_bytes") => `(tactic| (k_dflt (refine tb_call (k := 32) (by decide) (shaN_lt _) ?_); intro _ _))
set_option maxHeartbeats 2000000 in
theorem dsha_does {prog : Program} {w : World} {b : Array UInt8} {tb : Tok} (hb : b.size ≤ 1000) :
    Does prog w (MineB.hd.heap_39 w.params) none 900 9000 94 [.bytes b tb] (fun _ _ _ _ _ => True)
      (fun h₀ L m news s Q _ => ∀ (t : Tok) (h' : Heap) (tk' : Nat), Fr h₀ L h' m → News h₀ L h' news → Q (.bytes (dsha b) t) { s with heap := h', toks := tk' }) := by
  w_top off
  intro p loose mean mg mb cn cs a ccd cl outer A₀ base h₀ L m news s Q E B F X N T hk _ hret
  ktn_end [("msg", Value.bytes b tb)]
  k_steps
  exact hret _ _ _ (by assumption) (by walk_at "mine led")
end
section
theorem anewS3 : True ∧ True := by first | (walk1; done) | exact ⟨trivial, trivial⟩
local macro_rules | `(tactic| walk_at "subscriptTail Name Name str int") => `(tactic| ((with_reducible refine item_b58 (int_fmod_lo _ (by decide)) (int_fmod_hi _ (by decide)) ?_ ?_ ?_); rotate_left; (with_unfolding_all rfl); (intro _; with_unfolding_all rfl); intro _ _))
local macro_rules | `(tactic| walk_at "call ref") => `(tactic| (k_here; (with_reducible show wpAny _ _ (call (Value.ref _) [Value.bytes _ _, Value.str _ _]) _ _ _); kfb_any; k_dflt (refine fb_callN (by k_asm) (by k_mem) (by walk_at "mine size") ?_); intro nB _ _ hnB))
local macro_rules | `(tactic| walk_at "subscriptTail Name Slice ref ref") => `(tactic| (k_dflt (refine' krv_lit ?F ?N ?l ?k rfl ?_ ?s ?t ?z; (case F => k_asm); (case N => k_asm); (case l => kmk_list); (case k => exact IsPart.int _ _); (case s => with_unfolding_all rfl); (case t => kmk_pure); (case z => (simp only [List.size_toArray, sizeLine_eq]; omega))); intro D' h' F' N' l1; (try k_lt l1); (try k_sweep)))
local macro_rules | `(tactic| walk_at "call builtin:list.append") => `(tactic| (k_dflt (refine' append_K ?k1 ?k2 ?k3 ?_ ?z; (case k1 => k_asm); (case k2 => k_asm); (case k3 => k_upd); (case z => (simp only [List.size_toArray, sizeLine_eq]; omega)); k_whole); intro h' F' N'; (try simp only [List.push_toArray] at N'); (try k_sweep)))
local macro_rules | `(tactic| walk_at "call builtin:str.join") => `(tactic| (k_dflt (refine join_b58 (by kmk_list) (by assumption) (by assumption) (by first | assumption | omega) ?_); intro _ _))
local macro_rules | `(tactic| walk_at "call builtin:divmod") => `(tactic| (k_dflt (refine' divmod_K ?k1 ?k2 (by decide) ?k3 ?_; (case k1 => k_asm); (case k2 => k_asm); (case k3 => exact Or.inl (PyProof.noPylong_of_log2 (by decide +kernel)))); intro D' h' t1 t2 k F' N' l1; (try k_lt l1); (try k_sweep)))
local macro_rules | `(tactic| walk_at "binaryOp Mult str int") => `(tactic| (k_dflt (refine mul_one item0 (by first | exact padI_all (by assumption) | exact padI_stop (by assumption) (by assumption) (by assumption)) (b58_zeros (by assumption)) ?_); intro _ _))
local macro_rules | `(tactic| walk_at "binaryOp Add str str") => `(tactic| ((with_reducible refine add_b58 ?z ?_); (case z => assumption); intro _ _))
set_option maxHeartbeats 1500000 in
theorem enc58_does {prog : Program} {w : World} {b : Array UInt8} {tb : Tok} (hb : b.size ≤ 100) :
    Does prog w (MineB.hd.heap_39 w.params) none 900 9000 101 [.bytes b tb] (fun _ _ _ _ _ => True)
      (fun h₀ L m news s Q _ => ∀ (t : Tok) (h' : Heap) (tk' : Nat), Fr h₀ L h' m → News h₀ L h' news → Q (.str (txt (b58l (bl b))) t) { s with heap := h', toks := tk' }) := by
  w_top off
  intro p loose mean mg mb cn cs a ccd cl outer A₀ base h₀ L m news s Q E B F X N T hk _ hret
  ktn_end [("b", Value.bytes b tb)]
  walk_at "mine steps"
  (with_reducible rename Fr _ _ _ _ => F1)
  (with_reducible rename News _ _ _ _ => N1)
  (with_reducible rename (_ = num (bl b)) => hn9)
  refine' while1 (σ := Int × Nat × List Value × List Str × Nat) F1 N1 (fun c => c.2.2.1) (fun c => c.2.2.2.2) (fun c => [("n", .int c.1 c.2.1)]) ["r"] (fun c => EncB b c.1 c.2.2.2.1 ∧ StrsAre c.2.2.1 c.2.2.2.1) (fun c => c.1.toNat) (_, _, [], [], 0) rfl rfl (List.forall_mem_cons.mpr ⟨rfl, List.forall_mem_nil _⟩) ⟨encB_start hb hn9, .nil⟩ ?kt PassesOwn.leaving
  clear F1 N1 hn9
  rintro ⟨n, tn, us, cs, cnt⟩ u h tk1 ⟨hp, hf⟩ F1 N1
  dsimp only [kstB] at hf hp F1 N1
  have hl1 := encB_len hp
  have hl2 := StrsAre.length hf
  try k_fold
  walk_at "mine steps"
  · refine ksw_end (n.fdiv 58, _, us ++ [_], cs ++ [_], cnt + 1) (by assumption) (by assumption) (by first | kst_in | kst_inAny) trivial (by kst_all) (by ksw_same) ⟨encB_step hp (by assumption), StrsAre.append' hf (.cons _ _ .nil)⟩ (encB_less hp (by assumption))
  · (with_reducible rename Fr _ _ _ _ => F2)
    (with_reducible rename News _ _ _ _ => N2)
    refine For_invVF F2 rfl rfl ?_ (by intro _; rfl) PassesOwn.leaving
    walk_at "mine steps"
    (with_reducible rename Fr _ _ _ _ => F3)
    (with_reducible rename News _ _ _ _ => N3)
    refine forB0 (σ := Int × Nat) F3 N3 rfl (fun c => [("pad", .int c.1 c.2)]) [] (fun pre c => PadI pre c.1) (0, _) (List.forall_mem_cons.mpr ⟨rfl, List.forall_mem_nil _⟩) ⟨rfl, fun _ hk => nomatch hk⟩ ?_ ?_
    · clear F3 N3
      rintro ⟨pad, tp⟩ pre post c tc u9 h9 tk9 own e9 h0 h1 ho hp9 F4 N4
      dsimp only [kstB] at hp9 F4 N4
      try k_fold
      walk_at "mine steps"
      · refine kst_end (pad + 1, _) (by assumption) (by assumption) (by first | kst_in | kst_inAny) (by first | (intro p hp; kst_mem) | kst_anyIn) rfl trivial (by kst_all) (by kst_same) (padI_step hp9 (by assumption))
      · exact hret _ _ _ (by assumption) (by walk_at "mine led")
    · clear F3 N3
      rintro ⟨pad, tp⟩ u9 h9 tk9 hp9 F4 N4
      dsimp only [kstB] at hp9 F4 N4
      try k_fold
      walk_at "mine steps"
      exact hret _ _ _ (by assumption) (by walk_at "mine led")
end
section
theorem anewS4 : True ∧ True := by first | (walk1; done) | exact ⟨trivial, trivial⟩
local macro_rules | `(tactic| walk_at "call ref") => `(tactic| first | ktr_call (dsha_does (by walk_at "mine size")) trivial | ktr_call (enc58_does (by walk_at "mine size")) trivial)
set_option maxHeartbeats 1500000 in
theorem encchk_does {prog : Program} {w : World} {b : Array UInt8} {tb : Tok} (hb : b.size ≤ 96) :
    Does prog w (MineB.hd.heap_39 w.params) none 890 8900 108 [.bytes b tb] (fun _ _ _ _ _ => True)
      (fun h₀ L m news s Q _ => ∀ (t : Tok) (h' : Heap) (tk' : Nat), Fr h₀ L h' m → News h₀ L h' news → Q (.str (txt (E58 b)) t) { s with heap := h', toks := tk' }) := by
  w_top off
  intro p loose mean mg mb cn cs a ccd cl outer A₀ base h₀ L m news s Q E B F X N T hk _ hret
  ktn_end [("b", Value.bytes b tb)]
  k_steps
  exact hret _ _ _ (by assumption) (by walk_at "mine led")
end
section
theorem anewS5 : True ∧ True := by first | (walk1; done) | exact ⟨trivial, trivial⟩
local macro_rules | `(tactic| walk_at "binaryOp RShift int int") => `(tactic| (k_dflt (refine shr_n rfl rfl ?_); intro _ _))
local macro_rules | `(tactic| walk_at "binaryOp BitAnd int int") => `(tactic| (k_dflt (refine and_n rfl rfl ?_); intro _ _))
local macro_rules | `(tactic| walk_at "binaryOp BitXor int int") => `(tactic| (k_dflt (refine xor_n rfl rfl ?_); intro _ _))
local macro_rules | `(tactic| walk_at "inplaceOp BitXor int int") => `(tactic| (k_dflt (first | refine ixor_n rfl (gen_at (by assumption)) ?_ | refine ixor_n rfl (rfl : (0 : Int) = ((0 : Nat) : Int)) ?_); intro _ _))
local macro_rules | `(tactic| walk_at "binaryOp LShift int int") => `(tactic| (k_dflt (refine shl_n rfl rfl (by decide) (Nat.lt_of_le_of_lt Nat.and_le_right (by decide)) ?_); intro _ _))
set_option maxHeartbeats 1500000 in
theorem polymod_does {prog : Program} {w : World} {l : Addr} {vs : List Value} {n : Nat} {xs : List Nat} (hi : IntsAre vs (xs.map fun k : Nat => (k : Int))) :
    Does prog w (MineB.hd.heap_39 w.params) none 900 9000 134 [.ref l] (fun _ _ _ _ news => (l, W.listOf vs.toArray n) ∈ news)
      (fun h₀ L m news s Q _ => ∀ (t : Tok) (h' : Heap) (tk' : Nat), Fr h₀ L h' m → News h₀ L h' news → Q (.int ((pm 1 xs : Nat) : Int) t) { s with heap := h', toks := tk' }) := by
  w_top off
  intro p loose mean mg mb cn cs a ccd cl outer A₀ base h₀ L m news s Q E B F X N T hk hl hret
  ktn_end [("values", Value.ref l)]
  walk_at "mine steps"
  (with_reducible rename Fr _ _ _ _ => F1)
  (with_reducible rename News _ _ _ _ => N1)
  refine For_invVF F1 rfl rfl ?_ (by intro _; rfl) PassesOwn.leaving
  walk_at "mine steps"
  refine forL0 (σ := Nat × Nat) F1 N1 (.tail _ hl) hi rfl (fun c => [("chk", .int (c.1 : Int) c.2)]) ["top", "i"] (fun pre c => PmOut xs pre c.1) (1, _) (List.forall_mem_cons.mpr ⟨rfl, List.forall_mem_nil _⟩) (pmOut_start xs) ?_ ?_
  · rintro ⟨c, tc⟩ pre post v tv u9 h9 tk9 own e9 hm ho hp F4 N4
    dsimp only [kstB] at hp F4 N4
    obtain ⟨x, hxm, rfl⟩ := List.mem_map.mp hm
    clear F1 N1
    try k_fold
    walk_at "mine steps"
    (with_reducible rename Fr _ _ _ _ => F5)
    (with_reducible rename News _ _ _ _ => N5)
    refine For_invVF F5 rfl rfl ?_ (by intro _; rfl) PassesOwn.leaving
    walk_at "mine steps"
    (with_reducible rename Fr _ _ _ _ => F6)
    (with_reducible rename News _ _ _ _ => N6)
    (with_reducible rename IsRange _ _ _ _ _ _ _ _ => R6)
    refine forR0 (σ := Nat × Nat) (n := 5) F6 N6 R6 rfl (by decide) rfl (fun d => [("chk", .int (d.1 : Int) d.2)]) [] (fun k d => PmIn (c >>> 25) ((c &&& 33554431) <<< 5 ^^^ x) k d.1) (_, _) (List.forall_mem_cons.mpr ⟨rfl, List.forall_mem_nil _⟩) pmIn_start ?_ ?_
    · rintro ⟨d, td⟩ pre2 ti u7 h7 tk7 own2 hlt ho2 hp7 F7 N7
      dsimp only [kstB] at hp7 F7 N7
      clear F6 N6
      try k_fold
      walk_at "mine steps"
      · refine kst_end (d ^^^ gens.getD pre2.length 0, _) (by assumption) (by assumption) (by first | kst_in | kst_inAny) (by first | (intro p hp; kst_mem) | kst_anyIn) rfl trivial (by kst_all) (by kst_same) ?_
        rw [List.length_append]
        exact pmIn_yes hp7 (by assumption)
      · refine kst_end (d ^^^ 0, _) (by assumption) (by assumption) (by first | kst_in | kst_inAny) (by first | (intro p hp; kst_mem) | kst_anyIn) rfl trivial (by kst_all) (by kst_same) ?_
        rw [List.length_append]
        exact pmIn_no hp7 (by assumption)
    · rintro ⟨d, td⟩ u7 h7 tk7 hp7 F7 N7
      dsimp only [kstB] at hp7 F7 N7
      clear F6 N6
      try k_fold
      walk_at "mine steps"
      exact kst_end (_, _) (by assumption) (by assumption) (by first | kst_in | kst_inAny) (by first | (intro p hp; kst_mem) | kst_anyIn) rfl trivial (by kst_all) (by kst_same) (pmOut_step hp e9 (pmIn_end hp7))
  · rintro ⟨c, tc⟩ u9 h9 tk9 hp F4 N4
    dsimp only [kstB] at hp F4 N4
    clear F1 N1
    try k_fold
    have e9 := pmOut_end hp
    subst e9
    walk_at "mine steps"
    exact hret _ _ _ (by assumption) (by walk_at "mine led")
end
section
theorem anewS6 : True ∧ True := by first | (walk1; done) | exact ⟨trivial, trivial⟩
local macro_rules | `(tactic| walk_at "binaryOp RShift int int") => `(tactic| (k_dflt (refine shr_n rfl rfl ?_); intro _ _))
local macro_rules | `(tactic| walk_at "binaryOp BitAnd int int") => `(tactic| (k_dflt (refine and_n rfl rfl ?_); intro _ _))
set_option maxHeartbeats 1500000 in
theorem hrp_does {prog : Program} {w : World} {hs : List Nat} {th : Tok} (hx : ∀ k ∈ hs, k < 128) (hl : hs.length ≤ 100) :
    Does prog w (MineB.hd.heap_39 w.params) none 900 9000 139 [.str (txt hs) th] (fun _ _ _ _ news => True)
      (fun h₀ L m news s Q _ => ∀ (q : Addr) (n : Nat) (vs : List Value) (h' : Heap) (tk' : Nat), Fr h₀ L h' m → News h₀ L h' ((q, W.listOf vs.toArray n) :: news) → (∀ p ∈ news, p.1 < q) → IntsAre vs ((hs.map (· >>> 5) ++ [0] ++ hs.map (· &&& 31)).map fun k : Nat => (k : Int)) → Q (.ref q) { s with heap := h', toks := tk' }) := by
  w_top off
  intro p loose mean mg mb cn cs a ccd cl outer A₀ base h₀ L m news s Q E B F X N T hk _ hret
  ktn_end [("hrp", Value.str (txt hs) th)]
  walk_at "mine steps"
  refine listcomp_str (cl := []) (fun c => ((c >>> 5 : Nat) : Int)) rfl (by decide) rfl (by decide) rfl ?_ (by intro _; rfl)
  walk_at "mine steps"
  (with_reducible rename Fr _ _ _ _ => F1)
  (with_reducible rename News _ _ _ _ => N1)
  refine strComp_in F1 N1 rfl hx (by omega) ?_ ?_
  · intro C c u s₃ m₃ E' hm hn hx3 hk3
    walk_at "mine steps"
    exact ⟨⟨_, rfl⟩, _, _, rfl, fun _ _ e => e⟩
  · intro D1 n1 vs1 h1 tk1 F2 N2 I2
    clear F1 N1
    try k_fold
    walk_at "mine steps"
    refine listcomp_str (cl := []) (fun c => ((c &&& 31 : Nat) : Int)) rfl (by decide) rfl (by decide) rfl ?_ (by intro _; rfl)
    walk_at "mine steps"
    (with_reducible rename Fr _ _ _ _ => F3)
    (with_reducible rename News _ _ _ _ => N3)
    refine strComp_in F3 N3 rfl hx (by omega) ?_ ?_
    · intro C c u s₃ m₃ E' hm hn hx3 hk3
      walk_at "mine steps"
      exact ⟨⟨_, rfl⟩, _, _, rfl, fun _ _ e => e⟩
    · intro D2 n2 vs2 h2 tk2 F4 N4 I4
      clear F3 N3
      try k_fold
      walk_at "mine steps"
      exact hret _ _ _ _ _ (by assumption) (by walk_at "mine led") (by walk_at "mine lt") (by simp only [List.map_append, List.map_map, List.map_cons, List.map_nil]; assumption)
end
section
theorem anewS7 : True ∧ True := by first | (walk1; done) | exact ⟨trivial, trivial⟩
local macro_rules | `(tactic| walk_at "binaryOp RShift int int") => `(tactic| (k_dflt (first | refine shr_0 rfl rfl (by assumption) ?_ | refine shr_n rfl rfl ?_); intro _ _))
local macro_rules | `(tactic| walk_at "binaryOp BitAnd int int") => `(tactic| (k_dflt (first | refine and_n (b := 31) rfl (by decide) ?_ | refine and_n (b := 4095) rfl (by decide) ?_); intro _ _))
local macro_rules | `(tactic| walk_at "binaryOp BitOr int int") => `(tactic| (k_dflt (refine or_n rfl rfl ?_); intro _ _))
local macro_rules | `(tactic| walk_at "binaryOp LShift int int") => `(tactic| (k_dflt (refine shl_n rfl rfl (by first | decide | omega) (by first | decide | omega) ?_); intro _ _))
local macro_rules | `(tactic| walk_at "inplaceOp Add int int") => `(tactic| (k_dflt (refine iadd_n rfl (b := 8) rfl ?_); intro _ _))
local macro_rules | `(tactic| walk_at "inplaceOp Sub int int") => `(tactic| (k_dflt (refine isub_n rfl (b := 5) rfl (by omega) ?_); intro _ _))
local macro_rules | `(tactic| walk_at "binaryOp Sub int int") => `(tactic| (k_dflt (first | refine sub_n (a := 5) rfl rfl (by omega) ?_ | refine PyProof.Rows.sub_int ?_); intro _ _))
local macro_rules | `(tactic| walk_at "call builtin:list.append") => `(tactic| (k_dflt (refine' append_K ?k1 ?k2 ?k3 ?_ ?z; (case k1 => k_asm); (case k2 => k_asm); (case k3 => k_upd); (case z => (simp only [List.size_toArray, sizeLine_eq]; omega)); k_whole); intro h' F' N'; (try simp only [List.push_toArray] at N'); (try k_sweep)))
set_option maxHeartbeats 1500000 in
theorem cv5_does {prog : Program} {w : World} {b : Array UInt8} {tb t1 t2 : Tok} (hb : b.size ≤ 100) :
    Does prog w (MineB.hd.heap_39 w.params) none 900 9000 169 [.bytes b tb, .int 8 t1, .int 5 t2] (fun _ _ _ _ _ => True)
      (fun h₀ L m news s Q _ => ∀ (q : Addr) (n : Nat) (vs : List Value) (h' : Heap) (tk' : Nat), Fr h₀ L h' m → News h₀ L h' ((q, W.listOf vs.toArray n) :: news) → (∀ p ∈ news, p.1 < q) → IntsAre vs ((to5 (bl b)).map fun k : Nat => (k : Int)) → Q (.ref q) { s with heap := h', toks := tk' }) := by
  w_top off
  intro p loose mean mg mb cn cs a ccd cl outer A₀ base h₀ L m news s Q E B F X N T hk _ hret
  ktn_end [("data", Value.bytes b tb), ("frombits", Value.int 8 t1), ("tobits", Value.int 5 t2), ("pad", Value.bool true)]
  walk_at "mine steps"
  (with_reducible rename Fr _ _ _ _ => F1)
  (with_reducible rename News _ _ _ _ => N1)
  refine For_invVF F1 rfl rfl ?_ (by intro _; rfl) PassesOwn.leaving
  walk_at "mine steps"
  refine forB1 (σ := Nat × Tok × Nat × Tok × List Value × Nat × List Nat) F1 N1 rfl (fun c => c.2.2.2.2.1) (fun c => c.2.2.2.2.2.1) (fun c => [("acc", .int (c.1 : Int) c.2.1), ("bits", .int (c.2.2.1 : Int) c.2.2.2.1)]) []
    (fun pre c => CvP 8 5 (bl b) pre c.1 c.2.2.1 c.2.2.2.2.2.2 ∧ IntsAre c.2.2.2.2.1 (c.2.2.2.2.2.2.map fun k : Nat => (k : Int))) (0, _, 0, _, [], 0, []) rfl rfl (List.forall_mem_cons.mpr ⟨rfl, List.forall_mem_cons.mpr ⟨rfl, List.forall_mem_nil _⟩⟩) ⟨cvP_start (by decide), .nil⟩ ?_ ?_
  · rintro ⟨acc, ta, bits, tb2, us, cnt, ret⟩ pre post v tv u9 h9 tk9 own e9 h0 h1 ho ⟨hp, hi⟩ F4 N4
    dsimp only [kstB] at hp hi F4 N4
    clear F1 N1
    rw [bInts_bl] at e9
    obtain ⟨x, rfl⟩ := Int.eq_ofNat_of_zero_le h0
    have hx : x < 2 ^ 8 := by omega
    have hacc := cvI_lt hp.i
    have hW := cvR_start hp e9 hx (by decide)
    have hsl := split_len e9
    rw [bl_length] at hsl
    try k_fold
    walk_at "mine steps"
    (with_reducible rename Fr _ _ _ _ => F5)
    (with_reducible rename News _ _ _ _ => N5)
    replace N5 : News _ _ _ (_ :: (news ++ own)) := N5
    refine' while1 (σ := Nat × Tok × List Value × Nat × List Nat) F5 N5 (fun c => c.2.2.1) (fun c => c.2.2.2.1) (fun c => [("bits", .int (c.1 : Int) c.2.1)]) [] (fun c => CvR 8 5 (bl b) pre ((acc <<< 8 ||| x) &&& 4095) c.1 c.2.2.2.2 ∧ IntsAre c.2.2.1 (c.2.2.2.2.map fun k : Nat => (k : Int))) (fun c => c.1) (_, _, us, cnt, ret) rfl rfl (List.forall_mem_cons.mpr ⟨rfl, List.forall_mem_nil _⟩) ⟨hW, hi⟩ ?kt PassesOwn.leaving
    clear F5 N5 hp hi hW
    rintro ⟨bits, tb3, us, cnt, ret⟩ u6 h6 tk6 ⟨hp, hi⟩ F6 N6
    dsimp only [kstB] at hp hi F6 N6
    have hl1 := cvW_len hp.w
    have hl2 := intsAre_len hi
    have hle := hp.w.le
    try k_fold
    walk_at "mine steps"
    · refine ksw_end (bits - 5, _, us ++ [_], cnt + 1, ret ++ [_]) (by assumption) (by assumption) (by first | kst_in | kst_inAny) trivial (by kst_all) (by ksw_same) ⟨cvR_step hp (by omega), intsAre_snoc hi⟩ (by omega)
    · refine kst_end ((acc <<< 8 ||| x) &&& 4095, _, bits, _, us, cnt, ret) (by assumption) (by assumption) (by first | kst_in | kst_inAny) (by first | (intro p hp; kst_mem) | kst_anyIn) rfl trivial (by kst_all) (by kst_same) ⟨cvR_end (bits := bits) hp (by omega), hi⟩
  · rintro ⟨acc, ta, bits, tb2, us, cnt, ret⟩ u9 h9 tk9 ⟨hp, hi⟩ F4 N4
    rw [bInts_bl] at hp
    dsimp only [kstB] at hp hi F4 N4
    clear F1 N1
    have hacc := cvI_lt hp.i
    have hbits := hp.i.lt
    have hl1 := cvI_len hp.i
    rw [List.length_map, bl_length] at hl1
    have hl2 := intsAre_len hi
    try k_fold
    walk_at "mine steps"
    · exact hret _ _ _ _ _ (by assumption) (by walk_at "mine led") (by walk_at "mine lt") (pad_to hp (by omega) ▸ intsAre_snoc hi)
    · exact hret _ _ _ _ _ (by assumption) (by walk_at "mine led") (by walk_at "mine lt") (pad_to0 hp (by omega) ▸ hi)
end
section
theorem anewS8 : True ∧ True := by first | (walk1; done) | exact ⟨trivial, trivial⟩
local macro_rules | `(tactic| walk_at "binaryOp RShift int int") => `(tactic| (k_dflt (first | refine shr_0 rfl rfl (by assumption) ?_ | refine shr_n rfl rfl ?_); intro _ _))
local macro_rules | `(tactic| walk_at "binaryOp BitAnd int int") => `(tactic| (k_dflt (first | refine and_z (b := 255) rfl (by decide) (by assumption) ?_ | refine and_n (b := 255) rfl (by decide) ?_ | refine and_n (b := 4095) rfl (by decide) ?_); intro _ _))
local macro_rules | `(tactic| walk_at "binaryOp BitOr int int") => `(tactic| (k_dflt (refine or_n rfl rfl ?_); intro _ _))
local macro_rules | `(tactic| walk_at "binaryOp LShift int int") => `(tactic| (k_dflt (refine shl_n rfl rfl (by first | decide | omega) (by first | decide | omega) ?_); intro _ _))
local macro_rules | `(tactic| walk_at "inplaceOp Add int int") => `(tactic| (k_dflt (refine iadd_n rfl (b := 5) rfl ?_); intro _ _))
local macro_rules | `(tactic| walk_at "inplaceOp Sub int int") => `(tactic| (k_dflt (refine isub_n rfl (b := 8) rfl (by omega) ?_); intro _ _))
local macro_rules | `(tactic| walk_at "binaryOp Sub int int") => `(tactic| (k_dflt (first | refine sub_n (a := 8) rfl rfl (by omega) ?_ | refine PyProof.Rows.sub_int ?_); intro _ _))
local macro_rules | `(tactic| walk_at "call builtin:list.append") => `(tactic| (k_dflt (refine' append_K ?k1 ?k2 ?k3 ?_ ?z; (case k1 => k_asm); (case k2 => k_asm); (case k3 => k_upd); (case z => (simp only [List.size_toArray, sizeLine_eq]; omega)); k_whole); intro h' F' N'; (try simp only [List.push_toArray] at N'); (try k_sweep)))
set_option maxHeartbeats 1500000 in
theorem cv8_does {prog : Program} {w : World} {l : Addr} {vs : List Value} {nn : Nat} {p5 : List Nat} {t1 t2 : Tok} (hp5 : ∀ d ∈ p5, d < 256) (hb : p5.length ≤ 100) (hvs : IntsAre vs ((to5 p5).map fun k : Nat => (k : Int))) :
    Does prog w (MineB.hd.heap_39 w.params) none 900 9000 169 [.ref l, .int 5 t1, .int 8 t2, .bool false] (fun _ _ _ _ news => (l, W.listOf vs.toArray nn) ∈ news)
      (fun h₀ L m news s Q _ => ∀ (q : Addr) (n : Nat) (vs : List Value) (h' : Heap) (tk' : Nat), Fr h₀ L h' m → News h₀ L h' ((q, W.listOf vs.toArray n) :: news) → (∀ p ∈ news, p.1 < q) → IntsAre vs (p5.map fun k : Nat => (k : Int)) → Q (.ref q) { s with heap := h', toks := tk' }) := by
  w_top off
  intro p loose mean mg mb cn cs a ccd cl outer A₀ base h₀ L m news s Q E B F X N T hk hl hret
  ktn_end [("data", Value.ref l), ("frombits", Value.int 5 t1), ("tobits", Value.int 8 t2), ("pad", Value.bool false)]
  walk_at "mine steps"
  (with_reducible rename Fr _ _ _ _ => F1)
  (with_reducible rename News _ _ _ _ => N1)
  refine For_invVF F1 rfl rfl ?_ (by intro _; rfl) PassesOwn.leaving
  walk_at "mine steps"
  refine forL1 (σ := Nat × Tok × Nat × Tok × List Value × Nat × List Nat) F1 N1 hl hvs rfl (fun c => c.2.2.2.2.1) (fun c => c.2.2.2.2.2.1) (fun c => [("acc", .int (c.1 : Int) c.2.1), ("bits", .int (c.2.2.1 : Int) c.2.2.2.1)]) []
    (fun pre c => CvP 5 8 (to5 p5) pre c.1 c.2.2.1 c.2.2.2.2.2.2 ∧ IntsAre c.2.2.2.2.1 (c.2.2.2.2.2.2.map fun k : Nat => (k : Int))) (0, _, 0, _, [], 0, []) rfl rfl (List.forall_mem_cons.mpr ⟨rfl, List.forall_mem_cons.mpr ⟨rfl, List.forall_mem_nil _⟩⟩) ⟨cvP_start (by decide), .nil⟩ ?_ ?_
  · rintro ⟨acc, ta, bits, tb2, us, cnt, ret⟩ pre post v tv u9 h9 tk9 own e9 hm ho ⟨hp, hi⟩ F4 N4
    dsimp only [kstB] at hp hi F4 N4
    clear F1 N1
    obtain ⟨x, hxm, rfl⟩ := List.mem_map.mp hm
    have hx : x < 2 ^ 5 := to5_lt _ x hxm
    have hacc := cvI_lt hp.i
    have hW := cvR_start hp e9 hx (by decide)
    have hsl := split_len e9
    rw [to5_length] at hsl
    try k_fold
    walk_at "mine steps"
    (with_reducible rename Fr _ _ _ _ => F5)
    (with_reducible rename News _ _ _ _ => N5)
    replace N5 : News _ _ _ (_ :: (news ++ own)) := N5
    refine' while1 (σ := Nat × Tok × List Value × Nat × List Nat) F5 N5 (fun c => c.2.2.1) (fun c => c.2.2.2.1) (fun c => [("bits", .int (c.1 : Int) c.2.1)]) [] (fun c => CvR 5 8 (to5 p5) pre ((acc <<< 5 ||| x) &&& 4095) c.1 c.2.2.2.2 ∧ IntsAre c.2.2.1 (c.2.2.2.2.map fun k : Nat => (k : Int))) (fun c => c.1) (_, _, us, cnt, ret) rfl rfl (List.forall_mem_cons.mpr ⟨rfl, List.forall_mem_nil _⟩) ⟨hW, hi⟩ ?kt PassesOwn.leaving
    clear F5 N5 hp hi hW
    rintro ⟨bits, tb3, us, cnt, ret⟩ u6 h6 tk6 ⟨hp, hi⟩ F6 N6
    dsimp only [kstB] at hp hi F6 N6
    have hl1 := cvW_len hp.w
    have hl2 := intsAre_len hi
    have hle := hp.w.le
    try k_fold
    walk_at "mine steps"
    · refine ksw_end (bits - 8, _, us ++ [_], cnt + 1, ret ++ [_]) (by assumption) (by assumption) (by first | kst_in | kst_inAny) trivial (by kst_all) (by ksw_same) ⟨cvR_step hp (by omega), intsAre_snoc hi⟩ (by omega)
    · refine kst_end ((acc <<< 5 ||| x) &&& 4095, _, bits, _, us, cnt, ret) (by assumption) (by assumption) (by first | kst_in | kst_inAny) (by first | (intro p hp; kst_mem) | kst_anyIn) rfl trivial (by kst_all) (by kst_same) ⟨cvR_end (bits := bits) hp (by omega), hi⟩
  · rintro ⟨acc, ta, bits, tb2, us, cnt, ret⟩ u9 h9 tk9 ⟨hp, hi⟩ F4 N4
    dsimp only [kstB] at hp hi F4 N4
    clear F1 N1
    have hacc := cvI_lt hp.i
    have hbits := hp.i.lt
    have hl1 := cvI_len hp.i
    rw [List.length_map, to5_length] at hl1
    obtain ⟨hr, hb5, hz⟩ := back_all hp5 hp
    have hl2 := intsAre_len hi
    try k_fold
    walk_at "mine steps"
    all_goals exact hret _ _ _ _ _ (by assumption) (by walk_at "mine led") (by walk_at "mine lt") (hr ▸ hi)
end
section
theorem anewS9 : True ∧ True := by first | (walk1; done) | exact ⟨trivial, trivial⟩
local macro_rules | `(tactic| walk_at "call ref") => `(tactic| first | ktr_call (hrp_does (by assumption) (by assumption)) trivial | (k_here; (with_reducible show wpAny _ _ (call (Value.ref _) [Value.ref _]) _ _ _); k_dflt (ktr_call (polymod_does (by assumption)) (List.Mem.head _)); (with_reducible rename (pm 1 _ = _) => hc9); rw [hc9]))
set_option maxHeartbeats 1500000 in
theorem vc_does {prog : Program} {w : World} {hs xs : List Nat} {th : Tok} {l : Addr} {vs : List Value} {nn : Nat} {mk : Bool} (hhs : ∀ k ∈ hs, k < 128) (hhl : hs.length ≤ 100) (hxs : IntsAre vs (xs.map fun k : Nat => (k : Int))) (hxl : xs.length ≤ 200)
    (hc : pm 1 (hx hs xs) = if mk then 734539939 else 1) :
    Does prog w (MineB.hd.heap_39 w.params) none 890 8900 146 [.str (txt hs) th, .ref l] (fun _ _ _ _ news => (l, W.listOf vs.toArray nn) ∈ news)
      (fun h₀ L m news s Q _ => ∀ (t : Tok) (h' : Heap) (tk' : Nat), Fr h₀ L h' m → News h₀ L h' news → Q (.int (if mk then 2 else 1) t) { s with heap := h', toks := tk' }) := by
  w_top off
  intro p loose mean mg mb cn cs a ccd cl outer A₀ base h₀ L m news s Q E B F X N T hk hl hret
  ktn_end [("hrp", Value.str (txt hs) th), ("data", Value.ref l)]
  unfold hx at hc
  cases mk
  all_goals (
    simp only [if_true, if_false, Bool.false_eq_true] at hc
    walk_at "mine steps"
    exact hret _ _ _ (by assumption) (by walk_at "mine led"))
end
section
theorem anewS10 : True ∧ True := by first | (walk1; done) | exact ⟨trivial, trivial⟩
local macro_rules | `(tactic| walk_at "call ref") => `(tactic| first | ktr_call (hrp_does (by assumption) (by assumption)) trivial | (k_here; (with_reducible show wpAny _ _ (call (Value.ref _) [Value.ref _]) _ _ _); k_dflt (ktr_call (polymod_does (by assumption)) (List.Mem.head _))))
local macro_rules | `(tactic| walk_at "binaryOp BitXor int int") => `(tactic| (k_dflt (first | refine xor_n rfl rfl ?_ | refine xor_n (b := 1) rfl rfl ?_ | refine xor_n (b := 734539939) rfl rfl ?_); intro _ _))
local macro_rules | `(tactic| walk_at "binaryOp RShift int int") => `(tactic| (k_here; k_dflt (refine PyProof.Rows.rshift_int (crc_nonneg (by assumption)) ?_)))
local macro_rules | `(tactic| walk_at "binaryOp BitAnd int int") => `(tactic| (k_dflt (first | refine and_n (b := 31) rfl (by decide) ?_); intro _ _))
set_option maxHeartbeats 1500000 in
theorem crc_does {prog : Program} {w : World} {hs xs : List Nat} {th te : Tok} {l : Addr} {vs : List Value} {nn : Nat} {mk : Bool} (hhs : ∀ k ∈ hs, k < 128) (hhl : hs.length ≤ 100) (hxs : IntsAre vs (xs.map fun k : Nat => (k : Int))) (hxl : xs.length ≤ 200) :
    Does prog w (MineB.hd.heap_39 w.params) none 890 8900 151 [.int (if mk then 2 else 1) te, .str (txt hs) th, .ref l] (fun _ _ _ _ news => (l, W.listOf vs.toArray nn) ∈ news)
      (fun h₀ L m news s Q _ => ∀ (q : Addr) (n : Nat) (vs : List Value) (h' : Heap) (tk' : Nat), Fr h₀ L h' m → News h₀ L h' ((q, W.listOf vs.toArray n) :: news) → IntsAre vs ((dig6 (pm 1 (hx hs xs ++ [0, 0, 0, 0, 0, 0]) ^^^ (if mk then 734539939 else 1))).map fun k : Nat => (k : Int)) → Q (.ref q) { s with heap := h', toks := tk' }) := by
  w_top off
  intro p loose mean mg mb cn cs a ccd cl outer A₀ base h₀ L m news s Q E B F X N T hk hl hret
  cell_end [("encoding", Value.int (if mk then 2 else 1) te), ("hrp", Value.str (txt hs) th), ("data", Value.ref l)] 0 0
  unfold hx at hret
  cases mk
  all_goals (
    simp only [if_true, if_false, Bool.false_eq_true] at *
    walk_at "mine steps"
    k_steps
    (with_reducible rename (IntsAre _ (List.map _ (rangeKs _ _))) => hI9)
    rw [crc_ints] at hI9
    exact hret _ _ _ _ _ (by assumption) (by walk_at "mine led") hI9)
end
section
theorem anewS11 : True ∧ True := by first | (walk1; done) | exact ⟨trivial, trivial⟩
local macro_rules | `(tactic| walk_at "call ref") => `(tactic| ktr_call (crc_does (by assumption) (by assumption) (by assumption) (by assumption)) (by walk_at "mine mem"))
local macro_rules | `(tactic| walk_at "binaryOp Add str str") => `(tactic| (k_dflt (refine' add_txtE ?ha ?hb ?z ?_; (case ha => first | exact one_str | exact rfl); (case hb => first | exact one_str | exact rfl); (case z => (try simp only [List.length_map]); walk_at "mine len")); intro _ _))
local macro_rules | `(tactic| walk_at "subscriptTail Name Name str int") => `(tactic| ((with_reducible refine item_b32 (by assumption) ?_ ?_ ?_); rotate_left; (with_unfolding_all rfl); (intro _; with_unfolding_all rfl); intro _ _))
local macro_rules | `(tactic| walk_at "call builtin:str.join") => `(tactic| (k_dflt (refine join_txt (by kmk_list) (by assumption) (by walk_at "mine len") ?_); intro _ _))
set_option maxHeartbeats 1500000 in
theorem benc_does {prog : Program} {w : World} {hs xs : List Nat} {th te : Tok} {l : Addr} {vs : List Value} {nn : Nat} {mk : Bool} (hhs : ∀ k ∈ hs, k < 128) (hhl : hs.length ≤ 100) (hxs : IntsAre vs (xs.map fun k : Nat => (k : Int))) (hxl : xs.length ≤ 200) (hx3 : ∀ k ∈ xs, k < 32) :
    Does prog w (MineB.hd.heap_39 w.params) none 880 8800 156 [.int (if mk then 2 else 1) te, .str (txt hs) th, .ref l] (fun _ _ _ _ news => (l, W.listOf vs.toArray nn) ∈ news)
      (fun h₀ L m news s Q _ => ∀ (t : Tok) (h' : Heap) (tk' : Nat), Fr h₀ L h' m → News h₀ L h' news → Q (.str (txt (hs ++ [49] ++ (xs ++ dig6 (pm 1 (hx hs xs ++ [0, 0, 0, 0, 0, 0]) ^^^ (if mk then 734539939 else 1))).map bsgn)) t) { s with heap := h', toks := tk' }) := by
  w_top off
  intro p loose mean mg mb cn cs a ccd cl outer A₀ base h₀ L m news s Q E B F X N T hk hl hret
  ktn_end [("encoding", Value.int (if mk then 2 else 1) te), ("hrp", Value.str (txt hs) th), ("data", Value.ref l)]
  walk_at "mine steps"
  refine listcomp_int (cl := []) (fun k => txt [bsgn k]) rfl (by decide) rfl (by decide) rfl ?_ (by intro _; rfl)
  walk_at "mine steps"
  (with_reducible rename Fr _ _ _ _ => F1)
  (with_reducible rename News _ _ _ _ => N1)
  (with_reducible rename IntsAre _ _ => I1)
  refine intComp_in F1 N1 rfl (List.Mem.head _) I1 (by walk_at "mine len") ?_ ?_
  · intro C k u s₃ m₃ E' hm hn hx9 hk3
    have hk32 : k < 32 := by
      rcases List.mem_append.mp hm with hm | hm
      · exact hx3 _ hm
      · exact dig6_lt _ _ hm
    walk_at "mine steps"
    exact ⟨⟨_, rfl⟩, _, _, rfl, fun _ _ e => e⟩
  · intro D1 n1 vs1 h1 tk1 F2 N2 I2
    clear F1 N1 I1
    try k_fold
    walk_at "mine steps"
    exact hret _ _ _ (by assumption) (by walk_at "mine led")
end
section
theorem anewS12 : True ∧ True := by first | (walk1; done) | exact ⟨trivial, trivial⟩
local macro_rules | `(tactic| walk_at "mine gens") => `(tactic| repeat' ((fail_if_success (with_reducible show wpAny _ _ (eval (Expr.GeneratorExp _ _ _ _) _) _ _ _)); (fail_if_success (with_reducible show wpAny _ _ (eval (Expr.ListComp _ _ _ _) _) _ _ _)); (fail_if_success (with_reducible show GenSrc _ _ _ _ _ _ _ _ _ _ _ _ _ _)); (fail_if_success (with_reducible show StrComp _ _ _ _ _ _ _ _ _ _ _ _)); (fail_if_success (with_reducible show StrCompA _ _ _ _ _ _ _ _ _ _ _ _ _)); (fail_if_success (with_reducible show wpAny _ _ (exec (Stmt.Assign _ (Expr.ListComp _ _ _ _) _) _) _ _ _)); (fail_if_success (with_reducible show (∃ _, _) ∧ Keeps _ _)); (fail_if_success (with_reducible show (_ = _) ∧ Keeps _ _)); first | ((with_reducible show wpAny _ _ (call (Value.ref _) _) _ _ _); walk_at "call ref") | (k_unfold; (try dsimp only)) | walk1 | (dsimp only; walk1)))
local macro_rules | `(tactic| walk_at "eval Name") => `(tactic| ((with_reducible show wpAny _ _ (eval (Expr.Name _ _) (genEnv _ _ _ _ _ _)) _ _ _); k_dflt (first | refine ldVarG (by assumption) (by assumption) ?_ | refine gen_built (by assumption) (by assumption) (by assumption) (by k_is) (by boot_by_name) (by decide) ?_ | refine gen_global (by assumption) (by assumption) (by assumption) (by k_is) ?_)))
local macro_rules | `(tactic| walk_at "call builtin:any") => `(tactic| (k_dflt (refine any_LF (by assumption) (by assumption) (by assumption) (by assumption) ?_); intro _ _ _ _ _))
local macro_rules | `(tactic| walk_at "call builtin:all") => `(tactic| (k_dflt (refine all_LT (by assumption) (by assumption) (by assumption) (by assumption) ?_); intro _ _ _ _ _))
local macro_rules | `(tactic| walk_at "call builtin:str.lower") => `(tactic| (k_dflt (refine KXs.lower_K (still_txt (by assumption)) (by rw [txt_len]; walk_at "mine len") ?_); intro _ _))
local macro_rules | `(tactic| walk_at "call builtin:str.rfind") => `(tactic| (k_dflt (refine rfind_K one_str (by assumption) ?_); intro _ _))
local macro_rules | `(tactic| walk_at "call builtin:len") => `(tactic| ((with_reducible show wpAny _ _ (call (Value.builtin "len") [Value.str _ _]) _ _ _); k_dflt (refine len_txtE (by assumption) (by omega) ?_); intro _ _))
local macro_rules | `(tactic| walk_at "compareOp NotEq str str") => `(tactic| (with_reducible refine ne_same ?_))
local macro_rules | `(tactic| walk_at "subscriptTail Name Slice str ref") => `(tactic| ((with_reducible show wpAny _ _ (subscriptTail _ (Expr.Slice (some _) none none _) (Value.str _ _) (Value.ref _)) _ _ _); (with_reducible rename Fr _ _ _ _ => F'); (with_reducible rename News _ _ _ _ => N'); k_dflt (refine cut_from (n := _ + 1) (s := ⟨_, _, _, _, _⟩) F' N' rfl (by walk_at "mine len") (by walk_at "mine len") (drop_sep _ _ _) ?_ (by with_unfolding_all rfl) (by intro _; with_unfolding_all rfl)); intro _ _ _ _ _))
local macro_rules | `(tactic| walk_at "subscriptTail Name Slice str ref") => `(tactic| ((with_reducible show wpAny _ _ (subscriptTail _ (Expr.Slice none (some _) none _) (Value.str _ _) (Value.ref _)) _ _ _); (with_reducible rename Fr _ _ _ _ => F'); (with_reducible rename News _ _ _ _ => N'); k_dflt (refine cut_to (s := ⟨_, _, _, _, _⟩) F' N' rfl (by walk_at "mine len") (by walk_at "mine len") (take_sep _ _ _) ?_ (by with_unfolding_all rfl) (by intro _; with_unfolding_all rfl)); intro _ _ _ _ _))
local macro_rules | `(tactic| walk_at "compareOp In str str") => `(tactic| (k_dflt (refine in_b32K (by assumption) ?_)))
local macro_rules | `(tactic| walk_at "call builtin:str.find") => `(tactic| (k_dflt (refine find_b32K (by assumption) ?_); intro _ _))
local macro_rules | `(tactic| walk_at "call ref") => `(tactic| ktr_call (vc_does (asc_of (by assumption)) (by omega) (by assumption) (by omega) (by assumption)) (by walk_at "mine mem"))
set_option maxHeartbeats 1500000 in
theorem bdec_does {prog : Program} {w : World} {hs ys : List Nat} {th : Tok} {mk : Bool} (hhs : ∀ k ∈ hs, 33 ≤ k ∧ k < 127 ∧ ¬ (65 ≤ k ∧ k ≤ 90) ∧ k ≠ 49) (hh1 : 1 ≤ hs.length) (hy : ∀ k ∈ ys, k < 32) (hl6 : 6 ≤ ys.length) (hlen : hs.length + ys.length < 90)
    (hc : pm 1 (hx hs ys) = if mk then 734539939 else 1) :
    DoesG prog w (MineB.hd.heap_39 w.params) 158 none 880 8800 161 [.str (txt (hs ++ [49] ++ ys.map bsgn)) th] (fun _ _ _ _ news => True)
      (fun h₀ L m news s Q _ => ∀ (q l : Addr) (n : Nat) (t1 t2 : Tok) (vs : List Value) (s2 : Shared) (ps' : Array Value), Fr h₀ L s2.heap m → News h₀ L s2.heap ((q, { cls := .type "tuple", data := .seq #[.int (if mk then 2 else 1) t1, .str (txt hs) t2, .ref l] }) :: (l, W.listOf vs.toArray n) :: setP 158 (tabObj ps') news) → TriplesOk ps'.toList → AllBare s2.gens → s2.os = s.os → IntsAre vs ((ys.take (ys.length - 6)).map fun k : Nat => (k : Int)) → Q (.ref q) s2) := by
  w_top off
  intro p loose mean mg mb cn cs a ccd cl outer A₀ base h₀ L m news s Q E ps B F X N T hk G hm ht _ hret
  ktn_end [("bech", Value.str (txt (hs ++ [49] ++ ys.map bsgn)) th)]
  walk_at "mine gens"
  (with_reducible rename Top _ _ _ _ _ _ => T1)
  (with_reducible rename Frag.In _ _ => X1)
  have C1 := codeHd_of_K (c := 160) (P := 158) X1 (by kernel_rfl)
  refine genexp_str (P := 158) (cl := []) (fun _ => false) C1 T1 rfl rfl rfl rfl rfl (by decide) rfl rfl rfl (Nat.le_of_ble_eq_true rfl) ?_ (by intro _; rfl)
  walk_at "mine gens"
  have hcs : ∀ k ∈ hs ++ [49] ++ ys.map bsgn, 33 ≤ k ∧ k < 127 ∧ ¬ (65 ≤ k ∧ k ≤ 90) := bech_signs hhs hy
  (with_reducible rename Fr _ _ _ _ => F1)
  (with_reducible rename News _ _ _ _ => N1)
  refine genSrc_in F1 N1 hm ht G rfl (fun k hk => Nat.lt_of_lt_of_le (hcs k hk).2.1 (by decide)) ?_ ?_
  · intro C code A' E' k u s₂ m₂ hA hk F2 hx2
    obtain ⟨hk1, hk2, hk3⟩ := hcs k hk
    walk_at "mine gens"
    exact ⟨by rw [decide_eq_false (by omega)], _, _, rfl, fun _ _ e => e⟩
  · intro a5 s5 ps5 Kb5 ht5 F5 N5 G5 os5 X5
    clear F1 N1
    have hL9 : (hs ++ [49] ++ ys.map bsgn).length = hs.length + 1 + ys.length := by simp only [List.length_append, List.length_map, List.length_singleton]
    have hr1 : ∀ k ∈ ys.map bsgn, k ≠ 49 := by
      intro k hk
      obtain ⟨d, hd, rfl⟩ := List.mem_map.mp hk
      exact (bsgn_ok (hy d hd)).2.2.2
    walk_at "mine gens"
    refine genexp_str (P := 158) (cl := []) (fun _ => true) C1 T1 rfl rfl rfl rfl rfl (by decide) rfl rfl rfl (Nat.le_of_ble_eq_true rfl) ?_ (by intro _; rfl)
    walk_at "mine gens"
    (with_reducible rename Fr _ _ _ _ => F6)
    (with_reducible rename News _ _ _ _ => N6)
    refine genSrc_in F6 N6 (setP_mem hm) ht5 (by assumption) rfl (fun k hk => Nat.lt_of_lt_of_le (hcs k (List.mem_append_right _ hk)).2.1 (by decide)) ?_ ?_
    · intro C code A' E' k u s₂ m₂ hA hk F7 hx7
      obtain ⟨d, hd, rfl⟩ := List.mem_map.mp hk
      have hd32 := hy d hd
      walk_at "mine gens"
      exact ⟨rfl, _, _, rfl, fun _ _ e => e⟩
    · intro a8 s8 ps8 Kb8 ht8 F8 N8 G8 os8 X8
      rw [setP_setP] at N8 X8
      clear F6 N6
      walk_at "mine gens"
      refine assigncomp_str (cl := []) (fun k => ((bval k : Nat) : Int)) rfl rfl (by decide) rfl (by decide) rfl rfl rfl ?_ (by intro _; rfl)
      walk_at "mine gens"
      (with_reducible rename Fr _ _ _ _ => F9)
      (with_reducible rename News _ _ _ _ => N9)
      refine strCompA_in F9 N9 rfl (fun k hk => Nat.lt_of_lt_of_le (hcs k (List.mem_append_right _ hk)).2.1 (by decide)) (by walk_at "mine len") ?_ ?_
      · intro C k u s₃ m₃ E' hm3 hn3 hx3 hk3
        obtain ⟨d, hd, rfl⟩ := List.mem_map.mp hm3
        have hd32 := hy d hd
        walk_at "mine gens"
        exact ⟨⟨_, by rw [bval_bsgn hd32]⟩, _, _, rfl, fun _ _ e => e⟩
      · intro D9 n9 vs9 h9 tk9 F10 N10 l10 I10
        rw [bvals hy] at I10
        clear F9 N9
        try k_fold
        walk_at "mine gens"
        (with_reducible rename IntsAre _ (List.take _ _) => hI9)
        rw [List.length_map, ← List.map_take] at hI9
        exact hret _ _ _ _ _ _ _ ps8 (by assumption) (news_drop3 (by assumption)) ht8 (by assumption) (Eq.trans (by assumption) (Eq.trans os8 (Eq.trans (by assumption) os5))) hI9
end
section
theorem anewS13 : True ∧ True := by first | (walk1; done) | exact ⟨trivial, trivial⟩
local macro_rules | `(tactic| walk_at "mine calls") => `(tactic| repeat' ((fail_if_success (with_reducible show wpAny _ _ (call (Value.ref _) _) _ _ _)); first | (k_unfold; (try dsimp only)) | walk1 | (dsimp only; walk1)))
-- a call of a def with generators, what it makes told as the theorem says
local macro_rules | `(tactic| walk_at "compareOp NotEq str str") => `(tactic| (with_reducible refine ne_same ?_))
set_option maxHeartbeats 1500000 in
theorem dec_does {prog : Program} {w : World} {hs p8 chk : List Nat} {ver : Nat} {th ta : Tok} {mk : Bool} (hhs : ∀ k ∈ hs, 33 ≤ k ∧ k < 127 ∧ ¬ (65 ≤ k ∧ k ≤ 90) ∧ k ≠ 49) (hh1 : 1 ≤ hs.length) (hp8 : ∀ d ∈ p8, d < 256) (hpl : p8.length = 20 ∨ p8.length = 32) (hchk : ∀ k ∈ chk, k < 32) (hc6 : chk.length = 6)
    (hlen : hs.length ≤ 10) (hver : ver = 0 ∧ mk = false ∨ ver = 1 ∧ mk = true)
    (hc : pm 1 (hx hs ((ver :: to5 p8) ++ chk)) = if mk then 734539939 else 1) :
    DoesG prog w (MineB.hd.heap_39 w.params) 158 none 870 8700 176 [.str (txt hs) th, .str (txt (hs ++ [49] ++ ((ver :: to5 p8) ++ chk).map bsgn)) ta] (fun _ _ _ _ news => True)
      (fun h₀ L m news s Q _ => ∀ (q l : Addr) (n : Nat) (t1 : Tok) (vs : List Value) (s2 : Shared) (ps' : Array Value), Fr h₀ L s2.heap m → News h₀ L s2.heap ((q, { cls := .type "tuple", data := .seq #[.int ((ver : Nat) : Int) t1, .ref l] }) :: (l, W.listOf vs.toArray n) :: setP 158 (tabObj ps') news) → TriplesOk ps'.toList → AllBare s2.gens → s2.os = s.os → Q (.ref q) s2) := by
  w_top off
  intro p loose mean mg mb cn cs a ccd cl outer A₀ base h₀ L m news s Q E ps B F X N T hk G hm ht _ hret
  ktn_end [("hrp", Value.str (txt hs) th), ("addr", Value.str (txt (hs ++ [49] ++ ((ver :: to5 p8) ++ chk).map bsgn)) ta)]
  have hy : ∀ k ∈ (ver :: to5 p8) ++ chk, k < 32 := by
    intro k hk
    rcases List.mem_append.mp hk with hk | hk
    · rcases List.mem_cons.mp hk with rfl | hk
      · omega
      · exact to5_lt _ k hk
    · exact hchk k hk
  have hyl : ((ver :: to5 p8) ++ chk).length = (8 * p8.length + 4) / 5 + 7 := by
    rw [List.length_append, List.length_cons, to5_length, hc6]
  walk_at "mine calls"
  refine' lower (bdec_does (hs := hs) (ys := (ver :: to5 p8) ++ chk) (mk := mk) hhs hh1 hy ?g1 ?g2 hc _ _ _ _ _ _ _ _ _ _ _ _ _ _ _ _ _ _ _ _ _ ?kB ?kF ?kX ?kN ?kT ?kK ?kG hm ht trivial ?kR) ?h1 ?h2 ?h3 ?h4 ?h5
  case g1 => omega
  case g2 => omega
  case h3 => exact rfl
  case h1 => exact rfl
  case h2 => exact Nat.le_of_ble_eq_true rfl
  case h4 => exact rfl
  case h5 => exact Nat.le_of_ble_eq_true rfl
  case kB => k_asm
  case kF => k_asm
  case kX => k_asm
  case kN => k_asm
  case kT => k_asm
  case kK => exact rfl
  case kG => exact G
  dsimp only
  intro q l n t1 t2 vs s2 ps2 F2 N2 ht2 G2 os2 I2
  rw [take6 hc6] at I2
  try k_fold
  walk_at "mine calls"
  (with_reducible rename IntsAre _ (List.drop _ _) => I3)
  replace I3 : IntsAre _ ((to5 p8).map fun k : Nat => (k : Int)) := I3
  ktr_call (cv8_does (p5 := p8) hp8 (by omega) I3) (by walk_at "mine mem")
  try k_fold
  have e1 : (List.map (fun k : Nat => (k : Int)) (ver :: to5 p8)).getD (Int.toNat 0) 0 = ((ver : Nat) : Int) := rfl
  have e2 : (((List.map (fun k : Nat => (k : Int)) p8).length : Nat) : Int) = ((p8.length : Nat) : Int) := by rw [List.length_map]
  rcases hver with ⟨rfl, rfl⟩ | ⟨rfl, rfl⟩
  all_goals (
    walk_at "mine calls"
    all_goals first
      | (exfalso; omega)
      | exact hret _ _ _ _ _ _ ps2 (by assumption) (news_drop3 (news_drop3 (news_drop3 (by assumption)))) ht2 (by assumption) os2)
end
section
theorem anewS14 : True ∧ True := by first | (walk1; done) | exact ⟨trivial, trivial⟩
local macro_rules | `(tactic| walk_at "mine calls") => `(tactic| repeat' ((fail_if_success (with_reducible show wpAny _ _ (call (Value.ref _) _) _ _ _)); first | (k_unfold; (try dsimp only)) | walk1 | (dsimp only; walk1)))
local macro_rules | `(tactic| walk_at "compareOp Eq ref ref") => `(tactic| ((with_reducible rename News _ _ _ _ => N8); k_dflt (refine eq_none2 N8 (by walk_at "mine mem") (by walk_at "mine mem") (by walk_at "mine mem") (Nat.le_of_ble_eq_true rfl) ?_)))
set_option maxHeartbeats 1500000 in
theorem enc_does {prog : Program} {w : World} {hs : List Nat} {b : Array UInt8} {ver : Nat} {th tv tb : Tok} {mk : Bool} (hhs : ∀ k ∈ hs, 33 ≤ k ∧ k < 127 ∧ ¬ (65 ≤ k ∧ k ≤ 90) ∧ k ≠ 49) (hh1 : 1 ≤ hs.length) (hbl : b.size = 20 ∨ b.size = 32)
    (hlen : hs.length ≤ 10) (hver : ver = 0 ∧ mk = false ∨ ver = 1 ∧ mk = true) :
    DoesG prog w (MineB.hd.heap_39 w.params) 158 none 860 8600 183 [.str (txt hs) th, .int ((ver : Nat) : Int) tv, .bytes b tb] (fun _ _ _ _ news => True)
      (fun h₀ L m news s Q _ => ∀ (t1 : Tok) (s2 : Shared) (ps' : Array Value), Fr h₀ L s2.heap m → News h₀ L s2.heap (setP 158 (tabObj ps') news) → TriplesOk ps'.toList → AllBare s2.gens → s2.os = s.os → Q (.str (txt (wit hs ver (bl b) mk)) t1) s2) := by
  w_top off
  intro p loose mean mg mb cn cs a ccd cl outer A₀ base h₀ L m news s Q E ps B F X N T hk G hm ht _ hret
  ktn_end [("hrp", Value.str (txt hs) th), ("witver", Value.int ((ver : Nat) : Int) tv), ("witprog", Value.bytes b tb)]
  have hy := ver_lt (b := bl b) hver
  have hyl : (ver :: to5 (bl b)).length = (8 * b.size + 4) / 5 + 1 := by rw [List.length_cons, to5_length, bl_length]
  have hc9 := enc_ok (mk := mk) (hx_lt (asc_of hhs) hy)
  rcases hver with ⟨rfl, rfl⟩ | ⟨rfl, rfl⟩
  · walk_at "mine calls"
    ktr_call (cv5_does (by omega)) trivial
    try k_fold
    walk_at "mine calls"
    (with_reducible rename IntsAre _ _ => I5)
    ktr_call (benc_does (hs := hs) (xs := 0 :: to5 (bl b)) (mk := false) (asc_of hhs) (by omega) I5 (by omega) hy) (by walk_at "mine mem")
    try k_fold
    walk_at "mine calls"
    refine' lower (dec_does (hs := hs) (p8 := bl b) (chk := chk6 hs (0 :: to5 (bl b)) false) (ver := 0) (mk := false) hhs hh1 (bl_lt b) (by rw [bl_length]; exact hbl) (dig6_lt _) rfl hlen ?g1 hc9 _ _ _ _ _ _ _ _ _ _ _ _ _ _ _ _ _ _ _ _ _ ?kB ?kF ?kX ?kN ?kT ?kK ?kG hm ht trivial ?kR) ?h1 ?h2 ?h3 ?h4 ?h5
    case g1 => exact Or.inl ⟨rfl, rfl⟩
    case h3 => exact rfl
    case h1 => exact rfl
    case h2 => exact Nat.le_of_ble_eq_true rfl
    case h4 => exact rfl
    case h5 => exact Nat.le_of_ble_eq_true rfl
    case kB => k_asm
    case kF => k_asm
    case kX => k_asm
    case kN =>
      (with_reducible rename News _ _ _ _ => N9)
      refine cb_drop N9 ?_
      intro p hp
      repeat (first | exact hp | refine List.Mem.tail _ ?_)
    case kT => k_asm
    case kK => exact rfl
    case kG => exact G
    dsimp only
    intro q l n t1 vs s2 ps2 F2 N2 ht2 G2 os2
    try k_fold
    walk_at "mine calls"
    exact hret _ _ ps2 (by assumption) (by walk_at "mine led") ht2 (by assumption) os2
  · walk_at "mine calls"
    ktr_call (cv5_does (by omega)) trivial
    try k_fold
    walk_at "mine calls"
    (with_reducible rename IntsAre _ _ => I5)
    ktr_call (benc_does (hs := hs) (xs := 1 :: to5 (bl b)) (mk := true) (asc_of hhs) (by omega) I5 (by omega) hy) (by walk_at "mine mem")
    try k_fold
    walk_at "mine calls"
    refine' lower (dec_does (hs := hs) (p8 := bl b) (chk := chk6 hs (1 :: to5 (bl b)) true) (ver := 1) (mk := true) hhs hh1 (bl_lt b) (by rw [bl_length]; exact hbl) (dig6_lt _) rfl hlen ?g1b hc9 _ _ _ _ _ _ _ _ _ _ _ _ _ _ _ _ _ _ _ _ _ ?kBb ?kFb ?kXb ?kNb ?kTb ?kKb ?kGb hm ht trivial ?kRb) ?h1b ?h2b ?h3b ?h4b ?h5b
    case g1b => exact Or.inr ⟨rfl, rfl⟩
    case h3b => exact rfl
    case h1b => exact rfl
    case h2b => exact Nat.le_of_ble_eq_true rfl
    case h4b => exact rfl
    case h5b => exact Nat.le_of_ble_eq_true rfl
    case kBb => k_asm
    case kFb => k_asm
    case kXb => k_asm
    case kNb =>
      (with_reducible rename News _ _ _ _ => N9)
      refine cb_drop N9 ?_
      intro p hp
      repeat (first | exact hp | refine List.Mem.tail _ ?_)
    case kTb => k_asm
    case kKb => exact rfl
    case kGb => exact G
    dsimp only
    intro q l n t1 vs s2 ps2 F2 N2 ht2 G2 os2
    try k_fold
    walk_at "mine calls"
    exact hret _ _ ps2 (by assumption) (by walk_at "mine led") ht2 (by assumption) os2
end
section
theorem anewS16 : True ∧ True := by first | (walk1; done) | exact ⟨trivial, trivial⟩
local macro_rules | `(tactic| walk_at "call type:bytes") => `(tactic| ((with_reducible show wpAny _ _ (call (Value.type "bytes") [Value.int _ _]) _ _ _); k_dflt (refine call_bytes_int (by omega) (by omega) ?_); intro _ _))
local macro_rules | `(tactic| walk_at "binaryOp Mult bytes int") => `(tactic| ((with_reducible show wpAny _ _ (binaryOp _ (Value.bytes _ _) (Value.int (_ + 1) _)) _ _ _); k_dflt (refine bytes_mul_any (List.cons_ne_nil _ _) (by omega) (by omega) (Nat.le_of_ble_eq_true rfl) ?_); intro _ _))
local macro_rules | `(tactic| walk_at "mine size") => `(tactic| ((try simp only [Array.size_append, List.size_toArray, List.length_cons, List.length_nil, List.length_flatten, List.map_replicate, List.sum_replicate_nat]); (try omega)))
local macro_rules | `(tactic| walk_at "subscriptTail") => `(tactic| ((with_reducible show wpAny _ _ (subscriptTail _ (Expr.Slice _ _ none _) (Value.bytes _ _) (Value.ref _)) _ _ _); k_dflt (walk_at "mine bcut")))
set_option maxHeartbeats 1500000 in
theorem body_does {prog : Program} {w : World} {kind number : Int} {n : Nat} {t1 t2 t3 : Tok} (hn : n ≤ 100) :
    Does prog w (MineB.hd.heap_39 w.params) none 900 9000 954 [.int kind t1, .int number t2, .int (n : Int) t3] (fun _ _ _ _ news => True)
      (fun h₀ L m news s Q _ => ∀ (b : Array UInt8) (t : Tok) (h' : Heap) (tk' : Nat), b.size = n → Fr h₀ L h' m → News h₀ L h' news → Q (.bytes b t) { s with heap := h', toks := tk' }) := by
  w_top off
  intro p loose mean mg mb cn cs a ccd cl outer A₀ base h₀ L m news s Q E B F X N T hk _ hret
  ktn_end [("kind", Value.int kind t1), ("number", Value.int number t2), ("size", Value.int (n : Int) t3)]
  have hf : ((n : Nat) : Int).fdiv 5 = ((n / 5 : Nat) : Int) := by rw [Int.fdiv_eq_ediv_of_nonneg _ (by decide)]; rfl
  walk_at "mine steps"
  · exact hret _ _ _ _ (by simp) (by assumption) (by walk_at "mine led")
  · exact hret _ _ _ _ (by simp) (by assumption) (by walk_at "mine led")
  · exact hret _ _ _ _ (picked_first (by rw [rep5]; omega)) (by assumption) (by walk_at "mine led")
end
section
theorem anewS20 : True ∧ True := by first | (walk1; done) | exact ⟨trivial, trivial⟩
local macro_rules | `(tactic| walk_at "mine size") => `(tactic| ((try simp only [Array.size_append, List.size_toArray, List.length_cons, List.length_nil]); omega))
local macro_rules | `(tactic| walk_at "call builtin:len") => `(tactic| ((with_reducible show wpAny _ _ (call (Value.builtin "len") [Value.bytes _ _]) _ _ _); k_dflt (refine blenE (by assumption) (by decide) ?_); intro _ _))
local macro_rules | `(tactic| walk_at "subscriptTail") => `(tactic| ((with_reducible show wpAny _ _ (subscriptTail _ _ (Value.bytes _ _) (Value.int 0 _)) _ _ _); k_dflt (refine bitem0 (by assumption) (by decide) (by decide) (by assumption) ?_); intro _ _))
local macro_rules | `(tactic| walk_at "subscriptTail") => `(tactic| ((with_reducible show wpAny _ _ (subscriptTail _ _ (Value.bytes _ _) (Value.int (-1) _)) _ _ _); k_dflt (refine bitemL (by assumption) (by decide) (by decide) (by assumption) ?_); intro _ _))
local macro_rules | `(tactic| walk_at "mine bcutE") => `(tactic| ((with_reducible rename Fr _ _ _ _ => F'); (with_reducible rename News _ _ _ _ => N'); (refine bcutE (s := ⟨_, _, _, _, _⟩) F' N' (by constructor) (by constructor) (by omega) (by assumption) ?_); intro _ _ _ _ _))
local macro_rules | `(tactic| walk_at "subscriptTail") => `(tactic| ((with_reducible show wpAny _ _ (subscriptTail _ (Expr.Slice _ _ none _) (Value.bytes _ _) (Value.ref _)) _ _ _); k_dflt (walk_at "mine bcutE")))
local macro_rules | `(tactic| walk_at "subscriptTail Name Slice bytes ref") => `(tactic| (k_dflt (walk_at "mine bcutE")))
local macro_rules | `(tactic| walk_at "subscriptTail") => `(tactic| ((with_reducible show wpAny _ _ (subscriptTail _ _ (Value.ref _) (Value.str _ _)) _ _ _); k_dflt (refine netItem (by k_asm) (by k_asm) (by assumption) ?_ (by with_unfolding_all rfl)); intro _))
local macro_rules | `(tactic| walk_at "compareOp Eq bytes bytes") => `(tactic| (k_here; (with_reducible first | refine beq_same ?_ | refine beq_diff (by decide) ?_)))
local macro_rules | `(tactic| walk_at "mine drop2") => `(tactic| (refine cb_drop (by assumption) ?_; intro p hp; exact List.Mem.tail _ (List.Mem.tail _ hp)))
local macro_rules | `(tactic| walk_at "call ref") => `(tactic| ktr_call (encchk_does (by walk_at "mine size")) trivial)
set_option maxHeartbeats 1500000 in
theorem addr_pkh {prog : Program} {w : World} {x d net : Addr} {D body pkh : Array UInt8} {t1 t2 t3 : Tok} (hD : D = #[118, 169, 20] ++ body ++ #[136, 172]) (hb : body.size = 20) (hp : pkh.size = 1) (hi : ItemAt w.params (MineB.hd.heap_39 w.params) net (PySem.Str.ofString "p2pkh") (.bytes pkh t3)) :
    Does prog w (MineB.hd.heap_39 w.params) none 880 8800 849 [.ref x, .ref net] (fun _ _ _ _ news => (x, instObj 914 d) ∈ news ∧ (d, dictOf [⟨PyData.keyHash w.params (PySem.Str.ofString "data"), .str (PySem.Str.ofString "data") t1, .bytes D t2⟩] 1) ∈ news)
      (fun h₀ L m news s Q _ => ∀ (t : Tok) (h' : Heap) (tk' : Nat), Fr h₀ L h' m → News h₀ L h' news → Q (.str (txt (E58 (pkh ++ body))) t) { s with heap := h', toks := tk' }) := by
  w_top off
  intro p loose mean mg mb cn cs a ccd cl outer A₀ base h₀ L m news s Q E B F X N T hk ⟨hm1, hm2⟩ hret
  replace N : News h₀ L s.heap ((x, instObj 914 d) :: (d, dictOf [⟨PyData.keyHash w.params (PySem.Str.ofString "data"), .str (PySem.Str.ofString "data") t1, .bytes D t2⟩] 1) :: news) := List.forall_mem_cons.mpr ⟨N _ hm1, List.forall_mem_cons.mpr ⟨N _ hm2, N⟩⟩
  have hs : D.size = 25 := by subst hD; simp only [Array.size_append, hb]; rfl
  have hc1 : KBy.picked D none (some 3) = #[118, 169, 20] := cut_head (r := body ++ #[136, 172]) (by rw [hD, Array.append_assoc]) rfl
  have hc2 : KBy.picked D (some (-2)) none = #[136, 172] := cut_last hD (by decide) rfl
  have hc3 : KBy.picked D (some 3) (some 23) = body := cut_mid hD rfl (by rw [hb]; rfl)
  ktn_end [("self", Value.ref x), ("network", Value.ref net)]
  k_steps
  exact hret _ _ _ (by assumption) (by walk_at "mine drop2")
set_option maxHeartbeats 1500000 in
theorem addr_sh {prog : Program} {w : World} {x d net : Addr} {D body psh : Array UInt8} {t1 t2 t3 : Tok} (hD : D = #[169, 20] ++ body ++ #[135]) (hb : body.size = 20) (hp : psh.size = 1) (hi : ItemAt w.params (MineB.hd.heap_39 w.params) net (PySem.Str.ofString "p2sh") (.bytes psh t3)) :
    Does prog w (MineB.hd.heap_39 w.params) none 880 8800 849 [.ref x, .ref net] (fun _ _ _ _ news => (x, instObj 914 d) ∈ news ∧ (d, dictOf [⟨PyData.keyHash w.params (PySem.Str.ofString "data"), .str (PySem.Str.ofString "data") t1, .bytes D t2⟩] 1) ∈ news)
      (fun h₀ L m news s Q _ => ∀ (t : Tok) (h' : Heap) (tk' : Nat), Fr h₀ L h' m → News h₀ L h' news → Q (.str (txt (E58 (psh ++ body))) t) { s with heap := h', toks := tk' }) := by
  w_top off
  intro p loose mean mg mb cn cs a ccd cl outer A₀ base h₀ L m news s Q E B F X N T hk ⟨hm1, hm2⟩ hret
  replace N : News h₀ L s.heap ((x, instObj 914 d) :: (d, dictOf [⟨PyData.keyHash w.params (PySem.Str.ofString "data"), .str (PySem.Str.ofString "data") t1, .bytes D t2⟩] 1) :: news) := List.forall_mem_cons.mpr ⟨N _ hm1, List.forall_mem_cons.mpr ⟨N _ hm2, N⟩⟩
  have hs : D.size = 23 := by subst hD; simp only [Array.size_append, hb]; rfl
  have hc1 : KBy.picked D none (some 2) = #[169, 20] := cut_head (r := body ++ #[135]) (by rw [hD, Array.append_assoc]) rfl
  have hc2 : (KBw.bInts D).getD (23 - 1) 0 = 135 := bInts_last hD (by simp only [Array.size_append, hb]; rfl)
  have hc3 : KBy.picked D (some 2) (some 22) = body := cut_mid hD rfl (by rw [hb]; rfl)
  ktn_end [("self", Value.ref x), ("network", Value.ref net)]
  k_steps
  exact hret _ _ _ (by assumption) (by walk_at "mine drop2")
end
section
theorem anewS21 : True ∧ True := by first | (walk1; done) | exact ⟨trivial, trivial⟩
local macro_rules | `(tactic| walk_at "mine size") => `(tactic| ((try simp only [Array.size_append, List.size_toArray, List.length_cons, List.length_nil]); omega))
local macro_rules | `(tactic| walk_at "call builtin:len") => `(tactic| ((with_reducible show wpAny _ _ (call (Value.builtin "len") [Value.bytes _ _]) _ _ _); k_dflt (refine blenE (by assumption) (by decide) ?_); intro _ _))
local macro_rules | `(tactic| walk_at "subscriptTail") => `(tactic| ((with_reducible show wpAny _ _ (subscriptTail _ _ (Value.bytes _ _) (Value.int 0 _)) _ _ _); k_dflt (refine bitem0 (by assumption) (by decide) (by decide) (by assumption) ?_); intro _ _))
local macro_rules | `(tactic| walk_at "subscriptTail") => `(tactic| ((with_reducible show wpAny _ _ (subscriptTail _ _ (Value.bytes _ _) (Value.int (-1) _)) _ _ _); k_dflt (refine bitemL (by assumption) (by decide) (by decide) (by assumption) ?_); intro _ _))
local macro_rules | `(tactic| walk_at "mine bcutE") => `(tactic| ((with_reducible rename Fr _ _ _ _ => F'); (with_reducible rename News _ _ _ _ => N'); (refine bcutE (s := ⟨_, _, _, _, _⟩) F' N' (by constructor) (by constructor) (by omega) (by assumption) ?_); intro _ _ _ _ _))
local macro_rules | `(tactic| walk_at "subscriptTail") => `(tactic| ((with_reducible show wpAny _ _ (subscriptTail _ (Expr.Slice _ _ none _) (Value.bytes _ _) (Value.ref _)) _ _ _); k_dflt (walk_at "mine bcutE")))
local macro_rules | `(tactic| walk_at "subscriptTail Name Slice bytes ref") => `(tactic| (k_dflt (walk_at "mine bcutE")))
local macro_rules | `(tactic| walk_at "subscriptTail") => `(tactic| ((with_reducible show wpAny _ _ (subscriptTail _ _ (Value.ref _) (Value.str _ _)) _ _ _); k_dflt (refine netItem (by k_asm) (by k_asm) (by assumption) ?_ (by with_unfolding_all rfl)); intro _))
local macro_rules | `(tactic| walk_at "compareOp Eq bytes bytes") => `(tactic| (k_here; (with_reducible first | refine beq_same ?_ | refine beq_diff (by decide) ?_)))
local macro_rules | `(tactic| walk_at "mine drop2") => `(tactic| (refine cb_drop (by assumption) ?_; intro p hp; exact List.Mem.tail _ (List.Mem.tail _ hp)))
local macro_rules | `(tactic| walk_at "mine upto") => `(tactic| repeat' ((fail_if_success (with_reducible show wpAny _ _ (call (Value.ref 183) _) _ _ _)); first | (k_unfold; (try dsimp only)) | walk1 | (dsimp only; walk1)))
set_option maxHeartbeats 1500000 in
theorem addr_wpkh {prog : Program} {w : World} {x d net : Addr} {D body : Array UInt8} {hs : List Nat} {t1 t2 t3 : Tok} (hD : D = #[0, 20] ++ body) (hb : body.size = 20) (hhs : (∀ k ∈ hs, 33 ≤ k ∧ k < 127 ∧ ¬ (65 ≤ k ∧ k ≤ 90) ∧ k ≠ 49) ∧ 1 ≤ hs.length ∧ hs.length ≤ 10) (hi : ItemAt w.params (MineB.hd.heap_39 w.params) net (PySem.Str.ofString "bech32") (.str (txt hs) t3)) :
    DoesG prog w (MineB.hd.heap_39 w.params) 158 none 850 8500 849 [.ref x, .ref net] (fun _ _ _ _ news => (x, instObj 914 d) ∈ news ∧ (d, dictOf [⟨PyData.keyHash w.params (PySem.Str.ofString "data"), .str (PySem.Str.ofString "data") t1, .bytes D t2⟩] 1) ∈ news)
      (fun h₀ L m news s Q _ => ∀ (t : Tok) (s2 : Shared) (ps' : Array Value), Fr h₀ L s2.heap m → News h₀ L s2.heap (setP 158 (tabObj ps') news) → TriplesOk ps'.toList → AllBare s2.gens → s2.os = s.os → Q (.str (txt (wit hs 0 (bl body) false)) t) s2) := by
  w_top off
  intro p loose mean mg mb cn cs a ccd cl outer A₀ base h₀ L m news s Q E ps B F X N T hk G hm ht ⟨hm1, hm2⟩ hret
  replace N : News h₀ L s.heap ((x, instObj 914 d) :: (d, dictOf [⟨PyData.keyHash w.params (PySem.Str.ofString "data"), .str (PySem.Str.ofString "data") t1, .bytes D t2⟩] 1) :: news) := List.forall_mem_cons.mpr ⟨N _ hm1, List.forall_mem_cons.mpr ⟨N _ hm2, N⟩⟩
  have hs9 : D.size = 22 := by subst hD; simp only [Array.size_append, hb]; rfl
  have hc1 : KBy.picked D none (some 2) = #[0, 20] := cut_head (r := body) hD rfl
  have hc2 : KBy.picked D (some 2) none = body := cut_rest hD rfl
  have hc3 : (KBw.bInts D).getD 0 0 = 0 := bInts_first hD
  ktn_end [("self", Value.ref x), ("network", Value.ref net)]
  walk_at "mine upto"
  refine' lower (enc_does (hs := hs) (b := body) (ver := 0) (mk := false) hhs.1 hhs.2.1 ?g1 hhs.2.2 ?g2 _ _ _ _ _ _ _ _ _ _ _ _ _ _ _ _ _ _ _ _ _ ?kB ?kF ?kX ?kN ?kT ?kK ?kG hm ht trivial ?kR) ?h1 ?h2 ?h3 ?h4 ?h5
  case g1 => exact Or.inl hb
  case g2 => exact Or.inl ⟨rfl, rfl⟩
  case h3 => exact rfl
  case h1 => exact rfl
  case h2 => exact Nat.le_of_ble_eq_true rfl
  case h4 => exact rfl
  case h5 => exact Nat.le_of_ble_eq_true rfl
  case kB => k_asm
  case kF => k_asm
  case kX => k_asm
  case kN =>
    (with_reducible rename News _ _ _ _ => N9)
    refine cb_drop N9 ?_
    intro p hp
    repeat (first | exact hp | refine List.Mem.tail _ ?_)
  case kT => k_asm
  case kK => exact rfl
  case kG => exact G
  dsimp only
  intro t4 s2 ps2 F2 N2 ht2 G2 os2
  try k_fold
  k_steps
  exact hret _ _ ps2 (by assumption) (by assumption) ht2 (by assumption) os2
set_option maxHeartbeats 1500000 in
theorem addr_wsh {prog : Program} {w : World} {x d net : Addr} {D body : Array UInt8} {hs : List Nat} {t1 t2 t3 : Tok} (hD : D = #[0, 32] ++ body) (hb : body.size = 32) (hhs : (∀ k ∈ hs, 33 ≤ k ∧ k < 127 ∧ ¬ (65 ≤ k ∧ k ≤ 90) ∧ k ≠ 49) ∧ 1 ≤ hs.length ∧ hs.length ≤ 10) (hi : ItemAt w.params (MineB.hd.heap_39 w.params) net (PySem.Str.ofString "bech32") (.str (txt hs) t3)) :
    DoesG prog w (MineB.hd.heap_39 w.params) 158 none 850 8500 849 [.ref x, .ref net] (fun _ _ _ _ news => (x, instObj 914 d) ∈ news ∧ (d, dictOf [⟨PyData.keyHash w.params (PySem.Str.ofString "data"), .str (PySem.Str.ofString "data") t1, .bytes D t2⟩] 1) ∈ news)
      (fun h₀ L m news s Q _ => ∀ (t : Tok) (s2 : Shared) (ps' : Array Value), Fr h₀ L s2.heap m → News h₀ L s2.heap (setP 158 (tabObj ps') news) → TriplesOk ps'.toList → AllBare s2.gens → s2.os = s.os → Q (.str (txt (wit hs 0 (bl body) false)) t) s2) := by
  w_top off
  intro p loose mean mg mb cn cs a ccd cl outer A₀ base h₀ L m news s Q E ps B F X N T hk G hm ht ⟨hm1, hm2⟩ hret
  replace N : News h₀ L s.heap ((x, instObj 914 d) :: (d, dictOf [⟨PyData.keyHash w.params (PySem.Str.ofString "data"), .str (PySem.Str.ofString "data") t1, .bytes D t2⟩] 1) :: news) := List.forall_mem_cons.mpr ⟨N _ hm1, List.forall_mem_cons.mpr ⟨N _ hm2, N⟩⟩
  have hs9 : D.size = 34 := by subst hD; simp only [Array.size_append, hb]; rfl
  have hc1 : KBy.picked D none (some 2) = #[0, 32] := cut_head (r := body) hD rfl
  have hc2 : KBy.picked D (some 2) none = body := cut_rest hD rfl
  have hc3 : (KBw.bInts D).getD 0 0 = 0 := bInts_first hD
  ktn_end [("self", Value.ref x), ("network", Value.ref net)]
  walk_at "mine upto"
  refine' lower (enc_does (hs := hs) (b := body) (ver := 0) (mk := false) hhs.1 hhs.2.1 ?g1 hhs.2.2 ?g2 _ _ _ _ _ _ _ _ _ _ _ _ _ _ _ _ _ _ _ _ _ ?kB ?kF ?kX ?kN ?kT ?kK ?kG hm ht trivial ?kR) ?h1 ?h2 ?h3 ?h4 ?h5
  case g1 => exact Or.inr hb
  case g2 => exact Or.inl ⟨rfl, rfl⟩
  case h3 => exact rfl
  case h1 => exact rfl
  case h2 => exact Nat.le_of_ble_eq_true rfl
  case h4 => exact rfl
  case h5 => exact Nat.le_of_ble_eq_true rfl
  case kB => k_asm
  case kF => k_asm
  case kX => k_asm
  case kN =>
    (with_reducible rename News _ _ _ _ => N9)
    refine cb_drop N9 ?_
    intro p hp
    repeat (first | exact hp | refine List.Mem.tail _ ?_)
  case kT => k_asm
  case kK => exact rfl
  case kG => exact G
  dsimp only
  intro t4 s2 ps2 F2 N2 ht2 G2 os2
  try k_fold
  k_steps
  exact hret _ _ ps2 (by assumption) (by assumption) ht2 (by assumption) os2
set_option maxHeartbeats 1500000 in
theorem addr_wtr {prog : Program} {w : World} {x d net : Addr} {D body : Array UInt8} {hs : List Nat} {t1 t2 t3 : Tok} (hD : D = #[81, 32] ++ body) (hb : body.size = 32) (hhs : (∀ k ∈ hs, 33 ≤ k ∧ k < 127 ∧ ¬ (65 ≤ k ∧ k ≤ 90) ∧ k ≠ 49) ∧ 1 ≤ hs.length ∧ hs.length ≤ 10) (hi : ItemAt w.params (MineB.hd.heap_39 w.params) net (PySem.Str.ofString "bech32") (.str (txt hs) t3)) :
    DoesG prog w (MineB.hd.heap_39 w.params) 158 none 850 8500 849 [.ref x, .ref net] (fun _ _ _ _ news => (x, instObj 914 d) ∈ news ∧ (d, dictOf [⟨PyData.keyHash w.params (PySem.Str.ofString "data"), .str (PySem.Str.ofString "data") t1, .bytes D t2⟩] 1) ∈ news)
      (fun h₀ L m news s Q _ => ∀ (t : Tok) (s2 : Shared) (ps' : Array Value), Fr h₀ L s2.heap m → News h₀ L s2.heap (setP 158 (tabObj ps') news) → TriplesOk ps'.toList → AllBare s2.gens → s2.os = s.os → Q (.str (txt (wit hs 1 (bl body) true)) t) s2) := by
  w_top off
  intro p loose mean mg mb cn cs a ccd cl outer A₀ base h₀ L m news s Q E ps B F X N T hk G hm ht ⟨hm1, hm2⟩ hret
  replace N : News h₀ L s.heap ((x, instObj 914 d) :: (d, dictOf [⟨PyData.keyHash w.params (PySem.Str.ofString "data"), .str (PySem.Str.ofString "data") t1, .bytes D t2⟩] 1) :: news) := List.forall_mem_cons.mpr ⟨N _ hm1, List.forall_mem_cons.mpr ⟨N _ hm2, N⟩⟩
  have hs9 : D.size = 34 := by subst hD; simp only [Array.size_append, hb]; rfl
  have hc1 : KBy.picked D none (some 2) = #[81, 32] := cut_head (r := body) hD rfl
  have hc2 : KBy.picked D (some 2) none = body := cut_rest hD rfl
  have hc3 : (KBw.bInts D).getD 0 0 = 81 := bInts_first hD
  ktn_end [("self", Value.ref x), ("network", Value.ref net)]
  walk_at "mine upto"
  refine' lower (enc_does (hs := hs) (b := body) (ver := 1) (mk := true) hhs.1 hhs.2.1 ?g1 hhs.2.2 ?g2 _ _ _ _ _ _ _ _ _ _ _ _ _ _ _ _ _ _ _ _ _ ?kB ?kF ?kX ?kN ?kT ?kK ?kG hm ht trivial ?kR) ?h1 ?h2 ?h3 ?h4 ?h5
  case g1 => exact Or.inr hb
  case g2 => exact Or.inr ⟨rfl, rfl⟩
  case h3 => exact rfl
  case h1 => exact rfl
  case h2 => exact Nat.le_of_ble_eq_true rfl
  case h4 => exact rfl
  case h5 => exact Nat.le_of_ble_eq_true rfl
  case kB => k_asm
  case kF => k_asm
  case kX => k_asm
  case kN =>
    (with_reducible rename News _ _ _ _ => N9)
    refine cb_drop N9 ?_
    intro p hp
    repeat (first | exact hp | refine List.Mem.tail _ ?_)
  case kT => k_asm
  case kK => exact rfl
  case kG => exact G
  dsimp only
  intro t4 s2 ps2 F2 N2 ht2 G2 os2
  try k_fold
  k_steps
  exact hret _ _ ps2 (by assumption) (by assumption) ht2 (by assumption) os2
end
section
theorem anewS15 : True ∧ True := by first | (walk1; done) | exact ⟨trivial, trivial⟩
local macro_rules | `(tactic| walk_at "mine calls") => `(tactic| repeat' ((fail_if_success (with_reducible show wpAny _ _ (call (Value.ref 954) _) _ _ _)); (fail_if_success (with_reducible show wpAny _ _ (call (Value.ref 849) _) _ _ _)); first | (k_unfold; (try dsimp only)) | walk1 | (dsimp only; walk1)))
local macro_rules | `(tactic| walk_at "call builtin:len") => `(tactic| ((with_reducible show wpAny _ _ (call (Value.builtin "len") [Value.str _ _]) _ _ _); k_dflt (refine len_txtE (by assumption) (by omega) ?_); intro _ _))
local macro_rules | `(tactic| walk_at "subscriptTail Name Constant str int") => `(tactic| ((with_reducible show wpAny _ _ (subscriptTail _ _ (Value.str (txt (_ :: _)) _) (Value.int 0 _)) _ _ _); k_dflt (refine item_first (by omega) ?_); intro _ _))
local macro_rules | `(tactic| walk_at "compareOp Eq str str") => `(tactic| (k_here; (with_reducible refine eq_txtE (by decide +kernel) ?_)))
local macro_rules | `(tactic| walk_at "compareOp In str str") => `(tactic| (k_here; (with_reducible refine in_txtE (by decide +kernel) ?_)))
set_option maxHeartbeats 1500000 in
theorem hash_does {prog : Program} {w : World} {net : Addr} {low : Nat} {pl number : Int} {hs : List Nat} {t1 t2 : Tok} (hn : NetIs w.params (MineB.hd.heap_39 w.params) net low hs) (hpl : low = 0 ∧ pl = 0 ∨ low = 1 ∧ pl = 1) :
    Does prog w (MineB.hd.heap_39 w.params) none 870 8700 982 [.ref net, .int pl t1, .int number t2] (fun _ _ _ _ news => True)
      (fun h₀ L m news s Q _ => ∀ (h' : Heap) (tk' : Nat), Fr h₀ L h' m → News h₀ L h' news → Q (.bool true) { s with heap := h', toks := tk' }) := by
  w_top off
  intro p loose mean mg mb cn cs a ccd cl outer A₀ base h₀ L m news s Q E B F X N T hk _ hret
  obtain ⟨wif, pkh, sh, t3, t4, t5, t6, hz1, hz2, hz3, hi1, hi2, hi3, hi4, hf⟩ := hn.few
  ktn_end [("net", Value.ref net), ("place", Value.int pl t1), ("number", Value.int number t2)]
  walk_at "mine calls"
  ktr_call (body_does (n := 20) (by decide)) trivial
  rename (Array.size _ = 20) => hb
  try k_fold
  walk_at "mine calls"
  ktr_call (addr_pkh rfl hb hz2 hi2) ⟨by walk_at "mine mem", by walk_at "mine mem"⟩
  obtain ⟨l1, c1, r1, hc1, e1⟩ := hf.one _ hb
  rw [e1] at l1 ⊢; clear e1
  try k_fold
  walk_at "mine calls"
  ktr_call (addr_sh rfl hb hz3 hi3) ⟨by walk_at "mine mem", by walk_at "mine mem"⟩
  obtain ⟨l2, r2, e2⟩ := hf.other _ hb
  rw [e2] at l2 ⊢; clear e2
  obtain ⟨n1, en1, l1⟩ := len_some l1
  obtain ⟨n2, en2, l2⟩ := len_some l2
  try k_fold
  rcases hpl with ⟨rfl, rfl⟩ | ⟨rfl, rfl⟩
  · simp only [if_true] at hc1
    subst hc1
    rw [if_pos rfl] at en2 ⊢
    walk_at "mine calls"
    exact hret _ _ (by assumption) (by walk_at "mine led")
  · rw [if_neg (by decide)] at hc1 en2 ⊢
    rcases hc1 with rfl | rfl
    all_goals (walk_at "mine calls"; exact hret _ _ (by assumption) (by walk_at "mine led"))
end
section
theorem anewS17 : True ∧ True := by first | (walk1; done) | exact ⟨trivial, trivial⟩
local macro_rules | `(tactic| walk_at "mine calls") => `(tactic| repeat' ((fail_if_success (with_reducible show wpAny _ _ (call (Value.ref 954) _) _ _ _)); (fail_if_success (with_reducible show wpAny _ _ (call (Value.ref 108) _) _ _ _)); first | (k_unfold; (try dsimp only)) | walk1 | (dsimp only; walk1)))
local macro_rules | `(tactic| walk_at "subscriptTail") => `(tactic| ((with_reducible show wpAny _ _ (subscriptTail _ _ (Value.ref _) (Value.str _ _)) _ _ _); k_dflt (refine netItem (by k_asm) (by k_asm) (by assumption) ?_ (by with_unfolding_all rfl)); intro _))
local macro_rules | `(tactic| walk_at "subscriptTail Name Constant str int") => `(tactic| ((with_reducible show wpAny _ _ (subscriptTail _ _ (Value.str (txt (_ :: _)) _) (Value.int 0 _)) _ _ _); k_dflt (refine item_first (by omega) ?_); intro _ _))
local macro_rules | `(tactic| walk_at "compareOp Eq str str") => `(tactic| (k_here; (with_reducible refine eq_txtE (by decide +kernel) ?_)))
local macro_rules | `(tactic| walk_at "compareOp In str str") => `(tactic| (k_here; (with_reducible refine in_txtE (by decide +kernel) ?_)))
set_option maxHeartbeats 1500000 in
theorem secret_does {prog : Program} {w : World} {net : Addr} {low : Nat} {pl number : Int} {hs : List Nat} {t1 t2 : Tok} (hn : NetIs w.params (MineB.hd.heap_39 w.params) net low hs) (hpl : low = 0 ∧ pl = 0 ∨ low = 1 ∧ pl = 1) :
    Does prog w (MineB.hd.heap_39 w.params) none 870 8700 975 [.ref net, .int pl t1, .int number t2] (fun _ _ _ _ news => True)
      (fun h₀ L m news s Q _ => ∀ (h' : Heap) (tk' : Nat), Fr h₀ L h' m → News h₀ L h' news → Q (.bool true) { s with heap := h', toks := tk' }) := by
  w_top off
  intro p loose mean mg mb cn cs a ccd cl outer A₀ base h₀ L m news s Q E B F X N T hk _ hret
  obtain ⟨wif, pkh, sh, t3, t4, t5, t6, hz1, hz2, hz3, hi1, hi2, hi3, hi4, hf⟩ := hn.few
  ktn_end [("net", Value.ref net), ("place", Value.int pl t1), ("number", Value.int number t2)]
  walk_at "mine calls"
  ktr_call (body_does (n := 32) (by decide)) trivial
  rename (Array.size _ = 32) => hb
  try k_fold
  walk_at "mine calls"
  ktr_call (encchk_does (by rw [Array.size_append]; omega)) trivial
  obtain ⟨c1, r1, hc1, e1, l1⟩ := plain_at hf hz1 hb
  rw [e1]; clear e1 hb
  try k_fold
  walk_at "mine calls"
  ktr_call (body_does (n := 32) (by decide)) trivial
  rename (Array.size _ = 32) => hb
  try k_fold
  walk_at "mine calls"
  ktr_call (encchk_does (by rw [Array.size_append, Array.size_append, hb, hz1]; decide)) trivial
  obtain ⟨c2, r2, hc2, e2, l2⟩ := packed_at hf hz1 hb
  rw [e2]; clear e2 hb
  try k_fold
  rcases hpl with ⟨rfl, rfl⟩ | ⟨rfl, rfl⟩
  · rw [if_pos rfl] at hc1 hc2
    subst hc1
    rcases hc2 with rfl | rfl
    all_goals (walk_at "mine calls"; exact hret _ _ (by assumption) (by walk_at "mine led"))
  · rw [if_neg (show ¬ (1 : Nat) = 0 by decide)] at hc1 hc2
    subst hc1
    subst hc2
    walk_at "mine calls"
    exact hret _ _ (by assumption) (by walk_at "mine led")
end
section
theorem anewS22 : True ∧ True := by first | (walk1; done) | exact ⟨trivial, trivial⟩
set_option maxHeartbeats 400000 in
theorem fronts_does {prog : Program} {w : World} :
    Does prog w (MineB.hd.heap_39 w.params) none 900 9000 926 [] (fun _ _ _ _ news => True)
      (fun h₀ L m news s Q _ => ∀ (h' : Heap) (tk' : Nat) (q : Addr) (o : Obj) (u1 u2 u3 u4 u5 u6 u7 u8 u9 u10 : Tok), Fr h₀ L h' m → News h₀ L h' ((q, o) :: news) → (∀ p ∈ news, p.1 < q) → o.IsDictOf (PySem.strKind prog w) [(PySem.Str.ofString "xprv", Value.str (PySem.Str.ofString "tprv") u1), (PySem.Str.ofString "xpub", Value.str (PySem.Str.ofString "tpub") u2), (PySem.Str.ofString "yprv", Value.str (PySem.Str.ofString "uprv") u3), (PySem.Str.ofString "zprv", Value.str (PySem.Str.ofString "vprv") u4), (PySem.Str.ofString "Yprv", Value.str (PySem.Str.ofString "Uprv") u5), (PySem.Str.ofString "Zprv", Value.str (PySem.Str.ofString "Vprv") u6), (PySem.Str.ofString "ypub", Value.str (PySem.Str.ofString "upub") u7), (PySem.Str.ofString "zpub", Value.str (PySem.Str.ofString "vpub") u8), (PySem.Str.ofString "Ypub", Value.str (PySem.Str.ofString "Upub") u9), (PySem.Str.ofString "Zpub", Value.str (PySem.Str.ofString "Vpub") u10)] → Q (.ref q) { s with heap := h', toks := tk' }) := by
  w_top off
  intro p loose mean mg mb cn cs a ccd cl outer A₀ base h₀ L m news s Q E B F X N T hk _ hret
  ktn_end ([] : List (Str × Value))
  walk_at "mine steps"
  exact hret _ _ _ _ _ _ _ _ _ _ _ _ _ _ (by assumption) (by assumption) (by assumption) (by assumption)
end
section
theorem anewS18 : True ∧ True := by first | (walk1; done) | exact ⟨trivial, trivial⟩
local macro_rules | `(tactic| walk_at "mine calls") => `(tactic| repeat' ((fail_if_success (with_reducible show wpAny _ _ (pyIter _) _ _ _)); (fail_if_success (with_reducible show wpAny _ _ (exec (Stmt.For _ _ _ _ _) _) _ _ _)); (fail_if_success (with_reducible show wpAny _ _ (call (Value.ref 926) _) _ _ _)); (fail_if_success (with_reducible show wpAny _ _ (call (Value.ref 954) _) _ _ _)); (fail_if_success (with_reducible show wpAny _ _ (call (Value.ref 108) _) _ _ _)); first | (k_unfold; (try dsimp only)) | walk1 | (dsimp only; walk1)))
local macro_rules | `(tactic| walk_at "subscriptTail") => `(tactic| ((with_reducible show wpAny _ _ (subscriptTail _ _ (Value.ref _) (Value.str _ _)) _ _ _); k_dflt (refine netItem (by k_asm) (by k_asm) (by assumption) ?_ (by with_unfolding_all rfl)); intro _))
local macro_rules | `(tactic| walk_at "subscriptTail Name Slice str ref") => `(tactic| ((with_reducible show wpAny _ _ (subscriptTail _ (Expr.Slice none (some _) none _) (Value.str _ _) (Value.ref _)) _ _ _); (with_reducible rename Fr _ _ _ _ => F'); (with_reducible rename News _ _ _ _ => N'); k_dflt (refine cut_to (n := 4) (s := ⟨_, _, _, _, _⟩) F' N' rfl (by rw [List.length_append]; omega) (by omega) (take_name (by assumption)) ?_ (by with_unfolding_all rfl) (by intro _; with_unfolding_all rfl)); intro _ _ _ _ _))
local macro_rules | `(tactic| walk_at "compareOp NotEq str str") => `(tactic| (k_here; (with_reducible refine ne_txtE (by assumption) ?_)))
local macro_rules | `(tactic| walk_at "subscriptTail") => `(tactic| ((with_reducible show wpAny _ _ (subscriptTail _ _ (Value.ref _) (Value.str (List.getD _ _ _) _)) _ _ _); (with_reducible rename News _ _ _ _ => N9); k_dflt (refine item_front (by assumption) (by assumption) N9 (by walk_at "mine mem") ?_ (by with_unfolding_all rfl)); intro _ _))
local macro_rules | `(tactic| walk_at "subscriptTail") => `(tactic| ((with_reducible show wpAny _ _ (subscriptTail _ _ (Value.ref _) (Value.str _ _)) _ _ _); k_dflt (refine netItem (by k_asm) (by k_asm) (by assumption) ?_ (by with_unfolding_all rfl)); intro _))
set_option maxHeartbeats 1500000 in
theorem key_does {prog : Program} {w : World} {net : Addr} {low : Nat} {pl number : Int} {hs : List Nat} {t1 t2 : Tok} (hn : NetIs w.params (MineB.hd.heap_39 w.params) net low hs) (hpl : low = 0 ∧ pl = 0 ∨ low = 1 ∧ pl = 1) :
    Does prog w (MineB.hd.heap_39 w.params) none 870 8700 968 [.ref net, .int pl t1, .int number t2] (fun _ _ _ _ news => True)
      (fun h₀ L m news s Q _ => ∀ (h' : Heap) (tk' : Nat), Fr h₀ L h' m → News h₀ L h' news → Q (.bool true) { s with heap := h', toks := tk' }) := by
  w_top off
  intro p loose mean mg mb cn cs a ccd cl outer A₀ base h₀ L m news s Q E B F X N T hk _ hret
  ktn_end [("net", Value.ref net), ("place", Value.int pl t1), ("number", Value.int number t2)]
  walk_at "mine calls"
  (with_reducible rename Fr _ _ _ _ => F1)
  (with_reducible rename News _ _ _ _ => N1)
  refine For_invVF F1 rfl rfl ?_ (by intro _; rfl) PassesOwn.leaving
  walk_at "mine calls"
  (with_reducible rename Fr _ _ _ _ => F6)
  (with_reducible rename News _ _ _ _ => N6)
  (with_reducible rename IsRange _ _ _ _ _ _ _ _ => R6)
  obtain ⟨n, en, hn8⟩ := turns_of number
  refine forR0 (σ := Unit) (n := n) F6 N6 R6 en (by omega) rfl (fun _ => []) ["pick", "name", "text"] (fun _ _ => True) () (List.forall_mem_nil _) trivial ?_ ?_
  · rintro ⟨⟩ pre2 ti u7 h7 tk7 own2 hlt ho2 _ F7 N7
    dsimp only [kstB] at F7 N7
    clear F6 N6
    try k_fold
    obtain ⟨v, tv, name, hz, hi, hnm, hnl, hbody⟩ := key_at hn (number.fdiv 4 + 3 * (pre2.length : Int))
    have hj : ((number.fdiv 4 + 3 * (pre2.length : Int)).fmod 10).toNat < 10 := by have := place10 (number.fdiv 4 + 3 * (pre2.length : Int)); omega
    walk_at "mine calls"
    ktr_call (body_does (n := 74) (by decide)) trivial
    rename (Array.size _ = 74) => hb
    try k_fold
    walk_at "mine calls"
    ktr_call (encchk_does (by rw [Array.size_append]; omega)) trivial
    obtain ⟨rest, e, l3⟩ := hbody _ hb
    rw [e]; clear e hbody
    try k_fold
    rcases hpl with ⟨rfl, rfl⟩ | ⟨rfl, rfl⟩
    · rw [if_pos rfl] at hnm
      walk_at "mine calls"
    · rw [if_neg (show ¬ (1 : Nat) = 0 by decide)] at hnm
      have hnm : txt name = txt (frontsL.getD ((number.fdiv 4 + 3 * (pre2.length : Int)).fmod 10).toNat []) := by rw [hnm]
      walk_at "mine calls"
      ktr_call fronts_does trivial
      try k_fold
      walk_at "mine calls"
  · rintro ⟨⟩ u7 h7 tk7 _ F7 N7
    dsimp only [kstB] at F7 N7
    clear F6 N6
    try k_fold
    walk_at "mine calls"
    exact hret _ _ (by assumption) (by walk_at "mine led")
end
section
theorem anewS23 : True ∧ True := by first | (walk1; done) | exact ⟨trivial, trivial⟩
local macro_rules | `(tactic| walk_at "mine calls") => `(tactic| repeat' ((fail_if_success (with_reducible show wpAny _ _ (call (Value.ref 954) _) _ _ _)); (fail_if_success (with_reducible show wpAny _ _ (call (Value.ref 849) _) _ _ _)); first | (k_unfold; (try dsimp only)) | walk1 | (dsimp only; walk1)))
local macro_rules | `(tactic| walk_at "call builtin:len") => `(tactic| ((with_reducible show wpAny _ _ (call (Value.builtin "len") [Value.str _ _]) _ _ _); k_dflt (refine len_txtE (by assumption) (by omega) ?_); intro _ _))
local macro_rules | `(tactic| walk_at "subscriptTail") => `(tactic| ((with_reducible show wpAny _ _ (subscriptTail _ _ (Value.ref _) (Value.str _ _)) _ _ _); k_dflt (refine netItem (by k_asm) (by k_asm) (by assumption) ?_ (by with_unfolding_all rfl)); intro _))
local macro_rules | `(tactic| walk_at "subscriptTail Name Slice bytes ref") => `(tactic| ((with_reducible rename Fr _ _ _ _ => F'); (with_reducible rename News _ _ _ _ => N'); k_dflt (refine bcutE (s := ⟨_, _, _, _, _⟩) F' N' (by constructor) (by constructor) (by omega) (by assumption) ?_); intro _ _ _ _ _))
local macro_rules | `(tactic| walk_at "subscriptTail Name Slice str ref") => `(tactic| ((with_reducible show wpAny _ _ (subscriptTail _ (Expr.Slice none (some _) none _) (Value.str _ _) (Value.ref _)) _ _ _); (with_reducible rename Fr _ _ _ _ => F'); (with_reducible rename News _ _ _ _ => N'); k_dflt (refine' cut_to (s := ⟨_, _, _, _, _⟩) F' N' ?hi ?hn ?hz ?hr ?_ (by with_unfolding_all rfl) (by intro _; with_unfolding_all rfl); (case hr => assumption); (case hi => omega); (case hn => omega); (case hz => omega)); intro _ _ _ _ _))
local macro_rules | `(tactic| walk_at "compareOp Eq int int") => `(tactic| (k_here; (with_reducible refine eq_intE ?hq ?_); (case hq => omega)))
local macro_rules | `(tactic| walk_at "compareOp NotEq str str") => `(tactic| (with_reducible refine ne_same ?_))
local macro_rules | `(tactic| walk_at "binaryOp Add str str") => `(tactic| (k_dflt (first | refine add_txtE rfl one_str (by walk_at "mine len") ?_ | refine add_txtE rfl q_str (by walk_at "mine len") ?_ | refine add_txtE rfl p_str (by walk_at "mine len") ?_); intro _ _))
set_option maxHeartbeats 1500000 in
theorem witness_does {prog : Program} {w : World} {net : Addr} {low : Nat} {number : Int} {hs : List Nat} {t2 : Tok} (hn : NetIs w.params (MineB.hd.heap_39 w.params) net low hs) :
    DoesG prog w (MineB.hd.heap_39 w.params) 158 none 840 8400 989 [.ref net, .int number t2] (fun _ _ _ _ news => True)
      (fun h₀ L m news s Q _ => ∀ (s2 : Shared) (ps' : Array Value), Fr h₀ L s2.heap m → News h₀ L s2.heap (setP 158 (tabObj ps') news) → TriplesOk ps'.toList → AllBare s2.gens → s2.os = s.os → Q (.bool true) s2) := by
  w_top off
  intro p loose mean mg mb cn cs a ccd cl outer A₀ base h₀ L m news s Q E ps B F X N T hk G hm ht _ hret
  obtain ⟨wif, pkh, sh, t3, t4, t5, t6, hz1, hz2, hz3, hi1, hi2, hi3, hi4, hf⟩ := hn.few
  have hhs := hn.hs
  obtain ⟨hhs1, hhs2, hhs3⟩ := hn.hs
  ktn_end [("net", Value.ref net), ("number", Value.int number t2)]
  walk_at "mine calls"
  ktr_call (body_does (n := 32) (by decide)) trivial
  rename (Array.size _ = 32) => hb
  rename Array UInt8 => bb
  obtain ⟨b20, e20, hb20⟩ := first20 hb
  obtain ⟨n0, hn0⟩ : ∃ n, (hs ++ [49]).length = n := ⟨_, rfl⟩
  have hn1 : n0 = hs.length + 1 := by rw [← hn0, List.length_append, List.length_singleton]
  try k_fold
  walk_at "mine calls"
  refine' lower (addr_wpkh (hs := hs) rfl hb20 hhs hi4 _ _ _ _ _ _ _ _ _ _ _ _ _ _ _ _ _ _ _ _ _ ?kB1 ?kF1 ?kX1 ?kN1 ?kT1 ?kK1 ?kG1 ?km1 ?kt1 ?kp1 ?kR1) ?h11 ?h21 ?h31 ?h41 ?h51
  case h31 => exact rfl
  case h11 => exact rfl
  case h21 => exact Nat.le_of_ble_eq_true rfl
  case h41 => exact rfl
  case h51 => exact Nat.le_of_ble_eq_true rfl
  case kB1 => k_asm
  case kF1 => k_asm
  case kX1 => k_asm
  case kN1 => k_asm
  case kT1 => k_asm
  case kK1 => exact rfl
  case kG1 => exact G
  case kt1 => exact ht
  case km1 => exact List.Mem.tail _ (List.Mem.tail _ hm)
  case kp1 => exact ⟨by walk_at "mine mem", by walk_at "mine mem"⟩
  dsimp only
  intro t41 s21 ps21 F21 N21 ht1 G1 os21
  replace N21 := setP_drop2 N21
  have tk1 := wit_take (hs := hs) (b := bl b20) (ver := 0) (mk := false) (c := 113) (n := n0 + 1) rfl (by omega)
  obtain ⟨m1, em1⟩ : ∃ n, (wit hs 0 (bl b20) false).length = n := ⟨_, rfl⟩
  have el1 : m1 = n0 + 39 := by rw [← em1, wit_len, bl_length]; omega
  try k_fold
  walk_at "mine calls"
  refine' lower (addr_wsh (hs := hs) rfl hb hhs hi4 _ _ _ _ _ _ _ _ _ _ _ _ _ _ _ _ _ _ _ _ _ ?kB2 ?kF2 ?kX2 ?kN2 ?kT2 ?kK2 ?kG2 ?km2 ?kt2 ?kp2 ?kR2) ?h12 ?h22 ?h32 ?h42 ?h52
  case h32 => exact rfl
  case h12 => exact rfl
  case h22 => exact Nat.le_of_ble_eq_true rfl
  case h42 => exact rfl
  case h52 => exact Nat.le_of_ble_eq_true rfl
  case kB2 => k_asm
  case kF2 => k_asm
  case kX2 => k_asm
  case kN2 => k_asm
  case kT2 => k_asm
  case kK2 => exact rfl
  case kG2 => exact G1
  case kt2 => exact ht1
  case km2 => exact List.Mem.tail _ (List.Mem.tail _ (setP_mem hm))
  case kp2 => exact ⟨by walk_at "mine mem", by walk_at "mine mem"⟩
  dsimp only
  intro t42 s22 ps22 F22 N22 ht2 G2 os22
  replace N22 := setP_drop2' N22
  have tk2 := wit_take (hs := hs) (b := bl bb) (ver := 0) (mk := false) (c := 113) (n := n0 + 1) rfl (by omega)
  obtain ⟨m2, em2⟩ : ∃ n, (wit hs 0 (bl bb) false).length = n := ⟨_, rfl⟩
  have el2 : m2 = n0 + 59 := by rw [← em2, wit_len, bl_length]; omega
  try k_fold
  walk_at "mine calls"
  refine' lower (addr_wtr (hs := hs) rfl hb hhs hi4 _ _ _ _ _ _ _ _ _ _ _ _ _ _ _ _ _ _ _ _ _ ?kB3 ?kF3 ?kX3 ?kN3 ?kT3 ?kK3 ?kG3 ?km3 ?kt3 ?kp3 ?kR3) ?h13 ?h23 ?h33 ?h43 ?h53
  case h33 => exact rfl
  case h13 => exact rfl
  case h23 => exact Nat.le_of_ble_eq_true rfl
  case h43 => exact rfl
  case h53 => exact Nat.le_of_ble_eq_true rfl
  case kB3 => k_asm
  case kF3 => k_asm
  case kX3 => k_asm
  case kN3 => k_asm
  case kT3 => k_asm
  case kK3 => exact rfl
  case kG3 => exact G2
  case kt3 => exact ht2
  case km3 => exact List.Mem.tail _ (List.Mem.tail _ (setP_mem hm))
  case kp3 => exact ⟨by walk_at "mine mem", by walk_at "mine mem"⟩
  dsimp only
  intro t43 s23 ps23 F23 N23 ht3 G3 os23
  replace N23 := setP_drop2' N23
  have tk3 := wit_take (hs := hs) (b := bl bb) (ver := 1) (mk := true) (c := 112) (n := n0 + 1) rfl (by omega)
  obtain ⟨m3, em3⟩ : ∃ n, (wit hs 1 (bl bb) true).length = n := ⟨_, rfl⟩
  have el3 : m3 = n0 + 59 := by rw [← em3, wit_len, bl_length]; omega
  try k_fold
  walk_at "mine calls"
  exact hret _ ps23 (by assumption) (by assumption) ht3 (by assumption) (os23.trans (os22.trans os21))
end
section
theorem anewS24 : True ∧ True := by first | (walk1; done) | exact ⟨trivial, trivial⟩
local macro_rules | `(tactic| walk_at "subscriptTail") => `(tactic| ((with_reducible show wpAny _ _ (subscriptTail _ _ (Value.ref _) (Value.str (keyOf _) _)) _ _ _); k_dflt (refine netItem (by k_asm) (by k_asm) (by assumption) ?_ (by with_unfolding_all rfl)); intro _))
local macro_rules | `(tactic| walk_at "getMethod bytes") => `(tactic| (k_here; k_dflt (with_reducible refine hex_method ?_)))
local macro_rules | `(tactic| walk_at "call builtin:bytes.hex") => `(tactic| (k_here; k_dflt (refine hex_call (by assumption) ?_); intro _ _))
local macro_rules | `(tactic| walk_at "compareOp NotEq str str") => `(tactic| (with_reducible refine ne_same ?_))
local macro_rules | `(tactic| walk_at "call builtin:len") => `(tactic| (k_here; (with_reducible show wpAny _ _ (call (Value.builtin "len") [Value.ref _]) _ _ _); k_dflt (refine len_K (k := 15) (by k_asm) (by k_asm) (by assumption) (by assumption) (by assumption) (by assumption) (by decide) rfl ?_); intro _ _))
local macro_rules | `(tactic| walk_at "mine calls") => `(tactic| repeat' ((fail_if_success (with_reducible show wpAny _ _ (pyIter _) _ _ _)); (fail_if_success (with_reducible show wpAny _ _ (exec (Stmt.For _ _ _ _ _) _) _ _ _)); first | (k_unfold; (try dsimp only)) | walk1 | (dsimp only; walk1)))
set_option maxHeartbeats 1500000 in
theorem table_does {prog : Program} {w : World} {t1 : Tok} {net rows : Addr} {pl : Int} (hc : net = 110 ∧ rows = 918 ∧ pl = 0 ∨ net = 111 ∧ rows = 919 ∧ pl = 1 ∨ net = 112 ∧ rows = 919 ∧ pl = 2 ∨ net = 113 ∧ rows = 919 ∧ pl = 3) (ht : TabIs w.params (MineB.hd.heap_39 w.params) net rows) :
    Does prog w (MineB.hd.heap_39 w.params) none 870 8700 961 [.ref net, .int pl t1] (fun _ _ _ _ news => True)
      (fun h₀ L m news s Q _ => ∀ (h' : Heap) (tk' : Nat), Fr h₀ L h' m → News h₀ L h' news → Q (.bool true) { s with heap := h', toks := tk' }) := by
  w_top off
  intro p loose mean mg mb cn cs a ccd cl outer A₀ base h₀ L m news s Q E B F X N T hk _ hret
  obtain ⟨es, nn, hl, hks, hnd, hrow⟩ := ht.ex
  obtain ⟨es9, n9, hl9, hk9, hnd9, hlen9⟩ := ht.len
  ktn_end [("net", Value.ref net), ("place", Value.int pl t1)]
  have hpl : pl = 0 → rows = 918 := by
    rcases hc with ⟨_, rfl, rfl⟩ | ⟨_, rfl, rfl⟩ | ⟨_, rfl, rfl⟩ | ⟨_, rfl, rfl⟩
    · exact fun _ => rfl
    all_goals exact fun h => absurd h (by decide)
  have hpl2 : ¬ pl = 0 → rows = 919 := by
    rcases hc with ⟨_, rfl, rfl⟩ | ⟨_, rfl, rfl⟩ | ⟨_, rfl, rfl⟩ | ⟨_, rfl, rfl⟩
    · exact fun h => absurd rfl h
    all_goals exact fun _ => rfl
  walk_at "mine calls"
  · have hr : rows = 918 := hpl (by assumption)
    subst hr
    (with_reducible rename Fr _ _ _ _ => F1)
    refine For_invVF F1 rfl rfl ?_ (by intro _; rfl) PassesOwn.leaving
    walk_at "mine calls"
    (with_reducible rename Fr _ _ _ _ => F6)
    (with_reducible rename News _ _ _ _ => N6)
    (with_reducible rename Frag.In _ _ => X6)
    refine forKeys0 F6 N6 X6 hl hks hnd rfl rfl ?_ ?_
    · intro e ti h7 tk7 own he ho F7 N7
      clear F6 N6
      obtain ⟨b, tb, ts, hi1, hi2, hz⟩ := hrow e he
      try k_fold
      walk_at "mine calls"
    · intro u h7 tk7 F7 N7
      clear F6 N6
      try k_fold
      rcases hc with ⟨rfl, h8, rfl⟩ | ⟨rfl, h8, rfl⟩ | ⟨rfl, h8, rfl⟩ | ⟨rfl, h8, rfl⟩
      all_goals first
        | exact absurd h8 (by decide)
        | (walk_at "mine calls"; exact hret _ _ (by assumption) (by walk_at "mine led"))
  · have hr : rows = 919 := hpl2 (by assumption)
    subst hr
    (with_reducible rename Fr _ _ _ _ => F1)
    refine For_invVF F1 rfl rfl ?_ (by intro _; rfl) PassesOwn.leaving
    walk_at "mine calls"
    (with_reducible rename Fr _ _ _ _ => F6)
    (with_reducible rename News _ _ _ _ => N6)
    (with_reducible rename Frag.In _ _ => X6)
    refine forKeys0 F6 N6 X6 hl hks hnd rfl rfl ?_ ?_
    · intro e ti h7 tk7 own he ho F7 N7
      clear F6 N6
      obtain ⟨b, tb, ts, hi1, hi2, hz⟩ := hrow e he
      try k_fold
      walk_at "mine calls"
    · intro u h7 tk7 F7 N7
      clear F6 N6
      try k_fold
      rcases hc with ⟨rfl, h8, rfl⟩ | ⟨rfl, h8, rfl⟩ | ⟨rfl, h8, rfl⟩ | ⟨rfl, h8, rfl⟩
      all_goals first
        | exact absurd h8 (by decide)
        | (walk_at "mine calls"; exact hret _ _ (by assumption) (by walk_at "mine led"))
end
section
theorem anewS25 : True ∧ True := by first | (walk1; done) | exact ⟨trivial, trivial⟩
section
variable {w : World}
theorem item_of {P : Params} {K : Frag} {a : Addr} {x : Str} {v : Value} (h : ∃ es n, K.lookup a = some ⟨.type "dict", none, .dict es n, #[]⟩ ∧ KeysLit P es.toList) (e : nsIn K a x = some (some v)) : ItemAt P K a x v :=
  let ⟨es, n, hl, hk⟩ := h
  ⟨es, n, hl, hk, e⟩
theorem tab_row {P : Params} {K : Frag} {net rows : Addr} {k x : Str} {b : Array UInt8} {tb ts : Tok} (h1 : ∃ es n, K.lookup net = some ⟨.type "dict", none, .dict es n, #[]⟩ ∧ KeysLit P es.toList) (h2 : ∃ es n, K.lookup rows = some ⟨.type "dict", none, .dict es n, #[]⟩ ∧ KeysLit P es.toList)
    (e1 : nsIn K net k = some (some (.bytes b tb))) (e2 : nsIn K rows k = some (some (.str x ts))) (e3 : hexS b = x) (e4 : x.length ≤ 1000) : ∃ b tb ts, ItemAt P K net k (.bytes b tb) ∧ ItemAt P K rows k (.str (hexS b) ts) ∧ (hexS b).length ≤ 1000 := by
  subst e3
  exact ⟨b, tb, ts, item_of h1 e1, item_of h2 e2, e4⟩
theorem dict_110 : ∃ es n, (MineB.hd.heap_39 w.params).lookup 110 = some ⟨.type "dict", none, .dict es n, #[]⟩ ∧ KeysLit w.params es.toList := ⟨_, _, by k_is, by k_keys⟩
theorem dict_111 : ∃ es n, (MineB.hd.heap_39 w.params).lookup 111 = some ⟨.type "dict", none, .dict es n, #[]⟩ ∧ KeysLit w.params es.toList := ⟨_, _, by k_is, by k_keys⟩
theorem dict_112 : ∃ es n, (MineB.hd.heap_39 w.params).lookup 112 = some ⟨.type "dict", none, .dict es n, #[]⟩ ∧ KeysLit w.params es.toList := ⟨_, _, by k_is, by k_keys⟩
theorem dict_113 : ∃ es n, (MineB.hd.heap_39 w.params).lookup 113 = some ⟨.type "dict", none, .dict es n, #[]⟩ ∧ KeysLit w.params es.toList := ⟨_, _, by k_is, by k_keys⟩
theorem dict_918 : ∃ es n, (MineB.hd.heap_39 w.params).lookup 918 = some ⟨.type "dict", none, .dict es n, #[]⟩ ∧ KeysLit w.params es.toList := ⟨_, _, by k_is, by k_keys⟩
theorem dict_919 : ∃ es n, (MineB.hd.heap_39 w.params).lookup 919 = some ⟨.type "dict", none, .dict es n, #[]⟩ ∧ KeysLit w.params es.toList := ⟨_, _, by k_is, by k_keys⟩
theorem net_110 : NetIs w.params (MineB.hd.heap_39 w.params) 110 0 [98, 99] where
  few := ⟨#[128], #[0], #[5], _, _, _, _, rfl, rfl, rfl, item_of dict_110 (by k_is), item_of dict_110 (by k_is), item_of dict_110 (by k_is), item_of dict_110 (by rw [show txt [98, 99] = PySem.Str.ofString "bc" by decide +kernel]; k_is), facts_main⟩
  key j hj := match j, hj with
    | 0, _ => ⟨#[4, 136, 173, 228], _, rfl, item_of dict_110 (by rw [show txt (rowsL.getD 0 []) = PySem.Str.ofString "xprv" by decide +kernel]; k_is), by decide +kernel⟩
    | 1, _ => ⟨#[4, 136, 178, 30], _, rfl, item_of dict_110 (by rw [show txt (rowsL.getD 1 []) = PySem.Str.ofString "xpub" by decide +kernel]; k_is), by decide +kernel⟩
    | 2, _ => ⟨#[4, 157, 120, 120], _, rfl, item_of dict_110 (by rw [show txt (rowsL.getD 2 []) = PySem.Str.ofString "yprv" by decide +kernel]; k_is), by decide +kernel⟩
    | 3, _ => ⟨#[4, 178, 67, 12], _, rfl, item_of dict_110 (by rw [show txt (rowsL.getD 3 []) = PySem.Str.ofString "zprv" by decide +kernel]; k_is), by decide +kernel⟩
    | 4, _ => ⟨#[2, 149, 176, 5], _, rfl, item_of dict_110 (by rw [show txt (rowsL.getD 4 []) = PySem.Str.ofString "Yprv" by decide +kernel]; k_is), by decide +kernel⟩
    | 5, _ => ⟨#[2, 170, 122, 153], _, rfl, item_of dict_110 (by rw [show txt (rowsL.getD 5 []) = PySem.Str.ofString "Zprv" by decide +kernel]; k_is), by decide +kernel⟩
    | 6, _ => ⟨#[4, 157, 124, 178], _, rfl, item_of dict_110 (by rw [show txt (rowsL.getD 6 []) = PySem.Str.ofString "ypub" by decide +kernel]; k_is), by decide +kernel⟩
    | 7, _ => ⟨#[4, 178, 71, 70], _, rfl, item_of dict_110 (by rw [show txt (rowsL.getD 7 []) = PySem.Str.ofString "zpub" by decide +kernel]; k_is), by decide +kernel⟩
    | 8, _ => ⟨#[2, 149, 180, 63], _, rfl, item_of dict_110 (by rw [show txt (rowsL.getD 8 []) = PySem.Str.ofString "Ypub" by decide +kernel]; k_is), by decide +kernel⟩
    | 9, _ => ⟨#[2, 170, 126, 211], _, rfl, item_of dict_110 (by rw [show txt (rowsL.getD 9 []) = PySem.Str.ofString "Zpub" by decide +kernel]; k_is), by decide +kernel⟩
  hs := by decide
theorem tab_110 : TabIs w.params (MineB.hd.heap_39 w.params) 110 918 where
  ex := by
    refine ⟨_, _, by k_is, by k_keys, ?_, ?_⟩
    · exact (show List.Nodup [PySem.Str.ofString "wif", PySem.Str.ofString "p2pkh", PySem.Str.ofString "p2sh", PySem.Str.ofString "xprv", PySem.Str.ofString "xpub", PySem.Str.ofString "yprv", PySem.Str.ofString "zprv", PySem.Str.ofString "Yprv", PySem.Str.ofString "Zprv", PySem.Str.ofString "ypub", PySem.Str.ofString "zpub", PySem.Str.ofString "Ypub", PySem.Str.ofString "Zpub"] by decide +kernel)
    refine List.forall_mem_cons.mpr ⟨?_, List.forall_mem_cons.mpr ⟨?_, List.forall_mem_cons.mpr ⟨?_, List.forall_mem_cons.mpr ⟨?_, List.forall_mem_cons.mpr ⟨?_, List.forall_mem_cons.mpr ⟨?_, List.forall_mem_cons.mpr ⟨?_, List.forall_mem_cons.mpr ⟨?_, List.forall_mem_cons.mpr ⟨?_, List.forall_mem_cons.mpr ⟨?_, List.forall_mem_cons.mpr ⟨?_, List.forall_mem_cons.mpr ⟨?_, List.forall_mem_cons.mpr ⟨?_, List.forall_mem_nil _⟩⟩⟩⟩⟩⟩⟩⟩⟩⟩⟩⟩⟩
    · exact tab_row (k := PySem.Str.ofString "wif") (x := PySem.Str.ofString "80") (b := #[128]) dict_110 dict_918 (by k_is) (by k_is) (by decide +kernel) (by decide +kernel)
    · exact tab_row (k := PySem.Str.ofString "p2pkh") (x := PySem.Str.ofString "00") (b := #[0]) dict_110 dict_918 (by k_is) (by k_is) (by decide +kernel) (by decide +kernel)
    · exact tab_row (k := PySem.Str.ofString "p2sh") (x := PySem.Str.ofString "05") (b := #[5]) dict_110 dict_918 (by k_is) (by k_is) (by decide +kernel) (by decide +kernel)
    · exact tab_row (k := PySem.Str.ofString "xprv") (x := PySem.Str.ofString "0488ade4") (b := #[4, 136, 173, 228]) dict_110 dict_918 (by k_is) (by k_is) (by decide +kernel) (by decide +kernel)
    · exact tab_row (k := PySem.Str.ofString "xpub") (x := PySem.Str.ofString "0488b21e") (b := #[4, 136, 178, 30]) dict_110 dict_918 (by k_is) (by k_is) (by decide +kernel) (by decide +kernel)
    · exact tab_row (k := PySem.Str.ofString "yprv") (x := PySem.Str.ofString "049d7878") (b := #[4, 157, 120, 120]) dict_110 dict_918 (by k_is) (by k_is) (by decide +kernel) (by decide +kernel)
    · exact tab_row (k := PySem.Str.ofString "zprv") (x := PySem.Str.ofString "04b2430c") (b := #[4, 178, 67, 12]) dict_110 dict_918 (by k_is) (by k_is) (by decide +kernel) (by decide +kernel)
    · exact tab_row (k := PySem.Str.ofString "Yprv") (x := PySem.Str.ofString "0295b005") (b := #[2, 149, 176, 5]) dict_110 dict_918 (by k_is) (by k_is) (by decide +kernel) (by decide +kernel)
    · exact tab_row (k := PySem.Str.ofString "Zprv") (x := PySem.Str.ofString "02aa7a99") (b := #[2, 170, 122, 153]) dict_110 dict_918 (by k_is) (by k_is) (by decide +kernel) (by decide +kernel)
    · exact tab_row (k := PySem.Str.ofString "ypub") (x := PySem.Str.ofString "049d7cb2") (b := #[4, 157, 124, 178]) dict_110 dict_918 (by k_is) (by k_is) (by decide +kernel) (by decide +kernel)
    · exact tab_row (k := PySem.Str.ofString "zpub") (x := PySem.Str.ofString "04b24746") (b := #[4, 178, 71, 70]) dict_110 dict_918 (by k_is) (by k_is) (by decide +kernel) (by decide +kernel)
    · exact tab_row (k := PySem.Str.ofString "Ypub") (x := PySem.Str.ofString "0295b43f") (b := #[2, 149, 180, 63]) dict_110 dict_918 (by k_is) (by k_is) (by decide +kernel) (by decide +kernel)
    · exact tab_row (k := PySem.Str.ofString "Zpub") (x := PySem.Str.ofString "02aa7ed3") (b := #[2, 170, 126, 211]) dict_110 dict_918 (by k_is) (by k_is) (by decide +kernel) (by decide +kernel)
  len := by
    refine ⟨_, _, by k_is, by k_keys, ?_, rfl⟩
    exact (show List.Nodup [PySem.Str.ofString "name", PySem.Str.ofString "wif", PySem.Str.ofString "p2pkh", PySem.Str.ofString "p2sh", PySem.Str.ofString "bech32", PySem.Str.ofString "xprv", PySem.Str.ofString "xpub", PySem.Str.ofString "yprv", PySem.Str.ofString "zprv", PySem.Str.ofString "Yprv", PySem.Str.ofString "Zprv", PySem.Str.ofString "ypub", PySem.Str.ofString "zpub", PySem.Str.ofString "Ypub", PySem.Str.ofString "Zpub"] by decide +kernel)
theorem net_111 : NetIs w.params (MineB.hd.heap_39 w.params) 111 1 [116, 98] where
  few := ⟨#[239], #[111], #[196], _, _, _, _, rfl, rfl, rfl, item_of dict_111 (by k_is), item_of dict_111 (by k_is), item_of dict_111 (by k_is), item_of dict_111 (by rw [show txt [116, 98] = PySem.Str.ofString "tb" by decide +kernel]; k_is), facts_test⟩
  key j hj := match j, hj with
    | 0, _ => ⟨#[4, 53, 131, 148], _, rfl, item_of dict_111 (by rw [show txt (rowsL.getD 0 []) = PySem.Str.ofString "xprv" by decide +kernel]; k_is), by decide +kernel⟩
    | 1, _ => ⟨#[4, 53, 135, 207], _, rfl, item_of dict_111 (by rw [show txt (rowsL.getD 1 []) = PySem.Str.ofString "xpub" by decide +kernel]; k_is), by decide +kernel⟩
    | 2, _ => ⟨#[4, 74, 78, 40], _, rfl, item_of dict_111 (by rw [show txt (rowsL.getD 2 []) = PySem.Str.ofString "yprv" by decide +kernel]; k_is), by decide +kernel⟩
    | 3, _ => ⟨#[4, 95, 24, 188], _, rfl, item_of dict_111 (by rw [show txt (rowsL.getD 3 []) = PySem.Str.ofString "zprv" by decide +kernel]; k_is), by decide +kernel⟩
    | 4, _ => ⟨#[2, 66, 133, 181], _, rfl, item_of dict_111 (by rw [show txt (rowsL.getD 4 []) = PySem.Str.ofString "Yprv" by decide +kernel]; k_is), by decide +kernel⟩
    | 5, _ => ⟨#[2, 87, 80, 72], _, rfl, item_of dict_111 (by rw [show txt (rowsL.getD 5 []) = PySem.Str.ofString "Zprv" by decide +kernel]; k_is), by decide +kernel⟩
    | 6, _ => ⟨#[4, 74, 82, 98], _, rfl, item_of dict_111 (by rw [show txt (rowsL.getD 6 []) = PySem.Str.ofString "ypub" by decide +kernel]; k_is), by decide +kernel⟩
    | 7, _ => ⟨#[4, 95, 28, 246], _, rfl, item_of dict_111 (by rw [show txt (rowsL.getD 7 []) = PySem.Str.ofString "zpub" by decide +kernel]; k_is), by decide +kernel⟩
    | 8, _ => ⟨#[2, 66, 137, 239], _, rfl, item_of dict_111 (by rw [show txt (rowsL.getD 8 []) = PySem.Str.ofString "Ypub" by decide +kernel]; k_is), by decide +kernel⟩
    | 9, _ => ⟨#[2, 87, 84, 131], _, rfl, item_of dict_111 (by rw [show txt (rowsL.getD 9 []) = PySem.Str.ofString "Zpub" by decide +kernel]; k_is), by decide +kernel⟩
  hs := by decide
theorem tab_111 : TabIs w.params (MineB.hd.heap_39 w.params) 111 919 where
  ex := by
    refine ⟨_, _, by k_is, by k_keys, ?_, ?_⟩
    · exact (show List.Nodup [PySem.Str.ofString "wif", PySem.Str.ofString "p2pkh", PySem.Str.ofString "p2sh", PySem.Str.ofString "xprv", PySem.Str.ofString "xpub", PySem.Str.ofString "yprv", PySem.Str.ofString "zprv", PySem.Str.ofString "Yprv", PySem.Str.ofString "Zprv", PySem.Str.ofString "ypub", PySem.Str.ofString "zpub", PySem.Str.ofString "Ypub", PySem.Str.ofString "Zpub"] by decide +kernel)
    refine List.forall_mem_cons.mpr ⟨?_, List.forall_mem_cons.mpr ⟨?_, List.forall_mem_cons.mpr ⟨?_, List.forall_mem_cons.mpr ⟨?_, List.forall_mem_cons.mpr ⟨?_, List.forall_mem_cons.mpr ⟨?_, List.forall_mem_cons.mpr ⟨?_, List.forall_mem_cons.mpr ⟨?_, List.forall_mem_cons.mpr ⟨?_, List.forall_mem_cons.mpr ⟨?_, List.forall_mem_cons.mpr ⟨?_, List.forall_mem_cons.mpr ⟨?_, List.forall_mem_cons.mpr ⟨?_, List.forall_mem_nil _⟩⟩⟩⟩⟩⟩⟩⟩⟩⟩⟩⟩⟩
    · exact tab_row (k := PySem.Str.ofString "wif") (x := PySem.Str.ofString "ef") (b := #[239]) dict_111 dict_919 (by k_is) (by k_is) (by decide +kernel) (by decide +kernel)
    · exact tab_row (k := PySem.Str.ofString "p2pkh") (x := PySem.Str.ofString "6f") (b := #[111]) dict_111 dict_919 (by k_is) (by k_is) (by decide +kernel) (by decide +kernel)
    · exact tab_row (k := PySem.Str.ofString "p2sh") (x := PySem.Str.ofString "c4") (b := #[196]) dict_111 dict_919 (by k_is) (by k_is) (by decide +kernel) (by decide +kernel)
    · exact tab_row (k := PySem.Str.ofString "xprv") (x := PySem.Str.ofString "04358394") (b := #[4, 53, 131, 148]) dict_111 dict_919 (by k_is) (by k_is) (by decide +kernel) (by decide +kernel)
    · exact tab_row (k := PySem.Str.ofString "xpub") (x := PySem.Str.ofString "043587cf") (b := #[4, 53, 135, 207]) dict_111 dict_919 (by k_is) (by k_is) (by decide +kernel) (by decide +kernel)
    · exact tab_row (k := PySem.Str.ofString "yprv") (x := PySem.Str.ofString "044a4e28") (b := #[4, 74, 78, 40]) dict_111 dict_919 (by k_is) (by k_is) (by decide +kernel) (by decide +kernel)
    · exact tab_row (k := PySem.Str.ofString "zprv") (x := PySem.Str.ofString "045f18bc") (b := #[4, 95, 24, 188]) dict_111 dict_919 (by k_is) (by k_is) (by decide +kernel) (by decide +kernel)
    · exact tab_row (k := PySem.Str.ofString "Yprv") (x := PySem.Str.ofString "024285b5") (b := #[2, 66, 133, 181]) dict_111 dict_919 (by k_is) (by k_is) (by decide +kernel) (by decide +kernel)
    · exact tab_row (k := PySem.Str.ofString "Zprv") (x := PySem.Str.ofString "02575048") (b := #[2, 87, 80, 72]) dict_111 dict_919 (by k_is) (by k_is) (by decide +kernel) (by decide +kernel)
    · exact tab_row (k := PySem.Str.ofString "ypub") (x := PySem.Str.ofString "044a5262") (b := #[4, 74, 82, 98]) dict_111 dict_919 (by k_is) (by k_is) (by decide +kernel) (by decide +kernel)
    · exact tab_row (k := PySem.Str.ofString "zpub") (x := PySem.Str.ofString "045f1cf6") (b := #[4, 95, 28, 246]) dict_111 dict_919 (by k_is) (by k_is) (by decide +kernel) (by decide +kernel)
    · exact tab_row (k := PySem.Str.ofString "Ypub") (x := PySem.Str.ofString "024289ef") (b := #[2, 66, 137, 239]) dict_111 dict_919 (by k_is) (by k_is) (by decide +kernel) (by decide +kernel)
    · exact tab_row (k := PySem.Str.ofString "Zpub") (x := PySem.Str.ofString "02575483") (b := #[2, 87, 84, 131]) dict_111 dict_919 (by k_is) (by k_is) (by decide +kernel) (by decide +kernel)
  len := by
    refine ⟨_, _, by k_is, by k_keys, ?_, rfl⟩
    exact (show List.Nodup [PySem.Str.ofString "name", PySem.Str.ofString "wif", PySem.Str.ofString "p2pkh", PySem.Str.ofString "p2sh", PySem.Str.ofString "bech32", PySem.Str.ofString "xprv", PySem.Str.ofString "xpub", PySem.Str.ofString "yprv", PySem.Str.ofString "zprv", PySem.Str.ofString "Yprv", PySem.Str.ofString "Zprv", PySem.Str.ofString "ypub", PySem.Str.ofString "zpub", PySem.Str.ofString "Ypub", PySem.Str.ofString "Zpub"] by decide +kernel)
theorem net_112 : NetIs w.params (MineB.hd.heap_39 w.params) 112 1 [98, 99, 114, 116] where
  few := ⟨#[239], #[111], #[196], _, _, _, _, rfl, rfl, rfl, item_of dict_112 (by k_is), item_of dict_112 (by k_is), item_of dict_112 (by k_is), item_of dict_112 (by rw [show txt [98, 99, 114, 116] = PySem.Str.ofString "bcrt" by decide +kernel]; k_is), facts_test⟩
  key j hj := match j, hj with
    | 0, _ => ⟨#[4, 53, 131, 148], _, rfl, item_of dict_112 (by rw [show txt (rowsL.getD 0 []) = PySem.Str.ofString "xprv" by decide +kernel]; k_is), by decide +kernel⟩
    | 1, _ => ⟨#[4, 53, 135, 207], _, rfl, item_of dict_112 (by rw [show txt (rowsL.getD 1 []) = PySem.Str.ofString "xpub" by decide +kernel]; k_is), by decide +kernel⟩
    | 2, _ => ⟨#[4, 74, 78, 40], _, rfl, item_of dict_112 (by rw [show txt (rowsL.getD 2 []) = PySem.Str.ofString "yprv" by decide +kernel]; k_is), by decide +kernel⟩
    | 3, _ => ⟨#[4, 95, 24, 188], _, rfl, item_of dict_112 (by rw [show txt (rowsL.getD 3 []) = PySem.Str.ofString "zprv" by decide +kernel]; k_is), by decide +kernel⟩
    | 4, _ => ⟨#[2, 66, 133, 181], _, rfl, item_of dict_112 (by rw [show txt (rowsL.getD 4 []) = PySem.Str.ofString "Yprv" by decide +kernel]; k_is), by decide +kernel⟩
    | 5, _ => ⟨#[2, 87, 80, 72], _, rfl, item_of dict_112 (by rw [show txt (rowsL.getD 5 []) = PySem.Str.ofString "Zprv" by decide +kernel]; k_is), by decide +kernel⟩
    | 6, _ => ⟨#[4, 74, 82, 98], _, rfl, item_of dict_112 (by rw [show txt (rowsL.getD 6 []) = PySem.Str.ofString "ypub" by decide +kernel]; k_is), by decide +kernel⟩
    | 7, _ => ⟨#[4, 95, 28, 246], _, rfl, item_of dict_112 (by rw [show txt (rowsL.getD 7 []) = PySem.Str.ofString "zpub" by decide +kernel]; k_is), by decide +kernel⟩
    | 8, _ => ⟨#[2, 66, 137, 239], _, rfl, item_of dict_112 (by rw [show txt (rowsL.getD 8 []) = PySem.Str.ofString "Ypub" by decide +kernel]; k_is), by decide +kernel⟩
    | 9, _ => ⟨#[2, 87, 84, 131], _, rfl, item_of dict_112 (by rw [show txt (rowsL.getD 9 []) = PySem.Str.ofString "Zpub" by decide +kernel]; k_is), by decide +kernel⟩
  hs := by decide
theorem tab_112 : TabIs w.params (MineB.hd.heap_39 w.params) 112 919 where
  ex := by
    refine ⟨_, _, by k_is, by k_keys, ?_, ?_⟩
    · exact (show List.Nodup [PySem.Str.ofString "wif", PySem.Str.ofString "p2pkh", PySem.Str.ofString "p2sh", PySem.Str.ofString "xprv", PySem.Str.ofString "xpub", PySem.Str.ofString "yprv", PySem.Str.ofString "zprv", PySem.Str.ofString "Yprv", PySem.Str.ofString "Zprv", PySem.Str.ofString "ypub", PySem.Str.ofString "zpub", PySem.Str.ofString "Ypub", PySem.Str.ofString "Zpub"] by decide +kernel)
    refine List.forall_mem_cons.mpr ⟨?_, List.forall_mem_cons.mpr ⟨?_, List.forall_mem_cons.mpr ⟨?_, List.forall_mem_cons.mpr ⟨?_, List.forall_mem_cons.mpr ⟨?_, List.forall_mem_cons.mpr ⟨?_, List.forall_mem_cons.mpr ⟨?_, List.forall_mem_cons.mpr ⟨?_, List.forall_mem_cons.mpr ⟨?_, List.forall_mem_cons.mpr ⟨?_, List.forall_mem_cons.mpr ⟨?_, List.forall_mem_cons.mpr ⟨?_, List.forall_mem_cons.mpr ⟨?_, List.forall_mem_nil _⟩⟩⟩⟩⟩⟩⟩⟩⟩⟩⟩⟩⟩
    · exact tab_row (k := PySem.Str.ofString "wif") (x := PySem.Str.ofString "ef") (b := #[239]) dict_112 dict_919 (by k_is) (by k_is) (by decide +kernel) (by decide +kernel)
    · exact tab_row (k := PySem.Str.ofString "p2pkh") (x := PySem.Str.ofString "6f") (b := #[111]) dict_112 dict_919 (by k_is) (by k_is) (by decide +kernel) (by decide +kernel)
    · exact tab_row (k := PySem.Str.ofString "p2sh") (x := PySem.Str.ofString "c4") (b := #[196]) dict_112 dict_919 (by k_is) (by k_is) (by decide +kernel) (by decide +kernel)
    · exact tab_row (k := PySem.Str.ofString "xprv") (x := PySem.Str.ofString "04358394") (b := #[4, 53, 131, 148]) dict_112 dict_919 (by k_is) (by k_is) (by decide +kernel) (by decide +kernel)
    · exact tab_row (k := PySem.Str.ofString "xpub") (x := PySem.Str.ofString "043587cf") (b := #[4, 53, 135, 207]) dict_112 dict_919 (by k_is) (by k_is) (by decide +kernel) (by decide +kernel)
    · exact tab_row (k := PySem.Str.ofString "yprv") (x := PySem.Str.ofString "044a4e28") (b := #[4, 74, 78, 40]) dict_112 dict_919 (by k_is) (by k_is) (by decide +kernel) (by decide +kernel)
    · exact tab_row (k := PySem.Str.ofString "zprv") (x := PySem.Str.ofString "045f18bc") (b := #[4, 95, 24, 188]) dict_112 dict_919 (by k_is) (by k_is) (by decide +kernel) (by decide +kernel)
    · exact tab_row (k := PySem.Str.ofString "Yprv") (x := PySem.Str.ofString "024285b5") (b := #[2, 66, 133, 181]) dict_112 dict_919 (by k_is) (by k_is) (by decide +kernel) (by decide +kernel)
    · exact tab_row (k := PySem.Str.ofString "Zprv") (x := PySem.Str.ofString "02575048") (b := #[2, 87, 80, 72]) dict_112 dict_919 (by k_is) (by k_is) (by decide +kernel) (by decide +kernel)
    · exact tab_row (k := PySem.Str.ofString "ypub") (x := PySem.Str.ofString "044a5262") (b := #[4, 74, 82, 98]) dict_112 dict_919 (by k_is) (by k_is) (by decide +kernel) (by decide +kernel)
    · exact tab_row (k := PySem.Str.ofString "zpub") (x := PySem.Str.ofString "045f1cf6") (b := #[4, 95, 28, 246]) dict_112 dict_919 (by k_is) (by k_is) (by decide +kernel) (by decide +kernel)
    · exact tab_row (k := PySem.Str.ofString "Ypub") (x := PySem.Str.ofString "024289ef") (b := #[2, 66, 137, 239]) dict_112 dict_919 (by k_is) (by k_is) (by decide +kernel) (by decide +kernel)
    · exact tab_row (k := PySem.Str.ofString "Zpub") (x := PySem.Str.ofString "02575483") (b := #[2, 87, 84, 131]) dict_112 dict_919 (by k_is) (by k_is) (by decide +kernel) (by decide +kernel)
  len := by
    refine ⟨_, _, by k_is, by k_keys, ?_, rfl⟩
    exact (show List.Nodup [PySem.Str.ofString "name", PySem.Str.ofString "wif", PySem.Str.ofString "p2pkh", PySem.Str.ofString "p2sh", PySem.Str.ofString "bech32", PySem.Str.ofString "xprv", PySem.Str.ofString "xpub", PySem.Str.ofString "yprv", PySem.Str.ofString "zprv", PySem.Str.ofString "Yprv", PySem.Str.ofString "Zprv", PySem.Str.ofString "ypub", PySem.Str.ofString "zpub", PySem.Str.ofString "Ypub", PySem.Str.ofString "Zpub"] by decide +kernel)
theorem net_113 : NetIs w.params (MineB.hd.heap_39 w.params) 113 1 [116, 98] where
  few := ⟨#[239], #[111], #[196], _, _, _, _, rfl, rfl, rfl, item_of dict_113 (by k_is), item_of dict_113 (by k_is), item_of dict_113 (by k_is), item_of dict_113 (by rw [show txt [116, 98] = PySem.Str.ofString "tb" by decide +kernel]; k_is), facts_test⟩
  key j hj := match j, hj with
    | 0, _ => ⟨#[4, 53, 131, 148], _, rfl, item_of dict_113 (by rw [show txt (rowsL.getD 0 []) = PySem.Str.ofString "xprv" by decide +kernel]; k_is), by decide +kernel⟩
    | 1, _ => ⟨#[4, 53, 135, 207], _, rfl, item_of dict_113 (by rw [show txt (rowsL.getD 1 []) = PySem.Str.ofString "xpub" by decide +kernel]; k_is), by decide +kernel⟩
    | 2, _ => ⟨#[4, 74, 78, 40], _, rfl, item_of dict_113 (by rw [show txt (rowsL.getD 2 []) = PySem.Str.ofString "yprv" by decide +kernel]; k_is), by decide +kernel⟩
    | 3, _ => ⟨#[4, 95, 24, 188], _, rfl, item_of dict_113 (by rw [show txt (rowsL.getD 3 []) = PySem.Str.ofString "zprv" by decide +kernel]; k_is), by decide +kernel⟩
    | 4, _ => ⟨#[2, 66, 133, 181], _, rfl, item_of dict_113 (by rw [show txt (rowsL.getD 4 []) = PySem.Str.ofString "Yprv" by decide +kernel]; k_is), by decide +kernel⟩
    | 5, _ => ⟨#[2, 87, 80, 72], _, rfl, item_of dict_113 (by rw [show txt (rowsL.getD 5 []) = PySem.Str.ofString "Zprv" by decide +kernel]; k_is), by decide +kernel⟩
    | 6, _ => ⟨#[4, 74, 82, 98], _, rfl, item_of dict_113 (by rw [show txt (rowsL.getD 6 []) = PySem.Str.ofString "ypub" by decide +kernel]; k_is), by decide +kernel⟩
    | 7, _ => ⟨#[4, 95, 28, 246], _, rfl, item_of dict_113 (by rw [show txt (rowsL.getD 7 []) = PySem.Str.ofString "zpub" by decide +kernel]; k_is), by decide +kernel⟩
    | 8, _ => ⟨#[2, 66, 137, 239], _, rfl, item_of dict_113 (by rw [show txt (rowsL.getD 8 []) = PySem.Str.ofString "Ypub" by decide +kernel]; k_is), by decide +kernel⟩
    | 9, _ => ⟨#[2, 87, 84, 131], _, rfl, item_of dict_113 (by rw [show txt (rowsL.getD 9 []) = PySem.Str.ofString "Zpub" by decide +kernel]; k_is), by decide +kernel⟩
  hs := by decide
theorem tab_113 : TabIs w.params (MineB.hd.heap_39 w.params) 113 919 where
  ex := by
    refine ⟨_, _, by k_is, by k_keys, ?_, ?_⟩
    · exact (show List.Nodup [PySem.Str.ofString "wif", PySem.Str.ofString "p2pkh", PySem.Str.ofString "p2sh", PySem.Str.ofString "xprv", PySem.Str.ofString "xpub", PySem.Str.ofString "yprv", PySem.Str.ofString "zprv", PySem.Str.ofString "Yprv", PySem.Str.ofString "Zprv", PySem.Str.ofString "ypub", PySem.Str.ofString "zpub", PySem.Str.ofString "Ypub", PySem.Str.ofString "Zpub"] by decide +kernel)
    refine List.forall_mem_cons.mpr ⟨?_, List.forall_mem_cons.mpr ⟨?_, List.forall_mem_cons.mpr ⟨?_, List.forall_mem_cons.mpr ⟨?_, List.forall_mem_cons.mpr ⟨?_, List.forall_mem_cons.mpr ⟨?_, List.forall_mem_cons.mpr ⟨?_, List.forall_mem_cons.mpr ⟨?_, List.forall_mem_cons.mpr ⟨?_, List.forall_mem_cons.mpr ⟨?_, List.forall_mem_cons.mpr ⟨?_, List.forall_mem_cons.mpr ⟨?_, List.forall_mem_cons.mpr ⟨?_, List.forall_mem_nil _⟩⟩⟩⟩⟩⟩⟩⟩⟩⟩⟩⟩⟩
    · exact tab_row (k := PySem.Str.ofString "wif") (x := PySem.Str.ofString "ef") (b := #[239]) dict_113 dict_919 (by k_is) (by k_is) (by decide +kernel) (by decide +kernel)
    · exact tab_row (k := PySem.Str.ofString "p2pkh") (x := PySem.Str.ofString "6f") (b := #[111]) dict_113 dict_919 (by k_is) (by k_is) (by decide +kernel) (by decide +kernel)
    · exact tab_row (k := PySem.Str.ofString "p2sh") (x := PySem.Str.ofString "c4") (b := #[196]) dict_113 dict_919 (by k_is) (by k_is) (by decide +kernel) (by decide +kernel)
    · exact tab_row (k := PySem.Str.ofString "xprv") (x := PySem.Str.ofString "04358394") (b := #[4, 53, 131, 148]) dict_113 dict_919 (by k_is) (by k_is) (by decide +kernel) (by decide +kernel)
    · exact tab_row (k := PySem.Str.ofString "xpub") (x := PySem.Str.ofString "043587cf") (b := #[4, 53, 135, 207]) dict_113 dict_919 (by k_is) (by k_is) (by decide +kernel) (by decide +kernel)
    · exact tab_row (k := PySem.Str.ofString "yprv") (x := PySem.Str.ofString "044a4e28") (b := #[4, 74, 78, 40]) dict_113 dict_919 (by k_is) (by k_is) (by decide +kernel) (by decide +kernel)
    · exact tab_row (k := PySem.Str.ofString "zprv") (x := PySem.Str.ofString "045f18bc") (b := #[4, 95, 24, 188]) dict_113 dict_919 (by k_is) (by k_is) (by decide +kernel) (by decide +kernel)
    · exact tab_row (k := PySem.Str.ofString "Yprv") (x := PySem.Str.ofString "024285b5") (b := #[2, 66, 133, 181]) dict_113 dict_919 (by k_is) (by k_is) (by decide +kernel) (by decide +kernel)
    · exact tab_row (k := PySem.Str.ofString "Zprv") (x := PySem.Str.ofString "02575048") (b := #[2, 87, 80, 72]) dict_113 dict_919 (by k_is) (by k_is) (by decide +kernel) (by decide +kernel)
    · exact tab_row (k := PySem.Str.ofString "ypub") (x := PySem.Str.ofString "044a5262") (b := #[4, 74, 82, 98]) dict_113 dict_919 (by k_is) (by k_is) (by decide +kernel) (by decide +kernel)
    · exact tab_row (k := PySem.Str.ofString "zpub") (x := PySem.Str.ofString "045f1cf6") (b := #[4, 95, 28, 246]) dict_113 dict_919 (by k_is) (by k_is) (by decide +kernel) (by decide +kernel)
    · exact tab_row (k := PySem.Str.ofString "Ypub") (x := PySem.Str.ofString "024289ef") (b := #[2, 66, 137, 239]) dict_113 dict_919 (by k_is) (by k_is) (by decide +kernel) (by decide +kernel)
    · exact tab_row (k := PySem.Str.ofString "Zpub") (x := PySem.Str.ofString "02575483") (b := #[2, 87, 84, 131]) dict_113 dict_919 (by k_is) (by k_is) (by decide +kernel) (by decide +kernel)
  len := by
    refine ⟨_, _, by k_is, by k_keys, ?_, rfl⟩
    exact (show List.Nodup [PySem.Str.ofString "name", PySem.Str.ofString "wif", PySem.Str.ofString "p2pkh", PySem.Str.ofString "p2sh", PySem.Str.ofString "bech32", PySem.Str.ofString "xprv", PySem.Str.ofString "xpub", PySem.Str.ofString "yprv", PySem.Str.ofString "zprv", PySem.Str.ofString "Yprv", PySem.Str.ofString "Zprv", PySem.Str.ofString "ypub", PySem.Str.ofString "zpub", PySem.Str.ofString "Ypub", PySem.Str.ofString "Zpub"] by decide +kernel)
theorem nets_109 : ∃ es n, (MineB.hd.heap_39 w.params).lookup 109 = some ⟨.type "dict", none, .dict es n, #[]⟩ ∧ KeysLit w.params es.toList ∧ (es.toList.map fun e => keyOf e.key).Nodup ∧ es.toList.length = 4 := by
  refine ⟨_, _, by k_is, by k_keys, ?_, rfl⟩
  exact (show List.Nodup [PySem.Str.ofString "main", PySem.Str.ofString "test", PySem.Str.ofString "regtest", PySem.Str.ofString "signet"] by decide +kernel)
end
end
section
theorem anewS27 : True ∧ True := by first | (walk1; done) | exact ⟨trivial, trivial⟩
set_option maxHeartbeats 1500000 in
theorem number_does {prog : Program} {w : World} {a9 : Addr} {vs : List Value} {ns : List Int} {k : Int} {t : Tok} (hi : IntsAre vs ns) (hlen : ns.length ≤ 63) (hk01 : k = 0 ∨ k = 1 ∨ k = 2) :
    Does prog w (MineB.hd.heap_39 w.params) none 900 9000 947 [.ref a9, .int k t] (fun base _ _ _ _ => base.IsList a9 vs.toArray)
      (fun h₀ L m news s Q _ => ∀ (i : Int) (t : Tok) (h' : Heap) (tk' : Nat), Fr h₀ L h' m → News h₀ L h' news → Q (.int i t) { s with heap := h', toks := tk' }) := by
  w_top off
  intro p loose mean mg mb cn cs a ccd cl outer A₀ base h₀ L m news s Q E B F X N T hk hl hret
  ktn_end [("script", Value.ref a9), ("place", Value.int k t)]
  k_steps
  all_goals exact hret _ _ _ _ (by assumption) (by walk_at "mine led")
end
section
theorem anewS26 : True ∧ True := by first | (walk1; done) | exact ⟨trivial, trivial⟩
local macro_rules | `(tactic| k_behind $G $ho $hd $hcd $hD $hmg $hpre $hlay $hrd $hwl $hlo $cd9) => `(tactic| (
  have X := (Ground.X $G).1
  have V := (Ground.X $G).2
  refine Ground.open $G ?_
  intro T B D TE TW
  try (refine guard_noD D (by decide +kernel) ?_; clear D)
  have $(Lean.mkIdent `hT9) : TabsAt ([(160, 158)] : List (Addr × Addr)) _ := List.forall_mem_cons.mpr ⟨tab_of (x := PySem.Str.ofString "bech32_decode") (c := 160) (P := 158) T (by assumption) rfl (by kernel_rfl), fun _ h => nomatch h⟩
  clear $hmg
  wrow_args $hpre $hlay $hrd $hwl $hlo
  all_goals (
    first | refine callC_kw (enter_call ?_) | refine enter_call ?_
    w_top on
    refine law_end $(Lean.mkIdent `hT9) (raisesW_false ?hn) ?hp ?_
    (case hn => wrow_none_raised)
    (case hp => wrow_post)
    w_call any $ho $hd $hcd $hD T F
    clear $hd
    kn_ghosts F T
    k_drop
    skip)))
local macro_rules | `(tactic| walk_at "call builtin:len") => `(tactic| ((with_reducible show wpAny _ _ (call (Value.builtin "len") [Value.ref 109]) _ _ _); obtain ⟨es, n, hl, hk, hnd, hn⟩ := @nets_109 ‹World›; k_dflt (refine len_K (k := 4) (by k_asm) (by k_asm) hl hk hnd hn (by decide) rfl ?_); intro _ _))
local macro_rules | `(tactic| walk_at "subscriptTail") => `(tactic| ((with_reducible show wpAny _ _ (subscriptTail _ _ (Value.ref 917) (Value.int _ _)) _ _ _); k_dflt (refine' topList_K ?F ?X ?l ?a ?b ?x ?_; (case F => k_asm); (case X => k_asm); (case l => k_is); (case a => decide); (case b => decide); (case x => exact rfl))))
local macro_rules | `(tactic| walk_at "binaryOp Mod int int") => `(tactic| (k_here; k_dflt (refine mod_is (by decide) (by assumption) ?_); intro _ _))
local macro_rules | `(tactic| walk_at "mine calls") => `(tactic| repeat' ((fail_if_success (with_reducible show wpAny _ _ (call (Value.ref _) _) _ _ _)); first | (k_unfold; (try dsimp only)) | walk1 | (dsimp only; walk1)))
set_option maxHeartbeats 1500000 in
theorem law2 : PySem.Challenge.rw_bv5019_02.Holds := MineB.hd (by
  w_strict (
    k_go0
    (all_goals try k_fold)
    (with_reducible rename IntsAre _ _ => hi9)
    walk_at "mine calls"
    ktr_call (number_does hi9 (by omega) (Or.inl rfl)) (by assumption)
    rename Int => n1
    try k_fold
    walk_at "mine calls"
    ktr_call (number_does hi9 (by omega) (Or.inr (Or.inl rfl))) (by assumption)
    rename Int => n2
    try k_fold
    rcases four n1 with h4 | h4 | h4 | h4
    · walk_at "mine calls"
      ktr_call (table_does (Or.inl ⟨rfl, rfl, rfl⟩) tab_110) trivial
      try k_fold
      walk_at "mine calls"
      ktr_call (table_does (Or.inl ⟨rfl, rfl, rfl⟩) tab_110) trivial
      try k_fold
      walk_at "mine calls"
      ktr_call (key_does net_110 (Or.inl ⟨rfl, rfl⟩)) trivial
      try k_fold
      walk_at "mine calls"
      ktr_call (secret_does net_110 (Or.inl ⟨rfl, rfl⟩)) trivial
      try k_fold
      walk_at "mine calls"
      ktr_call (hash_does net_110 (Or.inl ⟨rfl, rfl⟩)) trivial
      try k_fold
      walk_at "mine calls"
      refine' lower (witness_does net_110 _ _ _ _ _ _ _ _ _ _ _ _ _ _ _ _ _ _ _ _ _ ?kB0 ?kF0 ?kX0 ?kN0 ?kT0 ?kK0 ?kG0 ?km0 ?kt0 trivial ?kR0) ?h10 ?h20 ?h30 ?h40 ?h50
      case h30 => exact rfl
      case h10 => exact rfl
      case h20 => exact Nat.le_of_ble_eq_true rfl
      case h40 => exact rfl
      case h50 => exact Nat.le_of_ble_eq_true rfl
      case kB0 => k_asm
      case kF0 => k_asm
      case kX0 => k_asm
      case kN0 => k_asm
      case kT0 => k_asm
      case kK0 => exact rfl
      case kG0 => exact AllBare.of_eq (by assumption)
      case km0 => walk_at "mine mem"
      case kt0 => exact trivial
      dsimp only
      intro s2 ps2 F2 N2 ht2 G2 os2
      exact lawEnd_in F2 N2 (setP_mem (by walk_at "mine mem")) os2 G2
    · walk_at "mine calls"
      ktr_call (table_does (Or.inl ⟨rfl, rfl, rfl⟩) tab_110) trivial
      try k_fold
      walk_at "mine calls"
      ktr_call (table_does (Or.inr (Or.inl ⟨rfl, rfl, rfl⟩)) tab_111) trivial
      try k_fold
      walk_at "mine calls"
      ktr_call (key_does net_111 (Or.inr ⟨rfl, rfl⟩)) trivial
      try k_fold
      walk_at "mine calls"
      ktr_call (secret_does net_111 (Or.inr ⟨rfl, rfl⟩)) trivial
      try k_fold
      walk_at "mine calls"
      ktr_call (hash_does net_111 (Or.inr ⟨rfl, rfl⟩)) trivial
      try k_fold
      walk_at "mine calls"
      refine' lower (witness_does net_111 _ _ _ _ _ _ _ _ _ _ _ _ _ _ _ _ _ _ _ _ _ ?kB1 ?kF1 ?kX1 ?kN1 ?kT1 ?kK1 ?kG1 ?km1 ?kt1 trivial ?kR1) ?h11 ?h21 ?h31 ?h41 ?h51
      case h31 => exact rfl
      case h11 => exact rfl
      case h21 => exact Nat.le_of_ble_eq_true rfl
      case h41 => exact rfl
      case h51 => exact Nat.le_of_ble_eq_true rfl
      case kB1 => k_asm
      case kF1 => k_asm
      case kX1 => k_asm
      case kN1 => k_asm
      case kT1 => k_asm
      case kK1 => exact rfl
      case kG1 => exact AllBare.of_eq (by assumption)
      case km1 => walk_at "mine mem"
      case kt1 => exact trivial
      dsimp only
      intro s2 ps2 F2 N2 ht2 G2 os2
      exact lawEnd_in F2 N2 (setP_mem (by walk_at "mine mem")) os2 G2
    · walk_at "mine calls"
      ktr_call (table_does (Or.inl ⟨rfl, rfl, rfl⟩) tab_110) trivial
      try k_fold
      walk_at "mine calls"
      ktr_call (table_does (Or.inr (Or.inr (Or.inl ⟨rfl, rfl, rfl⟩))) tab_112) trivial
      try k_fold
      walk_at "mine calls"
      ktr_call (key_does net_112 (Or.inr ⟨rfl, rfl⟩)) trivial
      try k_fold
      walk_at "mine calls"
      ktr_call (secret_does net_112 (Or.inr ⟨rfl, rfl⟩)) trivial
      try k_fold
      walk_at "mine calls"
      ktr_call (hash_does net_112 (Or.inr ⟨rfl, rfl⟩)) trivial
      try k_fold
      walk_at "mine calls"
      refine' lower (witness_does net_112 _ _ _ _ _ _ _ _ _ _ _ _ _ _ _ _ _ _ _ _ _ ?kB2 ?kF2 ?kX2 ?kN2 ?kT2 ?kK2 ?kG2 ?km2 ?kt2 trivial ?kR2) ?h12 ?h22 ?h32 ?h42 ?h52
      case h32 => exact rfl
      case h12 => exact rfl
      case h22 => exact Nat.le_of_ble_eq_true rfl
      case h42 => exact rfl
      case h52 => exact Nat.le_of_ble_eq_true rfl
      case kB2 => k_asm
      case kF2 => k_asm
      case kX2 => k_asm
      case kN2 => k_asm
      case kT2 => k_asm
      case kK2 => exact rfl
      case kG2 => exact AllBare.of_eq (by assumption)
      case km2 => walk_at "mine mem"
      case kt2 => exact trivial
      dsimp only
      intro s2 ps2 F2 N2 ht2 G2 os2
      exact lawEnd_in F2 N2 (setP_mem (by walk_at "mine mem")) os2 G2
    · walk_at "mine calls"
      ktr_call (table_does (Or.inl ⟨rfl, rfl, rfl⟩) tab_110) trivial
      try k_fold
      walk_at "mine calls"
      ktr_call (table_does (Or.inr (Or.inr (Or.inr ⟨rfl, rfl, rfl⟩))) tab_113) trivial
      try k_fold
      walk_at "mine calls"
      ktr_call (key_does net_113 (Or.inr ⟨rfl, rfl⟩)) trivial
      try k_fold
      walk_at "mine calls"
      ktr_call (secret_does net_113 (Or.inr ⟨rfl, rfl⟩)) trivial
      try k_fold
      walk_at "mine calls"
      ktr_call (hash_does net_113 (Or.inr ⟨rfl, rfl⟩)) trivial
      try k_fold
      walk_at "mine calls"
      refine' lower (witness_does net_113 _ _ _ _ _ _ _ _ _ _ _ _ _ _ _ _ _ _ _ _ _ ?kB3 ?kF3 ?kX3 ?kN3 ?kT3 ?kK3 ?kG3 ?km3 ?kt3 trivial ?kR3) ?h13 ?h23 ?h33 ?h43 ?h53
      case h33 => exact rfl
      case h13 => exact rfl
      case h23 => exact Nat.le_of_ble_eq_true rfl
      case h43 => exact rfl
      case h53 => exact Nat.le_of_ble_eq_true rfl
      case kB3 => k_asm
      case kF3 => k_asm
      case kX3 => k_asm
      case kN3 => k_asm
      case kT3 => k_asm
      case kK3 => exact rfl
      case kG3 => exact AllBare.of_eq (by assumption)
      case km3 => walk_at "mine mem"
      case kt3 => exact trivial
      dsimp only
      intro s2 ps2 F2 N2 ht2 G2 os2
      exact lawEnd_in F2 N2 (setP_mem (by walk_at "mine mem")) os2 G2))
end
end Mine
theorem PySem.Challenge.cw_bv5019_02_holds : PySem.Challenge.rw_bv5019_02.Holds := by
  exact Mine.law2
