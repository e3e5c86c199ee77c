/-
  PLAIN LAWS ON LISTS OF BYTES READ AS ONE NUMBER, BIG-ENDIAN. No Go in sight.
-/
namespace Go.Proofs.Qxb6608829a

def val : List Int → Int
  | [] => 0
  | b :: l => b * 256 ^ l.length + val l
def Byts (l : List Int) : Prop := ∀ n ∈ l, 0 ≤ n ∧ n ≤ 255

theorem pow_pos256 (n : Nat) : (0 : Int) < 256 ^ n := by
  induction n with
  | zero => decide
  | succ n ih => rw [Int.pow_succ]; omega

theorem Byts.tail {b : Int} {l : List Int} (h : Byts (b :: l)) : Byts l := fun n hn => h n (List.mem_cons_of_mem _ hn)
theorem Byts.head {b : Int} {l : List Int} (h : Byts (b :: l)) : 0 ≤ b ∧ b ≤ 255 := h b (List.mem_cons_self ..)
theorem Byts.drop {l : List Int} (h : Byts l) (k : Nat) : Byts (l.drop k) := fun n hn => h n (List.mem_of_mem_drop hn)
theorem Byts.at {l : List Int} (h : Byts l) (k : Nat) : 0 ≤ l.getD k 0 ∧ l.getD k 0 ≤ 255 := by
  by_cases hk : k < l.length
  · have e : l.getD k 0 = l[k] := by simp [List.getD, List.getElem?_eq_getElem hk]
    rw [e]; exact h _ (List.getElem_mem hk)
  · have e : l.getD k 0 = 0 := by simp [List.getD, List.getElem?_eq_none (by omega : l.length ≤ k)]
    rw [e]; omega
theorem Byts.set {l : List Int} (h : Byts l) (k : Nat) {v : Int} (hv : 0 ≤ v ∧ v ≤ 255) : Byts (l.set k v) := by
  intro n hn
  rcases List.mem_or_eq_of_mem_set hn with h' | h'
  · exact h n h'
  · rw [h']; exact hv

theorem val_bound : ∀ (l : List Int), Byts l → 0 ≤ val l ∧ val l < 256 ^ l.length
  | [], _ => by simp [val]
  | b :: l, h => by
    have ih := val_bound l h.tail
    have hb := h.head
    have hp := pow_pos256 l.length
    simp only [val, List.length_cons, Int.pow_succ]
    generalize (256 : Int) ^ l.length = p at *
    have h1 : 0 ≤ b * p := Int.mul_nonneg hb.1 (by omega)
    have h2 : b * p ≤ 255 * p := Int.mul_le_mul_of_nonneg_right hb.2 (by omega)
    omega

def cmpL : List Int → List Int → Int
  | a :: as, b :: bs => if a < b then -1 else if b < a then 1 else cmpL as bs
  | _, _ => 0

def sgn (a b : Int) : Int := if a < b then -1 else if b < a then 1 else 0

theorem sgn_lt {a b : Int} (h : a < b) : sgn a b = -1 := by simp [sgn, h]
theorem sgn_gt {a b : Int} (h : b < a) : sgn a b = 1 := by
  have : ¬ a < b := by omega
  simp [sgn, this, h]
theorem sgn_eq (a : Int) : sgn a a = 0 := by simp [sgn]
theorem cmpL_val : ∀ (a b : List Int), a.length = b.length → Byts a → Byts b → cmpL a b = sgn (val a) (val b)
  | [], [], _, _, _ => by simp [cmpL, sgn, val]
  | [], _ :: _, h, _, _ => by simp at h
  | _ :: _, [], h, _, _ => by simp at h
  | x :: as, y :: bs, h, ha, hb => by
    simp only [List.length_cons, Nat.add_right_cancel_iff] at h
    have ih := cmpL_val as bs h ha.tail hb.tail
    have b1 := val_bound as ha.tail
    have b2 := val_bound bs hb.tail
    have hp := pow_pos256 bs.length
    have e1 : val (x :: as) = x * 256 ^ bs.length + val as := by rw [← h]; rfl
    have e2 : val (y :: bs) = y * 256 ^ bs.length + val bs := rfl
    have e3 : cmpL (x :: as) (y :: bs) = if x < y then -1 else if y < x then 1 else cmpL as bs := rfl
    rw [e1, e2, e3, ih]
    rw [h] at b1
    clear ih e1 e2 e3
    generalize (256 : Int) ^ bs.length = p at *
    by_cases c1 : x < y
    · have h2 : (x + 1) * p ≤ y * p := Int.mul_le_mul_of_nonneg_right c1 (by omega)
      rw [Int.add_mul] at h2
      rw [if_pos c1, sgn_lt (by omega)]
    · by_cases c2 : y < x
      · have h2 : (y + 1) * p ≤ x * p := Int.mul_le_mul_of_nonneg_right c2 (by omega)
        rw [Int.add_mul] at h2
        rw [if_neg c1, if_pos c2, sgn_gt (by omega)]
      · obtain rfl : x = y := by omega
        rw [if_neg c1, if_neg c2]
        generalize x * p = q
        rcases Int.lt_trichotomy (val as) (val bs) with c | c | c
        · rw [sgn_lt c, sgn_lt (by omega)]
        · rw [c, sgn_eq, sgn_eq]
        · rw [sgn_gt c, sgn_gt (by omega)]

theorem val_inj (a b : List Int) (h : a.length = b.length) (ha : Byts a) (hb : Byts b) (hv : val a = val b) : a = b := by
  induction a generalizing b with
  | nil => cases b <;> simp_all
  | cons x as ih =>
    cases b with
    | nil => simp at h
    | cons y bs =>
      simp only [List.length_cons, Nat.add_right_cancel_iff] at h
      have b1 := val_bound as ha.tail
      have b2 := val_bound bs hb.tail
      have hp := pow_pos256 bs.length
      simp only [val] at hv
      rw [h] at b1 hv
      have hxy : x = y := by
        generalize (256 : Int) ^ bs.length = p at *
        rcases Int.lt_trichotomy x y with c | c | c
        · have h2 : (x + 1) * p ≤ y * p := Int.mul_le_mul_of_nonneg_right c (by omega)
          rw [Int.add_mul] at h2
          omega
        · exact c
        · have h2 : (y + 1) * p ≤ x * p := Int.mul_le_mul_of_nonneg_right c (by omega)
          rw [Int.add_mul] at h2
          omega
      subst hxy
      rw [ih bs h ha.tail hb.tail (by omega)]

/-! ### suffixes -/
def sv (l : List Int) (k : Nat) : Int := val (l.drop k)
theorem sv_zero (l : List Int) : sv l 0 = val l := by simp [sv]
theorem sv_end (l : List Int) (k : Nat) (h : l.length ≤ k) : sv l k = 0 := by simp [sv, List.drop_of_length_le h, val]
theorem sv_step (l : List Int) (k : Nat) (h : k < l.length) : sv l k = l.getD k 0 * 256 ^ (l.length - (k + 1)) + sv l (k + 1) := by
  unfold sv
  rw [List.drop_eq_getElem_cons h]
  simp [val, List.getD, List.getElem?_eq_getElem h]
theorem sv_set (l : List Int) (k : Nat) (v : Int) (h : k < l.length) : sv (l.set k v) k = v * 256 ^ (l.length - (k + 1)) + sv l (k + 1) := by
  rw [sv_step _ _ (by simpa using h)]
  simp only [List.length_set]
  have e1 : (l.set k v).getD k 0 = v := by simp [List.getD, h]
  have e2 : sv (l.set k v) (k + 1) = sv l (k + 1) := by
    unfold sv
    rw [List.drop_set_of_lt (by omega)]
  rw [e1, e2]

/-- One round of adding. -/
theorem add_round (x y z : List Int) (k : Nat) (c c' v : Int) (n : Nat) (hx : x.length = n) (hy : y.length = n) (hz : z.length = n) (hk : k < n)
    (h : sv z (k + 1) + c * 256 ^ (n - (k + 1)) = sv x (k + 1) + sv y (k + 1))
    (hv : v + 256 * c' = x.getD k 0 + y.getD k 0 + c) :
    sv (z.set k v) k + c' * 256 ^ (n - k) = sv x k + sv y k := by
  rw [sv_set _ _ _ (by omega), sv_step x k (by omega), sv_step y k (by omega), hx, hy, hz]
  have e : n - k = (n - (k + 1)) + 1 := by omega
  rw [e, Int.pow_succ]
  generalize (256 : Int) ^ (n - (k + 1)) = p at *
  have e3 : c' * (p * 256) = (256 * c') * p := by rw [Int.mul_comm p, ← Int.mul_assoc, Int.mul_comm c']
  have e4 : (v + 256 * c') * p = (x.getD k 0 + y.getD k 0 + c) * p := by rw [hv]
  simp only [Int.add_mul] at e4
  rw [e3]
  omega

/-- One round of subtracting. -/
theorem sub_round (x y z : List Int) (k : Nat) (c c' v : Int) (n : Nat) (hx : x.length = n) (hy : y.length = n) (hz : z.length = n) (hk : k < n)
    (h : sv z (k + 1) - c * 256 ^ (n - (k + 1)) = sv x (k + 1) - sv y (k + 1))
    (hv : v - 256 * c' = x.getD k 0 - y.getD k 0 - c) :
    sv (z.set k v) k - c' * 256 ^ (n - k) = sv x k - sv y k := by
  rw [sv_set _ _ _ (by omega), sv_step x k (by omega), sv_step y k (by omega), hx, hy, hz]
  have e : n - k = (n - (k + 1)) + 1 := by omega
  rw [e, Int.pow_succ]
  generalize (256 : Int) ^ (n - (k + 1)) = p at *
  have e3 : c' * (p * 256) = (256 * c') * p := by rw [Int.mul_comm p, ← Int.mul_assoc, Int.mul_comm c']
  have e4 : (v - 256 * c') * p = (x.getD k 0 - y.getD k 0 - c) * p := by rw [hv]
  simp only [Int.sub_mul] at e4
  rw [e3]
  omega

/-! ### StrictlyBetween, cmpFrom over numbers -/
def sbI (x a b : Int) : Bool := if a < b then decide (a < x) && decide (x < b) else if b < a then decide (a < x) || decide (x < b) else decide (x ≠ a)
def cf (o a b : Int) : Int := if a = b then 0 else if sbI a o b = true then -1 else 1

def M : Int := 256 ^ 20
def one20 : List Int := [0,0,0,0,0,0,0,0,0,0,0,0,0,0,0,0,0,0,0,1]
theorem val_one : val one20 = 1 := by decide
theorem one_byts : Byts one20 := by
  intro n hn
  simp [one20] at hn
  omega
theorem M_big : 2 < M := by decide

def isAdd (x y z : Int) : Prop := z = x + y ∨ z = x + y - M
def isSub (x y z : Int) : Prop := z = x - y ∨ z = x - y + M
def In (x : Int) : Prop := 0 ≤ x ∧ x < M

theorem cf_last (o b : Int) : cf o o b = if b = o then 0 else 1 := by
  unfold cf sbI
  by_cases h : b = o
  · simp [h]
  · have h' : ¬ o = b := fun e => h e.symm
    rw [if_neg h', if_neg h]
    split <;> simp_all <;> omega
theorem cf_last' (o b : Int) : cf o b o = -(if b = o then 0 else 1) := by
  unfold cf sbI
  by_cases h : b = o <;> simp [h]
theorem cf_first (o n b : Int) (ho : In o) (hn : In n) (hb : In b) (h : isAdd o 1 n) : cf o n b = if b = n then 0 else -1 := by
  unfold cf sbI
  unfold In isAdd at *
  have := M_big
  generalize M = m at *
  by_cases e : b = n
  · simp [e]
  · have e' : ¬ n = b := fun x => e x.symm
    rw [if_neg e', if_neg e]
    have : (if o < b then decide (o < n) && decide (n < b) else if b < o then decide (o < n) || decide (n < b) else decide (n ≠ o)) = true := by
      split
      · simp; omega
      · split
        · simp; omega
        · simp; omega
    rw [if_pos this]
theorem cf_first' (o n b : Int) (ho : In o) (hn : In n) (hb : In b) (h : isAdd o 1 n) : cf o b n = -(if b = n then 0 else -1) := by
  unfold cf sbI
  unfold In isAdd at *
  have := M_big
  generalize M = m at *
  by_cases e : b = n
  · simp [e]
  · rw [if_neg e, if_neg e]
    have : (if o < n then decide (o < b) && decide (b < n) else if n < o then decide (o < b) || decide (b < n) else decide (b ≠ o)) = false := by
      split
      · simp; omega
      · split
        · simp; omega
        · exfalso; omega
    rw [this]; simp

theorem cf_eq (o a : Int) : cf o a a = 0 := by simp [cf]
theorem cf_lt {o a b : Int} (e : ¬ a = b) (h : sbI a o b = true) : cf o a b = -1 := by simp [cf, e, h]
theorem cf_gt {o a b : Int} (e : ¬ a = b) (h : sbI a o b = false) : cf o a b = 1 := by simp [cf, e, h]
theorem sb_lt {o a b m a1 a2 b1 b2 : Int} (ho : 0 ≤ o ∧ o < m) (ha : 0 ≤ a ∧ a < m) (hb : 0 ≤ b ∧ b < m) (ha1 : 0 ≤ a1 ∧ a1 < m) (ha2 : 0 ≤ a2 ∧ a2 < m) (hb1 : 0 ≤ b1 ∧ b1 < m) (hb2 : 0 ≤ b2 ∧ b2 < m)
    (hm : 2 < m) (s1 : a1 = a - o ∨ a1 = a - o + m) (s2 : a2 = a1 - 1 ∨ a2 = a1 - 1 + m) (s3 : b1 = b - o ∨ b1 = b - o + m) (s4 : b2 = b1 - 1 ∨ b2 = b1 - 1 + m) (e : ¬ a = b) :
    sbI a o b = decide (a2 < b2) := by
  unfold sbI
  rw [Bool.eq_iff_iff]
  split
  · simp; omega
  · split
    · simp; omega
    · simp; omega
theorem cf_dist (o a b a1 a2 b1 b2 : Int) (ho : In o) (ha : In a) (hb : In b) (ha1 : In a1) (ha2 : In a2) (hb1 : In b1) (hb2 : In b2)
    (s1 : isSub a o a1) (s2 : isSub a1 1 a2) (s3 : isSub b o b1) (s4 : isSub b1 1 b2) : cf o a b = sgn a2 b2 := by
  have hm := M_big
  unfold In isSub at *
  generalize M = m at *
  by_cases e : a = b
  · have : a2 = b2 := by omega
    rw [e, this, cf_eq, sgn_eq]
  · have hs := sb_lt ho ha hb ha1 ha2 hb1 hb2 hm s1 s2 s3 s4 e
    by_cases h : a2 < b2
    · rw [cf_lt e (by rw [hs]; simpa using h), sgn_lt h]
    · have : b2 < a2 := by omega
      rw [cf_gt e (by rw [hs]; simpa using h), sgn_gt this]
theorem sgn_neg (a b : Int) : sgn b a = -sgn a b := by
  unfold sgn
  split <;> split <;> first | rfl | omega | (split <;> first | rfl | omega)

end Go.Proofs.Qxb6608829a
