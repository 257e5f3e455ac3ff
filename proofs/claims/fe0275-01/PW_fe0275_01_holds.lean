import PyProof.Rows.All
import Wide.All
import OpenK.AllK
import Wide.FinOn
import PySem.Challenge.RW_fe0275_01

/-! key_slot against its law: the parts, the walk of each statement of the law, the join. -/
set_option Elab.async false
set_option maxRecDepth 100000

namespace Mine
section
open PySem PySem.W PyProof.Rows
set_option maxHeartbeats 8000000
open_top hd for PySem.Challenge.rw_fe0275_01
end
end Mine

/-! ### Law -/
namespace Mine
open PySem PySem.W PyProof.Rows
theorem freshLaw : True := by
  w_top off
  trivial

/-! ## exclusive or on naturals -/
theorem xor_add : ∀ n a b : Nat, a < n → (a ^^^ b) + 2 * (a &&& b) = a + b
  | 0, _, _, h => absurd h (Nat.not_lt_zero _)
  | n + 1, a, b, h => by
    by_cases ha : a = 0
    · subst ha; simp
    have ih := xor_add n (a / 2) (b / 2) (by omega)
    have h1 : (a ^^^ b) / 2 = a / 2 ^^^ b / 2 := Nat.xor_div_two
    have h2 := @Nat.xor_mod_two_eq_one a b
    have h3 : (a &&& b) / 2 = a / 2 &&& b / 2 := Nat.and_div_two
    have h4 := @Nat.and_mod_two_eq_one a b
    rw [← h1, ← h3] at ih
    omega
theorem bxor_nat (a b : Nat) : Builtin.bitXor (a : Int) (b : Int) = ((a ^^^ b : Nat) : Int) := by
  have h := xor_add (a + 1) a b (Nat.lt_succ_self a)
  rw [bitXor_and, bitAnd_pp (Int.natCast_nonneg a) (Int.natCast_nonneg b)]
  simp only [Int.toNat_natCast]
  omega
theorem band_nat (a b : Nat) : Builtin.bitAnd (a : Int) (b : Int) = ((a &&& b : Nat) : Int) := by
  rw [bitAnd_pp (Int.natCast_nonneg a) (Int.natCast_nonneg b)]
  simp only [Int.toNat_natCast]
theorem xor_mul (a b k : Nat) : (a ^^^ b) * 2 ^ k = a * 2 ^ k ^^^ b * 2 ^ k := by
  rw [← Nat.shiftLeft_eq, ← Nat.shiftLeft_eq, ← Nat.shiftLeft_eq, Nat.shiftLeft_xor_distrib]
theorem xor_dbl (a b : Nat) : 2 * (a ^^^ b) = 2 * a ^^^ 2 * b := by
  have h := xor_mul a b 1
  rw [Nat.pow_one, Nat.mul_comm _ 2, Nat.mul_comm a 2, Nat.mul_comm b 2] at h
  exact h
theorem and_low (a : Nat) {b k : Nat} (hb : b < 2 ^ k) : a * 2 ^ k &&& b = 0 := by
  have h1 : (a * 2 ^ k &&& b) / 2 ^ k = 0 := Nat.div_eq_of_lt (Nat.lt_of_le_of_lt Nat.and_le_right hb)
  have h2 : (a * 2 ^ k &&& b) % 2 ^ k = 0 := by
    rw [Nat.and_mod_two_pow, Nat.mul_mod_left, Nat.zero_and]
  have h3 := Nat.div_add_mod (a * 2 ^ k &&& b) (2 ^ k)
  rw [h1, h2] at h3
  omega
theorem add_xor (a : Nat) {b k : Nat} (hb : b < 2 ^ k) : a * 2 ^ k + b = a * 2 ^ k ^^^ b := by
  have h := xor_add _ (a * 2 ^ k) b (Nat.lt_succ_self _)
  rw [and_low a hb] at h
  omega
theorem xor_lt {a b k : Nat} (ha : a < 2 ^ k) (hb : b < 2 ^ k) : a ^^^ b < 2 ^ k := Nat.xor_lt_two_pow ha hb

/-! ## the register's step -/
def stp (v : Nat) : Nat := if 32768 ≤ v then 2 * v ^^^ 69665 else 2 * v
def stps : Nat → Nat → Nat
  | 0, v => v
  | n + 1, v => stp (stps n v)
def crcB (v c : Nat) : Nat := stps 8 (v ^^^ c * 256)
def crcK (v : Nat) (ks : List Int) : Nat := ks.foldl (fun a k => crcB a k.toNat) v

theorem stp_lt {v : Nat} (h : v < 65536) : stp v < 65536 := by
  unfold stp
  split
  · rename_i hv
    have h1 : (2 * v ^^^ 69665) / 2 ^ 16 = 2 * v / 2 ^ 16 ^^^ 69665 / 2 ^ 16 := Nat.xor_div_two_pow
    have h2 : 2 * v / 2 ^ 16 = 1 := by omega
    rw [h2, show 69665 / 2 ^ 16 = 1 from rfl, Nat.xor_self] at h1
    omega
  · omega
theorem stps_lt : ∀ (n : Nat) {v : Nat}, v < 65536 → stps n v < 65536
  | 0, _, h => h
  | n + 1, _, h => stp_lt (stps_lt n h)
theorem stps_stp : ∀ n v, stps n (stp v) = stp (stps n v)
  | 0, _ => rfl
  | n + 1, v => congrArg stp (stps_stp n v)
theorem stps_add : ∀ (a b v : Nat), stps a (stps b v) = stps (a + b) v
  | 0, b, v => by rw [Nat.zero_add]; rfl
  | a + 1, b, v => by
    rw [Nat.succ_add]
    exact congrArg stp (stps_add a b v)
theorem stp_xor {a b : Nat} (ha : a < 65536) (hb : b < 65536) : stp (a ^^^ b) = stp a ^^^ stp b := by
  have h1 : (a ^^^ b) / 2 ^ 15 = a / 2 ^ 15 ^^^ b / 2 ^ 15 := Nat.xor_div_two_pow
  have hx : a ^^^ b < 2 ^ 16 := xor_lt (by omega) (by omega)
  have h2 := xor_dbl a b
  have e1 : ∀ x y p : Nat, (x ^^^ p) ^^^ (y ^^^ p) = x ^^^ y := by
    intro x y p
    rw [Nat.xor_comm y p, Nat.xor_assoc, ← Nat.xor_assoc p p, Nat.xor_self, Nat.zero_xor]
  have e2 : ∀ x y p : Nat, (x ^^^ p) ^^^ y = (x ^^^ y) ^^^ p := by
    intro x y p
    rw [Nat.xor_assoc, Nat.xor_comm p y, Nat.xor_assoc]
  unfold stp
  by_cases c1 : 32768 ≤ a <;> by_cases c2 : 32768 ≤ b
  · have q1 : a / 2 ^ 15 = 1 := by omega
    have q2 : b / 2 ^ 15 = 1 := by omega
    rw [q1, q2, Nat.xor_self] at h1
    rw [if_pos c1, if_pos c2, if_neg (by omega), h2, e1]
  · have q1 : a / 2 ^ 15 = 1 := by omega
    have q2 : b / 2 ^ 15 = 0 := by omega
    rw [q1, q2, Nat.xor_zero] at h1
    rw [if_pos c1, if_neg c2, if_pos (by omega), h2, e2]
  · have q1 : a / 2 ^ 15 = 0 := by omega
    have q2 : b / 2 ^ 15 = 1 := by omega
    rw [q1, q2, Nat.zero_xor] at h1
    rw [if_neg c1, if_pos c2, if_pos (by omega), h2, Nat.xor_assoc]
  · have q1 : a / 2 ^ 15 = 0 := by omega
    have q2 : b / 2 ^ 15 = 0 := by omega
    rw [q1, q2, Nat.xor_self] at h1
    rw [if_neg c1, if_neg c2, if_neg (by omega), h2]
theorem stps_xor : ∀ (n : Nat) {a b : Nat}, a < 65536 → b < 65536 → stps n (a ^^^ b) = stps n a ^^^ stps n b
  | 0, _, _, _, _ => rfl
  | n + 1, a, b, ha, hb => by
    show stp (stps n (a ^^^ b)) = stp (stps n a) ^^^ stp (stps n b)
    rw [stps_xor n ha hb, stp_xor (stps_lt n ha) (stps_lt n hb)]
theorem stps_small : ∀ (n t : Nat), n ≤ 8 → t < 256 → stps n t = t * 2 ^ n
  | 0, t, _, _ => by simp [stps]
  | n + 1, t, hn, ht => by
    show stp (stps n t) = t * 2 ^ (n + 1)
    rw [stps_small n t (by omega) ht]
    have hp : 2 ^ n ≤ 2 ^ 7 := Nat.pow_le_pow_right (by decide) (by omega)
    have hm : t * 2 ^ n ≤ 255 * 2 ^ 7 := Nat.mul_le_mul (by omega) hp
    unfold stp
    rw [if_neg (by omega), Nat.pow_succ, Nat.mul_comm (2 ^ n) 2, Nat.mul_left_comm]
theorem crcB_lt {v c : Nat} (hv : v < 65536) (hc : c < 256) : crcB v c < 65536 := stps_lt 8 (xor_lt (k := 16) hv (by omega))

def In (ks : List Int) : Prop := ∀ k ∈ ks, 0 ≤ k ∧ k < 256
theorem In.tail {k : Int} {ks : List Int} (h : In (k :: ks)) : In ks := fun x hx => h x (List.mem_cons_of_mem _ hx)
theorem In.head {k : Int} {ks : List Int} (h : In (k :: ks)) : 0 ≤ k ∧ k < 256 := h k (List.mem_cons_self ..)
theorem In.app {ks ls : List Int} (h : In ks) (g : In ls) : In (ks ++ ls) := fun x hx => (List.mem_append.mp hx).elim (h x) (g x)
theorem crcK_nil (v : Nat) : crcK v [] = v := by unfold crcK; exact List.foldl_nil
theorem crcK_cons (v : Nat) (k : Int) (ks : List Int) : crcK v (k :: ks) = crcK (crcB v k.toNat) ks := by unfold crcK; exact List.foldl_cons ..
theorem crcK_app (v : Nat) (ks ls : List Int) : crcK v (ks ++ ls) = crcK (crcK v ks) ls := by unfold crcK; exact List.foldl_append
theorem crcK_lt : ∀ (ks : List Int) {v : Nat}, v < 65536 → In ks → crcK v ks < 65536
  | [], _, hv, _ => by rw [crcK_nil]; exact hv
  | k :: ks, v, hv, h => by rw [crcK_cons]; exact crcK_lt ks (crcB_lt hv (by have := h.head; omega)) h.tail

/-! ## the remainder by going down the places -/
def red : Nat → Nat → Nat
  | 0, V => V
  | k + 1, V => red k (if V / 2 ^ (k + 16) % 2 = 1 then V ^^^ 69665 * 2 ^ k else V)
def big (a : Nat) (ks : List Int) : Nat := ks.foldl (fun a k => a * 256 + k.toNat) a

theorem red_step {k u low : Nat} (hu : u < 65536) (hl : low < 2 ^ (k + 16)) : red (k + 1) (u * 2 ^ (k + 1) ^^^ low) = red k (stp u * 2 ^ k ^^^ low) := by
  have h1 : (u * 2 ^ (k + 1) ^^^ low) / 2 ^ (k + 16) = u * 2 ^ (k + 1) / 2 ^ (k + 16) ^^^ low / 2 ^ (k + 16) := Nat.xor_div_two_pow
  have h2 : u * 2 ^ (k + 1) / 2 ^ (k + 16) = u / 32768 := by
    rw [show k + 16 = (k + 1) + 15 by omega, Nat.pow_add 2 (k + 1) 15, ← Nat.div_div_eq_div_mul, Nat.mul_div_cancel _ (Nat.two_pow_pos _)]
  rw [h2, Nat.div_eq_of_lt hl, Nat.xor_zero] at h1
  have h3 : u * 2 ^ (k + 1) = 2 * u * 2 ^ k := by rw [Nat.pow_succ, Nat.mul_comm 2 u, Nat.mul_assoc, Nat.mul_comm 2]
  show red k (if (u * 2 ^ (k + 1) ^^^ low) / 2 ^ (k + 16) % 2 = 1 then (u * 2 ^ (k + 1) ^^^ low) ^^^ 69665 * 2 ^ k else (u * 2 ^ (k + 1) ^^^ low)) = _
  rw [h1]
  unfold stp
  by_cases c : 32768 ≤ u
  · rw [if_pos (by omega), if_pos c, xor_mul, h3, Nat.xor_assoc, Nat.xor_comm low, Nat.xor_assoc]
  · rw [if_neg (by omega), if_neg c, h3]
theorem red_steps {k low : Nat} (hl : low < 2 ^ (k + 16)) : ∀ (j : Nat) {u : Nat}, u < 65536 → red (k + j) (u * 2 ^ (k + j) ^^^ low) = red k (stps j u * 2 ^ k ^^^ low)
  | 0, _, _ => rfl
  | j + 1, u, hu => by
    have hl' : low < 2 ^ (k + j + 16) := Nat.lt_of_lt_of_le hl (Nat.pow_le_pow_right (by decide) (by omega))
    have h := red_step (k := k + j) hu hl'
    rw [show k + (j + 1) = k + j + 1 by omega, h, red_steps hl j (stp_lt hu), stps_stp]
    rfl
theorem big_lt : ∀ (ks : List Int), In ks → ∀ a, big a ks < (a + 1) * 2 ^ (8 * ks.length) ∧ big a ks = a * 2 ^ (8 * ks.length) + big 0 ks
  | [], _, a => by simp [big]
  | k :: ks, h, a => by
    have hk := h.head
    have e : ∀ a, big a (k :: ks) = big (a * 256 + k.toNat) ks := fun _ => rfl
    obtain ⟨h1, h2⟩ := big_lt ks h.tail (a * 256 + k.toNat)
    obtain ⟨h3, h4⟩ := big_lt ks h.tail (0 * 256 + k.toNat)
    rw [e a, e 0]
    have hp : 2 ^ (8 * (k :: ks).length) = 256 * 2 ^ (8 * ks.length) := by
      rw [List.length_cons, Nat.mul_succ, Nat.pow_add, Nat.mul_comm]
    rw [hp]
    refine ⟨Nat.lt_of_lt_of_le h1 ?_, ?_⟩
    · rw [← Nat.mul_assoc]
      exact Nat.mul_le_mul_right _ (by omega)
    · rw [h2, h4, ← Nat.mul_assoc, ← Nat.add_assoc, ← Nat.add_mul]
      congr 2
      omega
theorem red_crc : ∀ (ks : List Int), In ks → ∀ {v : Nat}, v < 65536 → red (8 * ks.length) (v * 2 ^ (8 * ks.length) ^^^ big 0 ks * 65536) = crcK v ks
  | [], _, v, _ => by simp [red, big, crcK]
  | k :: ks, h, v, hv => by
    have hk := h.head
    have hlow : big 0 ks * 65536 < 2 ^ (8 * ks.length + 16) := by
      have h1 := (big_lt ks h.tail 0).1
      rw [Nat.zero_add, Nat.one_mul] at h1
      rw [Nat.pow_add]
      exact Nat.mul_lt_mul_of_pos_right h1 (by decide)
    have hb : big 0 ks < 2 ^ (8 * ks.length) := by
      have h1 := (big_lt ks h.tail 0).1
      rwa [Nat.zero_add, Nat.one_mul] at h1
    have e : big 0 (k :: ks) = k.toNat * 2 ^ (8 * ks.length) + big 0 ks := by
      have h2 := (big_lt ks h.tail k.toNat).2
      rw [← h2]
      show big (0 * 256 + k.toNat) ks = _
      rw [Nat.zero_mul, Nat.zero_add]
    have e2 : big 0 (k :: ks) * 65536 = (k.toNat * 256) * 2 ^ (8 * ks.length + 8) ^^^ big 0 ks * 65536 := by
      rw [e, add_xor _ hb, show (65536 : Nat) = 2 ^ 16 from rfl, xor_mul]
      congr 1
      rw [Nat.pow_add, Nat.mul_assoc, Nat.mul_assoc, Nat.mul_left_comm 256]
    have e3 : 8 * (k :: ks).length = 8 * ks.length + 8 := by rw [List.length_cons, Nat.mul_succ]
    have hc : v ^^^ k.toNat * 256 < 65536 := xor_lt (k := 16) hv (by omega)
    rw [e2, e3, ← Nat.xor_assoc, ← xor_mul, red_steps hlow 8 hc, crcK_cons]
    exact red_crc ks h.tail (crcB_lt hv (by omega))

theorem big_two (ks : List Int) (a : Nat) : big a (ks ++ [0, 0]) = big a ks * 65536 := by
  unfold big
  rw [List.foldl_append]
  simp only [List.foldl_cons, List.foldl_nil]
  show (_ * 256 + 0) * 256 + 0 = _
  omega
theorem red_rest {ks : List Int} (h : In ks) : red (8 * ks.length) (big 0 (ks ++ [0, 0])) = crcK 0 ks := by
  rw [big_two, ← red_crc ks h (v := 0) (by decide), Nat.zero_mul, Nat.zero_xor]

/-! ## backwards -/
def inv (v : Nat) : Nat := if v % 2 = 1 then (v ^^^ 69665) / 2 else v / 2
def invs : Nat → Nat → Nat
  | 0, v => v
  | n + 1, v => inv (invs n v)
theorem inv_lt {v : Nat} (h : v < 65536) : inv v < 65536 := by
  unfold inv
  split
  · have h1 : v ^^^ 69665 < 2 ^ 17 := xor_lt (by omega) (by decide)
    omega
  · omega
theorem stp_inv {v : Nat} (h : v < 65536) : stp (inv v) = v := by
  unfold inv
  split
  · rename_i hv
    have h1 : v ^^^ 69665 < 2 ^ 17 := xor_lt (by omega) (by decide)
    have h2 : (v ^^^ 69665) / 2 ^ 16 = v / 2 ^ 16 ^^^ 69665 / 2 ^ 16 := Nat.xor_div_two_pow
    rw [show v / 2 ^ 16 = 0 by omega, show 69665 / 2 ^ 16 = 1 from rfl, Nat.zero_xor] at h2
    have h3 := @Nat.xor_mod_two_eq_one v 69665
    have h4 : (v ^^^ 69665) % 2 = 0 := by
      have : ¬ ((v ^^^ 69665) % 2 = 1) := by rw [h3]; simp [hv]
      omega
    unfold stp
    rw [if_pos (by omega), show 2 * ((v ^^^ 69665) / 2) = v ^^^ 69665 by omega, Nat.xor_assoc, Nat.xor_self, Nat.xor_zero]
  · unfold stp
    rw [if_neg (by omega)]
    omega
theorem invs_lt : ∀ (n : Nat) {v : Nat}, v < 65536 → invs n v < 65536
  | 0, _, h => h
  | n + 1, _, h => inv_lt (invs_lt n h)
theorem stps_invs : ∀ (n : Nat) {v : Nat}, v < 65536 → stps n (invs n v) = v
  | 0, _, _ => rfl
  | n + 1, v, h => by
    show stp (stps n (inv (invs n v))) = v
    rw [← stps_stp, stp_inv (invs_lt n h)]
    exact stps_invs n h

theorem crc_two {r t : Nat} (hr : r < 65536) (ht : t < 65536) : crcB (crcB r (t / 256)) (t % 256) = stps 16 (r ^^^ t) := by
  have hx : r ^^^ t / 256 * 256 < 65536 := xor_lt (k := 16) hr (by omega)
  have ht2 : t % 256 < 65536 := by omega
  have e1 : t % 256 * 256 = stps 8 (t % 256) := (stps_small 8 (t % 256) (by decide) (by omega)).symm
  have e2 : t = t / 256 * 2 ^ 8 ^^^ t % 256 := by
    rw [← add_xor _ (show t % 256 < 2 ^ 8 by omega)]
    omega
  unfold crcB
  rw [e1, ← stps_xor 8 hx ht2, stps_add, Nat.xor_assoc]
  congr 2
  exact e2.symm
/-- any slot behind any beginning -/
theorem crc_tail {ks : List Int} (h : In ks) {s : Nat} (hs : s < 65536) :
    crcK 0 (ks ++ [(((invs 16 s ^^^ crcK 0 ks) / 256 : Nat) : Int), (((invs 16 s ^^^ crcK 0 ks) % 256 : Nat) : Int)]) = s := by
  have hr := crcK_lt ks (v := 0) (by decide) h
  have hb := invs_lt 16 hs
  have ht : invs 16 s ^^^ crcK 0 ks < 65536 := xor_lt (k := 16) hb hr
  rw [crcK_app, crcK_cons, crcK_cons, crcK_nil, Int.toNat_natCast, Int.toNat_natCast, crc_two hr ht, Nat.xor_comm (invs 16 s), ← Nat.xor_assoc, Nat.xor_self, Nat.zero_xor]
  exact stps_invs 16 hs

/-! ## linear -/
theorem crcB_xor {a b c d : Nat} (ha : a < 65536) (hb : b < 65536) (hc : c < 256) (hd : d < 256) : crcB (a ^^^ b) (c ^^^ d) = crcB a c ^^^ crcB b d := by
  have e : (c ^^^ d) * 256 = c * 256 ^^^ d * 256 := xor_mul c d 8
  have e2 : (a ^^^ b) ^^^ (c * 256 ^^^ d * 256) = (a ^^^ c * 256) ^^^ (b ^^^ d * 256) := by
    rw [Nat.xor_assoc, ← Nat.xor_assoc b, Nat.xor_comm b (c * 256), Nat.xor_assoc, ← Nat.xor_assoc a]
  unfold crcB
  rw [e, e2, stps_xor 8 (xor_lt (k := 16) ha (by omega)) (xor_lt (k := 16) hb (by omega))]
theorem crcK_xor : ∀ (ks ls ms : List Int) {a b : Nat}, a < 65536 → b < 65536 → In ks → In ls → ks.length = ls.length → ks.length = ms.length →
    (∀ i (h1 : i < ks.length) (h2 : i < ls.length) (h3 : i < ms.length), ms[i].toNat = ks[i].toNat ^^^ ls[i].toNat) → crcK (a ^^^ b) ms = crcK a ks ^^^ crcK b ls
  | [], [], [], _, _, _, _, _, _, _, _, _ => by rw [crcK_nil, crcK_nil, crcK_nil]
  | k :: ks, l :: ls, m :: ms, a, b, ha, hb, hk, hl, e1, e2, hm => by
    have h0 : m.toNat = k.toNat ^^^ l.toNat := hm 0 (by simp) (by simp) (by simp)
    have h1 := hk.head
    have h2 := hl.head
    rw [crcK_cons, crcK_cons, crcK_cons, h0, crcB_xor ha hb (by omega) (by omega)]
    refine crcK_xor ks ls ms (crcB_lt ha (by omega)) (crcB_lt hb (by omega)) hk.tail hl.tail (by simpa using e1) (by simpa using e2) fun i g1 g2 g3 => ?_
    exact hm (i + 1) (by simpa using g1) (by simpa using g2) (by simpa using g3)
theorem crcK_noughts : ∀ (n : Nat) (ks : List Int), crcK 0 (List.replicate n 0 ++ ks) = crcK 0 ks
  | 0, _ => rfl
  | n + 1, ks => by
    have h0 : crcB 0 (0 : Int).toNat = 0 := by decide
    rw [List.replicate_succ, List.cons_append, crcK_cons, h0]
    exact crcK_noughts n ks
end Mine

/-! ### Crc1 -/
namespace Mine
open PySem PySem.W PyProof.Rows PySem.Calls PySem.Spec
theorem freshCrc1 : True := by
  w_top off
  trivial
noncomputable abbrev LS : List Str := looseW hd.view_39 [Str.ofString "key_slot"]
abbrev Cl (w : World) (s₀ : Shared) (mg mb : Str → Option Value) (f : Addr) (news : List (Addr × Obj)) (pre : Prop) (vs : List Value) (R : Tok → Value) : Prop :=
  CbClaim PySem.Challenge.rw_fe0275_01.row.prog w (hd.heap_39 w.params) hd.view_39 LS (ExcName.means s₀.heap) mg mb f news [] pre vs R

theorem end_one {h₀ h' : Heap} {L : Addr} {m' m₀ : Str → Option Value} {news' : List (Addr × Obj)} {own : List (Addr × Obj)} {s₁ : Shared} {tk : Nat} {stored : List Str} {x y : Str} {led : List (Addr × Obj)} {pre : List Int} {P : List Int → Nat × Tok → Prop} {a : Int} {b : Nat} {t : Tok}
    (hm : m' y = some (.int a t)) (hb : a = (b : Int)) (F : Fr h₀ L h' m') (N : News h₀ L h' news') (hn : news' = led ++ own) (hlt : b < 65536)
    (hr : ∀ z, z ≠ x → z ≠ y → stored.contains z = false → m' z = m₀ z) (hp : P pre (b, t)) :
    InvEndN h₀ L (KstS (fun _ => led) (fun c : Nat × Tok => [(y, Value.int (c.1 : Int) c.2)]) (fun c => c.1 < 65536) x stored m₀ P pre) own (led.map (·.1)) s₁ { s₁ with heap := h', toks := tk } := by
  subst hn
  refine kst_end (b, t) F N (fun p hp => List.mem_append_left _ hp) (fun p hp => List.mem_append_right _ hp) rfl hlt ?_ ?_ hp
  · intro p hp
    rw [List.mem_singleton.mp hp, hm, hb]
  · intro z h1 h2 h3
    exact hr z h1 (h2 _ (List.mem_singleton.mpr rfl)) h3

theorem stp_hi {v : Nat} (hv : v < 65536) (h : Builtin.bitAnd ((v : Int) * 2 ^ (1 : Int).toNat) 65536 ≠ 0) : Builtin.bitXor ((v : Int) * 2 ^ (1 : Int).toNat) 69665 = ((stp v : Nat) : Int) := by
  have e : (v : Int) * 2 ^ (1 : Int).toNat = ((2 * v : Nat) : Int) := by
    show (v : Int) * 2 ^ 1 = _
    omega
  have hb := kbt_bit ((2 * v : Nat) : Int) 16
  rw [e] at h ⊢
  have h5 : (65536 : Int) = 2 ^ 16 := by decide
  rw [h5, hb] at h
  have h6 : ((2 * v : Nat) : Int) / 2 ^ 16 % 2 ≠ 0 := by
    intro h0
    rw [h0, Int.zero_mul] at h
    exact h rfl
  have h7 : 32768 ≤ v := by omega
  rw [show (69665 : Int) = ((69665 : Nat) : Int) from rfl, bxor_nat]
  unfold stp
  rw [if_pos h7]
theorem stp_lo {v : Nat} (hv : v < 65536) (h : Builtin.bitAnd ((v : Int) * 2 ^ (1 : Int).toNat) 65536 = 0) : (v : Int) * 2 ^ (1 : Int).toNat = ((stp v : Nat) : Int) := by
  have e : (v : Int) * 2 ^ (1 : Int).toNat = ((2 * v : Nat) : Int) := by
    show (v : Int) * 2 ^ 1 = _
    omega
  have hb := kbt_bit ((2 * v : Nat) : Int) 16
  rw [e] at h ⊢
  have h5 : (65536 : Int) = 2 ^ 16 := by decide
  rw [h5, hb] at h
  have h7 : ¬ 32768 ≤ v := by omega
  unfold stp
  rw [if_neg h7]
theorem byte_in {v : Nat} {n : Int} (h0 : 0 ≤ n) (h1 : n < 256) : Builtin.bitXor (v : Int) (n * 2 ^ (8 : Int).toNat) = ((v ^^^ n.toNat * 256 : Nat) : Int) := by
  have e : n * 2 ^ (8 : Int).toNat = ((n.toNat * 256 : Nat) : Int) := by
    show n * 2 ^ 8 = _
    omega
  rw [e, bxor_nat]

set_option maxHeartbeats 8000000 in
theorem crc_K (w : World) (s₀ : Shared) (mg mb : Str → Option Value) (news : List (Addr × Obj)) (b : Array UInt8) (tb : Tok) (ks : List Int) (hb : KBw.bInts b = ks) (v : Nat) (tv : Tok) (hv : v < 65536) :
    Cl w s₀ mg mb 21 news True [.bytes b tb, .int v tv] (fun t => .int (crcK v ks : Nat) t) := by
  unfold Cl
  k_fill
  dsimp only [CbClaim, CbLists, CbRet]
  intro dp un gd cn cs a ccd cl outer A₀ base h₀ L m s Q E hB hF hK hN hT hcs _ hdp hun hret
  refine wpAny_call ?_
  k_dflt cell_enter
  iterate 4 walk1
  rename Fr _ _ _ _ => F0
  rename News _ _ _ _ => N0
  with_unfolding_all refine' KStb.kst_bytes (σ := Nat × Tok) (fun _ => news) (fun c => [(Str.ofString "value", Value.int (c.1 : Int) c.2)]) (fun c => c.1 < 65536) [Str.ofString "_"] (fun pre c => c.1 = crcK v pre) (v, tv) hb rfl rfl F0 N0 hv (by intro p hp; rw [List.mem_singleton.mp hp]; rfl) (by rw [crcK_nil]) ?_ ?_
  · clear F0 N0
    intro c pre post n t u h tk own hks hpl h0 h1 hoff hf hP F N
    k_fold
    dsimp only at F N
    iterate 19 walk1
    rename Fr _ _ _ _ => F1
    rename News _ _ _ _ => N1
    rename IsRange _ _ _ _ _ _ _ _ => R1
    have hx := byte_in (v := c.1) h0 h1
    have hlt : c.1 ^^^ n.toNat * 256 < 65536 := xor_lt (k := 16) hf (by omega)
    with_unfolding_all refine' kst_range (σ := Nat × Tok) (n := 8) (fun _ => news ++ own) (fun c => [(Str.ofString "value", Value.int (c.1 : Int) c.2)]) (fun c => c.1 < 65536) [] (fun pre d => d.1 = stps pre.length (c.1 ^^^ n.toNat * 256)) (c.1 ^^^ n.toNat * 256, _) rfl R1 rfl rfl F1 N1 hlt (by intro p hp; rw [List.mem_singleton.mp hp, ← hx]; rfl) rfl ?_ ?_
    · clear F1 N1 R1
      intro d pre' k t' u' h' tk' own' hk1 hk2 hoff' hf' hP' F N
      k_fold
      dsimp only at F N
      k_steps
      all_goals (rename Fr _ _ _ _ => F2; rename News _ _ _ _ => N2)
      · rename Builtin.bitAnd _ _ ≠ 0 => hc
        refine end_one (by rfl) (stp_hi hf' hc) F2 N2 rfl (stp_lt hf') ?_ ?_
        · intro z h1 h2 _
          simp only [if_neg h1, if_neg h2, kstB]
          rfl
        · show stp d.1 = stps (pre' ++ [k]).length _
          rw [hP', List.length_append, List.length_singleton]
          rfl
      · rename Builtin.bitAnd _ _ = 0 => hc
        refine end_one (by rfl) (stp_lo hf' hc) F2 N2 rfl (stp_lt hf') ?_ ?_
        · intro z h1 h2 _
          simp only [if_neg h1, if_neg h2, kstB]
          rfl
        · show stp d.1 = stps (pre' ++ [k]).length _
          rw [hP', List.length_append, List.length_singleton]
          rfl
    · clear F1 N1 R1
      intro d u' h' tk' hf' hP' F N
      dsimp only at F N ⊢
      walk1
      k_unfold
      try dsimp only
      walk1
      refine end_one (by rfl) rfl F N rfl hf' ?_ ?_
      · intro z h1 h2 h3
        by_cases h4 : z = Str.ofString "_"
        · subst h4
          exact absurd h3 (by decide)
        · simp only [if_neg h1, if_neg h2, if_neg h4, kstB, h3, List.contains_nil, Bool.false_eq_true, if_false]
      · show d.1 = crcK v (pre ++ [n])
        rw [hP', crcK_app, ← hP, crcK_cons, crcK_nil, rangeKs_length]
        rfl
  · intro c u h tk hlen hf hP F N
    clear F0 N0
    dsimp only at F N ⊢
    iterate 4 walk1
    rw [hP]
    exact hret _ _ _ (by assumption) (by assumption)
end Mine

/-! ### Back -/
namespace Mine
open PySem PySem.W PyProof.Rows PySem.Calls PySem.Spec
theorem freshBack : True := by
  w_top off
  trivial

theorem inv_hi {v : Nat} (h : (v : Int).fmod 2 = 1) : (Builtin.bitXor (v : Int) 69665).fdiv 2 = ((inv v : Nat) : Int) := by
  rw [Int.fmod_eq_emod_of_nonneg _ (by decide)] at h
  rw [show (69665 : Int) = ((69665 : Nat) : Int) from rfl, bxor_nat, Int.fdiv_eq_ediv_of_nonneg _ (by decide)]
  unfold inv
  rw [if_pos (by omega)]
  omega
theorem inv_lo {v : Nat} (h : (v : Int).fmod 2 ≠ 1) : (v : Int).fdiv 2 = ((inv v : Nat) : Int) := by
  rw [Int.fmod_eq_emod_of_nonneg _ (by decide)] at h
  rw [Int.fdiv_eq_ediv_of_nonneg _ (by decide)]
  unfold inv
  rw [if_neg (by omega)]
  omega
set_option maxHeartbeats 8000000 in
theorem back_K (w : World) (s₀ : Shared) (mg mb : Str → Option Value) (news : List (Addr × Obj)) (v : Nat) (tv : Tok) (hv : v < 65536) :
    Cl w s₀ mg mb 43 news True [.int v tv] (fun t => .int (invs 16 v : Nat) t) := by
  unfold Cl
  k_fill
  dsimp only [CbClaim, CbLists, CbRet]
  intro dp un gd cn cs a ccd cl outer A₀ base h₀ L m s Q E hB hF hK hN hT hcs _ hdp hun hret
  refine wpAny_call ?_
  k_dflt cell_enter
  iterate 10 walk1
  rename Fr _ _ _ _ => F1
  rename News _ _ _ _ => N1
  rename IsRange _ _ _ _ _ _ _ _ => R1
  with_unfolding_all refine' kst_range (σ := Nat × Tok) (n := 16) (fun _ => news) (fun c => [(Str.ofString "value", Value.int (c.1 : Int) c.2)]) (fun c => c.1 < 65536) [] (fun pre d => d.1 = invs pre.length v) (v, _) rfl R1 rfl rfl F1 N1 hv (by intro p hp; rw [List.mem_singleton.mp hp]; rfl) rfl ?_ ?_
  · clear F1 N1 R1
    intro d pre' k t' u' h' tk' own' hk1 hk2 hoff' hf' hP' F N
    k_fold
    dsimp only at F N
    k_steps
    all_goals (rename Fr _ _ _ _ => F2; rename News _ _ _ _ => N2)
    · rename Int.fmod _ _ = 1 => hc
      refine end_one (by rfl) (inv_hi hc) F2 N2 rfl (inv_lt hf') ?_ ?_
      · intro z h1 h2 _
        simp only [if_neg h1, if_neg h2, kstB]
        rfl
      · show inv d.1 = invs (pre' ++ [k]).length _
        rw [hP', List.length_append, List.length_singleton]
        rfl
    · rename Int.fmod _ _ ≠ 1 => hc
      refine end_one (by rfl) (inv_lo hc) F2 N2 rfl (inv_lt hf') ?_ ?_
      · intro z h1 h2 _
        simp only [if_neg h1, if_neg h2, kstB]
        rfl
      · show inv d.1 = invs (pre' ++ [k]).length _
        rw [hP', List.length_append, List.length_singleton]
        rfl
  · clear F1 N1 R1
    intro d u' h' tk' hf' hP' F N
    dsimp only at F N ⊢
    iterate 4 walk1
    rw [show d.1 = invs 16 v by rw [hP', rangeKs_length]]
    exact hret _ _ _ (by assumption) (by assumption)
end Mine

/-! ### Rest -/
namespace Mine
open PySem PySem.W PyProof.Rows PySem.Calls PySem.Spec
theorem freshRest : True := by
  w_top off
  trivial
theorem end_g {h₀ h' : Heap} {L : Addr} {m' m₀ : Str → Option Value} {news' : List (Addr × Obj)} {own : List (Addr × Obj)} {s₁ : Shared} {tk : Nat} {stored : List Str} {x y : Str} {led : List (Addr × Obj)} {pre : List Int} {P : List Int → Nat × Tok → Prop} {a : Int} {b : Nat} {t : Tok}
    (hm : m' y = some (.int a t)) (hb : a = (b : Int)) (F : Fr h₀ L h' m') (N : News h₀ L h' news') (hn : news' = led ++ own)
    (hr : ∀ z, z ≠ x → z ≠ y → stored.contains z = false → m' z = m₀ z) (hp : P pre (b, t)) :
    InvEndN h₀ L (KstS (fun _ => led) (fun c : Nat × Tok => [(y, Value.int (c.1 : Int) c.2)]) (fun _ => True) x stored m₀ P pre) own (led.map (·.1)) s₁ { s₁ with heap := h', toks := tk } := by
  subst hn
  refine kst_end (b, t) F N (fun p hp => List.mem_append_left _ hp) (fun p hp => List.mem_append_right _ hp) rfl trivial ?_ ?_ hp
  · intro p hp
    rw [List.mem_singleton.mp hp, hm, hb]
  · intro z h1 h2 h3
    exact hr z h1 (h2 _ (List.mem_singleton.mpr rfl)) h3

theorem two_pow_cast (k : Nat) : (2 : Int) ^ k = ((2 ^ k : Nat) : Int) := (kbt_cast k).symm
theorem place_bit {d j : Nat} {k : Int} (h : k = (j : Int)) : ((d : Int).fdiv (2 ^ (k + 16).toNat)).fmod 2 = 1 ↔ d / 2 ^ (j + 16) % 2 = 1 := by
  have e : (k + 16).toNat = j + 16 := by omega
  rw [e, two_pow_cast, Int.fdiv_eq_ediv_of_nonneg _ (Int.natCast_nonneg _), Int.fmod_eq_emod_of_nonneg _ (by decide)]
  rw [← Int.natCast_ediv]
  omega
theorem place_xor {d j : Nat} {k : Int} (h : k = (j : Int)) : Builtin.bitXor (d : Int) (69665 * 2 ^ k.toNat) = ((d ^^^ 69665 * 2 ^ j : Nat) : Int) := by
  have e : k.toNat = j := by omega
  rw [e, two_pow_cast, show (69665 : Int) = ((69665 : Nat) : Int) from rfl, ← Int.natCast_mul, bxor_nat]
set_option maxHeartbeats 8000000 in
theorem rest_K (w : World) (s₀ : Shared) (mg mb : Str → Option Value) (news : List (Addr × Obj)) (b : Array UInt8) (tb : Tok) (ks : List Int) (hb : KBw.bInts b = ks) (hlen : ks.length ≤ 100) (hin : In ks) :
    Cl w s₀ mg mb 36 news True [.bytes b tb] (fun t => .int (crcK 0 ks : Nat) t) := by
  unfold Cl
  k_fill
  dsimp only [CbClaim, CbLists, CbRet]
  intro dp un gd cn cs a ccd cl outer A₀ base h₀ L m s Q E hB hF hK hN hT hcs _ hdp hun hret
  refine wpAny_call ?_
  k_dflt cell_enter
  iterate 6 walk1
  rename Fr _ _ _ _ => lF
  with_unfolding_all refine' For_invVF lF ?k1 ?k2 ?_
  case k1 => exact rfl
  case k2 => exact rfl

  iterate 4 walk1
  rename Fr _ _ _ _ => F0
  rename News _ _ _ _ => N0
  rename KBw.bInts (_ ++ _) = _ => hap
  with_unfolding_all refine' KStb.kst_bytes (σ := Nat × Tok) (ks := ks ++ [0, 0]) (fun _ => news) (fun c => [(Str.ofString "value", Value.int (c.1 : Int) c.2)]) (fun _ => True) [] (fun pre c => c.1 = big 0 pre) (0, _) hap rfl rfl F0 N0 trivial (by intro p hp; rw [List.mem_singleton.mp hp]; rfl) rfl ?_ ?_
  · clear F0 N0 hap
    intro c pre post n t u h tk own hks hpl h0 h1 hoff hf hP F N
    k_fold
    dsimp only at F N
    iterate 11 walk1
    k_unfold
    try dsimp only
    walk1
    rename Fr _ _ _ _ => F2
    rename News _ _ _ _ => N2
    refine end_g (by rfl) (show (c.1 : Int) * 256 + n = ((c.1 * 256 + n.toNat : Nat) : Int) by omega) F2 N2 rfl ?_ ?_
    · intro z h1 h2 h3
      simp only [if_neg h1, if_neg h2, kstB]
      rfl
    · show c.1 * 256 + n.toNat = big 0 (pre ++ [n])
      rw [hP]
      unfold big
      rw [List.foldl_append]
      rfl
  · intro c u h tk _ hf hP F N
    clear F0 N0 hap
    dsimp only at F N ⊢
    iterate 29 walk1
    rename Fr _ _ _ _ => F1
    rename News _ _ _ _ => N1
    rename IsRange _ _ _ _ _ _ _ _ => R1
    with_unfolding_all refine' kst_rangeD (σ := Nat × Tok) (n := 8 * ks.length) (fun _ => news) (fun c => [(Str.ofString "value", Value.int (c.1 : Int) c.2)]) (fun _ => True) [] (fun pre d => red (8 * ks.length - pre.length) d.1 = crcK 0 ks) (c.1, _) rfl R1 (small_down (by omega) (by omega) (by omega) (by omega)) (by rw [rangeSize_downNat]; omega) F1 N1 trivial (by intro p hp; rw [List.mem_singleton.mp hp]; rfl) (by rw [hP]; exact red_rest hin) ?_ ?_
    · clear F1 N1 R1
      intro d pre' k t' u' h' tk' own' hk1 hk2 hoff' hf' hP' F N
      k_fold
      try dsimp only at F N
      obtain ⟨j, hj⟩ : ∃ j, 8 * ks.length - (pre'.length + 1) = j := ⟨_, rfl⟩
      have hj' : 8 * ks.length - pre'.length = j + 1 := by omega
      have hkj : k = (j : Int) := by omega
      iterate 20 walk1
      · iterate 16 walk1
        k_unfold
        try dsimp only
        walk1
        rename Fr _ _ _ _ => F2
        rename News _ _ _ _ => N2
        rename Int.fmod _ _ = 1 => hc
        refine end_g (by rfl) (place_xor hkj) F2 N2 rfl ?_ ?_
        · intro z h1 h2 h3
          simp only [if_neg h1, if_neg h2, kstB]
          rfl
        · show red (8 * ks.length - (pre' ++ [k]).length) (d.1 ^^^ 69665 * 2 ^ j) = crcK 0 ks
          rw [List.length_append, List.length_singleton, ← hP', hj, hj', red, if_pos ((place_bit hkj).mp hc)]
      · iterate 3 walk1
        k_unfold
        try dsimp only
        walk1
        rename Int.fmod _ _ ≠ 1 => hc
        refine end_g (by rfl) rfl F N rfl ?_ ?_
        · intro z h1 h2 h3
          simp only [if_neg h1, if_neg h2, kstB]
          rfl
        · show red (8 * ks.length - (pre' ++ [k]).length) d.1 = crcK 0 ks
          rw [List.length_append, List.length_singleton, ← hP', hj, hj', red, if_neg (fun h => hc ((place_bit hkj).mpr h))]
    · clear F1 N1 R1
      intro d u' h' tk' hf' hP' F N
      dsimp only at F N ⊢
      iterate 4 walk1
      rw [show d.1 = crcK 0 ks by rw [← hP', downKs_length, Nat.sub_self]; rfl]
      exact hret _ _ _ (by assumption) (by assumption)
end Mine

/-! ### Find -/
namespace Mine
open PySem PySem.W PyProof.Rows PySem.Calls PySem.Spec
theorem freshFind : True := by
  w_top off
  trivial
open Builtin
theorem slot_find : Slot "bytes" "find" "bytes.find" :=
  .of (owner := "bytes") (n := "find") (by rw [typeLookup_type, builtinLookup_eq_fast]; kernel_rfl) (by decide +kernel) (by decide +kernel) (by decide +kernel)
    (by first | exact .inl (by decide +kernel) | exact .inr (by decide +kernel)) (by rw [isSubtype_type]; kernel_rfl)
theorem type_find : typeOf (.builtin "bytes.find") = pure (.type "method_descriptor") := by show builtinType _ = _; rw [builtinType_eq_fast]; kernel_rfl
theorem entry_find : entryFor table "bytes.find" = some Builtin.«bytes.find» := entryFor_of_tree (by kernel_rfl)
theorem args_find_2 (a b : Value) : argsOk "bytes.find" ⟨[a, b], []⟩ := by
  unfold argsOk; rw [signature?_of (id := "bytes.find") (n := ['d', 'n', 'i', 'f']) (o := ['s', 'e', 't', 'y', 'b']) (by kernel_rfl) FB.owner_bytes]; kernel_rfl
theorem args_find_3 (a b c : Value) : argsOk "bytes.find" ⟨[a, b, c], []⟩ := by
  unfold argsOk; rw [signature?_of (id := "bytes.find") (n := ['d', 'n', 'i', 'f']) (o := ['s', 'e', 't', 'y', 'b']) (by kernel_rfl) FB.owner_bytes]; kernel_rfl

def fnd (b c : Array UInt8) (lo : Nat) : Int :=
  match Bytes.find? b c lo b.size with
  | some i => (i : Int)
  | none => -1

theorem find?_short {b c : Array UInt8} {lo : Nat} (h : b.size < lo + c.size) : Bytes.find? b c lo b.size = none := by
  unfold Bytes.find?
  rw [show b.size + 1 - (lo + c.size) = 0 by omega]
  rfl

theorem win_eq {b c : Array UInt8} {lo : Nat} :
    ((if (b.size : Int) - (lo : Int) < (c.size : Int) then none else some (lo, b.size)).bind fun x : Nat × Nat => match x with | (lo, hi) => if false = true then Bytes.rfind? b c lo hi else Bytes.find? b c lo hi) = Bytes.find? b c lo b.size := by
  split
  · rw [find?_short (by omega)]
    rfl
  · rfl
theorem find_tail {M : Model} {A : Around} {E : Value → Shared → Prop} {s : Shared} {Q : Value → Shared → Prop} {r : Option Nat} (hq : Q (.int (match r with | some i => (i : Int) | none => -1) s.toks) { s with toks := s.toks + 1 }) :
    wpAny M A (match r with
      | some i => retInt i
      | none => do
        rule (toString Bytes.Kind.bytes.name ++ toString "." ++ toString "find" ++ toString ".not-found")
        if false = true then raiseErrorWords "ValueError" "subsection not found" else retInt (-1)) (fun fin s' => ∃ v, fin = Fin.done (Flow.ret v) ∧ Q v s') E s := by
  cases r with
  | some i => exact wpAny_bind (wpAny_mkInt (wpAny_pure ⟨_, rfl, hq⟩))
  | none =>
    refine wpAny_bind (wpAny_rule ?_)
    rw [if_neg Bool.false_ne_true]
    exact wpAny_bind (wpAny_mkInt (wpAny_pure ⟨_, rfl, hq⟩))

section
variable {b c : Array UInt8} {t u v : Tok} {i : Int}
theorem gives_find2 : Gives («bytes.find» ⟨[.bytes b t, .bytes c u], []⟩) (.int (fnd b c 0)) := by
  refine .of_wp fun M A E s Q hq => ?_
  show wpAny M A (Bytes.searchArgs .bytes "find" ⟨[.bytes b t, .bytes c u], []⟩ >>= fun r => _) _ E s
  refine wpAny_bind ?_
  unfold Bytes.searchArgs
  refine wpAny_bind (wpAny_of_eq (a := (Value.bytes b t, [Value.bytes c u])) rfl ?_)
  refine wpAny_bind (wpAny_of_eq (a := none) rfl ?_)
  refine wpAny_bind (wpAny_of_eq (a := none) rfl ?_)
  refine wpAny_bind (wpAny_of_eq KBy.buffer_eq ?_)
  refine wpAny_bind (wpAny_pure ?_)
  refine wpAny_bind (wpAny_of_eq (a := b) rfl ?_)
  refine wpAny_pure ?_
  have e : (if min (b.size : Int) ((fun i : Int => if i < 0 then max 0 (i + b.size) else i) ((none : Option Int).getD b.size)) - (fun i : Int => if i < 0 then max 0 (i + b.size) else i) ((none : Option Int).getD 0) < (c.size : Int) then none
        else some (((fun i : Int => if i < 0 then max 0 (i + b.size) else i) ((none : Option Int).getD 0)).toNat, (min (b.size : Int) ((fun i : Int => if i < 0 then max 0 (i + b.size) else i) ((none : Option Int).getD b.size))).toNat))
      = if (b.size : Int) - ((0 : Nat) : Int) < (c.size : Int) then none else some (0, b.size) := by
    have e1 : ¬ ((b.size : Int) < 0) := by omega
    simp only [Option.getD_none, if_neg e1, Int.min_self, Int.lt_irrefl, if_false, Int.toNat_natCast]
    rfl
  simp only []
  rw [e, win_eq]
  exact find_tail hq
theorem gives_find3 (h0 : 0 ≤ i) : Gives («bytes.find» ⟨[.bytes b t, .bytes c u, .int i v], []⟩) (.int (fnd b c i.toNat)) := by
  refine .of_wp fun M A E s Q hq => ?_
  show wpAny M A (Bytes.searchArgs .bytes "find" ⟨[.bytes b t, .bytes c u, .int i v], []⟩ >>= fun r => _) _ E s
  refine wpAny_bind ?_
  unfold Bytes.searchArgs
  refine wpAny_bind (wpAny_of_eq (a := (Value.bytes b t, [Value.bytes c u, .int i v])) rfl ?_)
  refine wpAny_bind (wpAny_bind (wpAny_specialOf (T := "int") (typeIs_int _ _ _) F.slot_int_index.lookup ?_))
  refine wpAny_ite (KBy.ite_no (show ¬ (Option.isNone (some _) = true) from Bool.false_ne_true) ?_)
  refine wpAny_bind (wpAny_of_eq (a := i) rfl (wpAny_pure ?_))
  refine wpAny_bind (wpAny_of_eq (a := none) rfl ?_)
  refine wpAny_bind (wpAny_of_eq KBy.buffer_eq ?_)
  refine wpAny_bind (wpAny_pure ?_)
  refine wpAny_bind (wpAny_of_eq (a := b) rfl ?_)
  refine wpAny_pure ?_
  have e : (if min (b.size : Int) ((fun i : Int => if i < 0 then max 0 (i + b.size) else i) ((none : Option Int).getD b.size)) - (fun i : Int => if i < 0 then max 0 (i + b.size) else i) ((some i : Option Int).getD 0) < (c.size : Int) then none
        else some (((fun i : Int => if i < 0 then max 0 (i + b.size) else i) ((some i : Option Int).getD 0)).toNat, (min (b.size : Int) ((fun i : Int => if i < 0 then max 0 (i + b.size) else i) ((none : Option Int).getD b.size))).toNat))
      = if (b.size : Int) - ((i.toNat : Nat) : Int) < (c.size : Int) then none else some (i.toNat, b.size) := by
    have e1 : ¬ ((b.size : Int) < 0) := by omega
    have e2 : ¬ (i < 0) := by omega
    simp only [Option.getD_none, Option.getD_some, if_neg e1, if_neg e2, Int.min_self, Int.toNat_natCast, Int.toNat_of_nonneg h0]
  simp only []
  rw [e, win_eq]
  exact find_tail hq
end
section
variable {prog : Program} {w : World} {A : Around} {E : Value → Shared → Prop} {s : Shared} {b c : Array UInt8} {t u v : Tok} {i : Int}
theorem call_find2 {Q : Value → Shared → Prop} (h : Q (.int (fnd b c 0) s.toks) { s with toks := s.toks + 1 }) : wpAny (model prog w) A (call (.builtin "bytes.find") [.bytes b t, .bytes c u]) Q E s :=
  call_gives slot_find (typeIs_bytes _ _ _) entry_find (args_find_2 _ _) gives_find2 h
theorem call_find3 {Q : Value → Shared → Prop} (h0 : 0 ≤ i) (h : Q (.int (fnd b c i.toNat) s.toks) { s with toks := s.toks + 1 }) : wpAny (model prog w) A (call (.builtin "bytes.find") [.bytes b t, .bytes c u, .int i v]) Q E s :=
  call_gives slot_find (typeIs_bytes _ _ _) entry_find (args_find_3 _ _ _) (gives_find3 h0) h
theorem method_find {M : Model} {b : Array UInt8} {pl : Sem Bool} {Q : Value × List Value → Shared → Prop} (h : Q (.builtin "bytes.find", [.bytes b t]) s) : wpAny M A (getMethod (.bytes b t) "find" pl) Q E s := by
  with_reducible exact KBd.method_of (.bytes b t) (typeIs_bytes _ _ _) slot_find type_find KBd.noRef h
end

/-! ## what it finds -/
def fndK (c : Int) (ks : List Int) (lo : Nat) : Int :=
  match (ks.drop lo).findIdx? (· == c) with
  | some i => ((lo + i : Nat) : Int)
  | none => -1
theorem find_range {α : Type} [BEq α] [LawfulBEq α] (c : α) : ∀ m : List α, (List.range m.length).find? (fun j => m[j]? == some c) = m.findIdx? (· == c)
  | [] => rfl
  | x :: m => by
    have ih := find_range c m
    rw [List.length_cons, List.range_succ_eq_map, List.find?_cons, List.findIdx?_cons]
    by_cases h : x = c
    · subst h
      simp
    · have h1 : ((x :: m)[0]? == some c) = false := by simp [h]
      have h2 : (x == c) = false := by simp [h]
      rw [h1, h2, List.find?_map]
      simp only [Bool.false_eq_true, if_false]
      rw [← ih]
      congr 1
theorem fnd_one {b : Array UInt8} {c : UInt8} {ks : List Int} {k : Int} {lo : Nat} (hb : KBw.bInts b = ks) (hc : (c.toNat : Int) = k) : fnd b #[c] lo = fndK k ks lo := by
  subst hb hc
  have e : Bytes.find? b #[c] lo b.size = ((b.toList.drop lo).findIdx? (· == c)).map (lo + ·) := by
    unfold Bytes.find?
    rw [show b.size + 1 - (lo + (#[c] : Array UInt8).size) = (b.toList.drop lo).length by rw [List.length_drop, Array.length_toList]; show b.size + 1 - (lo + 1) = _; omega]
    rw [← find_range, List.find?_map]
    have hf : ∀ l : List Nat, (∀ j ∈ l, j < (b.toList.drop lo).length) → l.find? ((fun i => b.extract i (i + (#[c] : Array UInt8).size) == #[c]) ∘ (· + lo)) = l.find? (fun j => (b.toList.drop lo)[j]? == some c) := by
      intro l
      induction l with
      | nil => intro _; rfl
      | cons j l ih =>
        intro hl
        have hj := hl j (List.mem_cons_self ..)
        have hj' : j + lo < b.size := by rw [List.length_drop, Array.length_toList] at hj; omega
        have e1 : ((fun i => b.extract i (i + (#[c] : Array UInt8).size) == #[c]) ∘ (· + lo)) j = ((b.toList.drop lo)[j]? == some c) := by
          show (b.extract (j + lo) (j + lo + 1) == #[c]) = _
          rw [List.getElem?_drop, Array.getElem?_toList, Nat.add_comm lo j]
          have e2 : b.extract (j + lo) (j + lo + 1) = #[b[j + lo]] := by
            apply Array.ext
            · simp; omega
            · intro i h1 h2
              have : i = 0 := by simp at h2; omega
              subst this
              simp
          rw [e2, Array.getElem?_eq_getElem hj']
          by_cases h : b[j + lo] = c
          · simp [h]
          · simp [h]
        rw [List.find?_cons, List.find?_cons, e1, ih fun i hi => hl i (List.mem_cons_of_mem _ hi)]
    rw [hf _ fun j hj => List.mem_range.mp hj]
    congr 1
    funext i
    exact Nat.add_comm _ _
  have e2 : ((KBw.bInts b).drop lo).findIdx? (· == (c.toNat : Int)) = (b.toList.drop lo).findIdx? (· == c) := by
    show ((b.toList.map fun c => (c.toNat : Int)).drop lo).findIdx? _ = _
    rw [← List.map_drop, List.findIdx?_map]
    congr 1
    funext x
    show ((x.toNat : Int) == (c.toNat : Int)) = (x == c)
    by_cases h : x = c
    · subst h; simp
    · have : ¬ x.toNat = c.toNat := fun q => h (UInt8.toNat_inj.mp q)
      have h3 : ¬ ((x.toNat : Int) = (c.toNat : Int)) := by omega
      rw [beq_eq_false_iff_ne.mpr h, beq_eq_false_iff_ne.mpr h3]
  unfold fnd fndK
  rw [e, e2]
  cases (b.toList.drop lo).findIdx? (· == c) <;> rfl

/-! ## the part that counts -/
def effK (ks : List Int) : List Int :=
  if fndK 123 ks 0 > -1 then
    if fndK 125 ks (fndK 123 ks 0 + 1).toNat > -1 ∧ fndK 125 ks (fndK 123 ks 0 + 1).toNat ≠ fndK 123 ks 0 + 1 then
      (ks.drop (fndK 123 ks 0 + 1).toNat).take ((fndK 125 ks (fndK 123 ks 0 + 1).toNat).toNat - (fndK 123 ks 0 + 1).toNat)
    else ks
  else ks
theorem fndK_range {c : Int} {ks : List Int} {lo : Nat} (h : fndK c ks lo ≠ -1) : (lo : Int) ≤ fndK c ks lo ∧ fndK c ks lo < (ks.length : Int) := by
  unfold fndK at h ⊢
  split
  · rename_i i hi
    rw [List.findIdx?_eq_some_iff_getElem] at hi
    obtain ⟨h1, _⟩ := hi
    rw [List.length_drop] at h1
    omega
  · rename_i hi
    rw [hi] at h
    exact absurd rfl h
theorem fndK_ge {c : Int} {ks : List Int} {lo : Nat} : -1 ≤ fndK c ks lo := by
  by_cases h : fndK c ks lo = -1
  · omega
  · have := fndK_range h
    omega
theorem eff_at {ks : List Int} (h : fndK 125 ks (fndK 123 ks 0 + 1).toNat = fndK 123 ks 0 + 1) : effK ks = ks := by
  unfold effK
  split
  · rw [if_neg (fun q => q.2 h)]
  · rfl
theorem eff_no2 {ks : List Int} (h : ¬ -1 < fndK 125 ks (fndK 123 ks 0 + 1).toNat) : effK ks = ks := by
  unfold effK
  split
  · rw [if_neg (fun q => h q.1)]
  · rfl
theorem eff_no {ks : List Int} (h : ¬ -1 < fndK 123 ks 0) : effK ks = ks := by
  unfold effK
  rw [if_neg h]
end Mine

/-! ### Slot -/
namespace Mine
open PySem PySem.W PyProof.Rows PySem.Calls PySem.Spec
theorem freshSlot : True := by
  w_top off
  trivial
theorem use_K {w : World} {s₀ : Shared} {mg mb : Str → Option Value} {f : Addr} {news : List (Addr × Obj)} {pre : Prop} {vs : List Value} {R : Tok → Value} {dp un : Nat} {gd : Option (List Code)} {cn : Str} {cs : Scope} {a : Addr} {ccd : Value} {cl : List (Str × Addr)} {outer : List Env} {A₀ : Around} {base h₀ : Heap} {L : Addr} {m : Str → Option Value} {s : Shared} {Q E : Value → Shared → Prop}
    (hB : Below A₀ base outer h₀) (F : Fr h₀ L s.heap m) (X : (hd.heap_39 w.params).In h₀) (N : News h₀ L s.heap news) (T : Top hd.view_39 LS (ExcName.means s₀.heap) mg mb h₀) (hcs : cs.kind = .function) (C : Cl w s₀ mg mb f news pre vs R) (hp : pre) (hdp : dp + 1 < recursionLimit) (hun : un + 8 < cLine)
    (ret : ∀ (t : Tok) (h' : Heap) (tk' : Nat), Fr h₀ L h' m → News h₀ L h' news → Q (R t) { s with heap := h', toks := tk' }) :
    wpAny (model PySem.Challenge.rw_fe0275_01.row.prog w) (ktrTop dp un gd cn cs L a ccd cl outer) (call (.ref f) vs) Q E s :=
  C dp un gd cn cs a ccd cl outer A₀ base h₀ L m s Q E hB F X N T hcs hp hdp hun ret
def Cl2 (w : World) (s₀ : Shared) (mg mb : Str → Option Value) (f : Addr) (news : List (Addr × Obj)) (vs : List Value) (R : Tok → Value) : Prop :=
  ∀ (dp un : Nat) (gd : Option (List Code)) (cn : Str) (cs : Scope) (a : Addr) (ccd : Value) (cl : List (Str × Addr)) (outer : List Env) (A₀ : Around) (base h₀ : Heap) (L : Addr) (m : Str → Option Value) (s : Shared) (Q E : Value → Shared → Prop),
    Below A₀ base outer h₀ → Fr h₀ L s.heap m → (hd.heap_39 w.params).In h₀ → News h₀ L s.heap news → Top hd.view_39 LS (ExcName.means s₀.heap) mg mb h₀ → cs.kind = .function →
    dp + 2 < recursionLimit → un + 16 < cLine → (∀ (t : Tok) (h' : Heap) (tk' : Nat), Fr h₀ L h' m → News h₀ L h' news → Q (R t) { s with heap := h', toks := tk' }) →
    wpAny (model PySem.Challenge.rw_fe0275_01.row.prog w) (ktrTop dp un gd cn cs L a ccd cl outer) (call (.ref f) vs) Q E s
theorem use_K2 {w : World} {s₀ : Shared} {mg mb : Str → Option Value} {f : Addr} {news : List (Addr × Obj)} {vs : List Value} {R : Tok → Value} {dp un : Nat} {gd : Option (List Code)} {cn : Str} {cs : Scope} {a : Addr} {ccd : Value} {cl : List (Str × Addr)} {outer : List Env} {A₀ : Around} {base h₀ : Heap} {L : Addr} {m : Str → Option Value} {s : Shared} {Q E : Value → Shared → Prop}
    (hB : Below A₀ base outer h₀) (F : Fr h₀ L s.heap m) (X : (hd.heap_39 w.params).In h₀) (N : News h₀ L s.heap news) (T : Top hd.view_39 LS (ExcName.means s₀.heap) mg mb h₀) (hcs : cs.kind = .function) (C : Cl2 w s₀ mg mb f news vs R) (hdp : dp + 2 < recursionLimit) (hun : un + 16 < cLine)
    (ret : ∀ (t : Tok) (h' : Heap) (tk' : Nat), Fr h₀ L h' m → News h₀ L h' news → Q (R t) { s with heap := h', toks := tk' }) :
    wpAny (model PySem.Challenge.rw_fe0275_01.row.prog w) (ktrTop dp un gd cn cs L a ccd cl outer) (call (.ref f) vs) Q E s :=
  C dp un gd cn cs a ccd cl outer A₀ base h₀ L m s Q E hB F X N T hcs hdp hun ret
theorem crc_K0 (w : World) (s₀ : Shared) (mg mb : Str → Option Value) (news : List (Addr × Obj)) (b : Array UInt8) (tb : Tok) (ks : List Int) (hb : KBw.bInts b = ks) (tv : Tok) :
    Cl w s₀ mg mb 21 news True [.bytes b tb, .int 0 tv] (fun t => .int (crcK 0 ks : Nat) t) := crc_K w s₀ mg mb news b tb ks hb 0 tv (by decide)

theorem find123 {prog : Program} {w : World} {A : Around} {E : Value → Shared → Prop} {s : Shared} {b : Array UInt8} {t u : Tok} {ks : List Int} {Q : Value → Shared → Prop} (hb : KBw.bInts b = ks) (h : Q (.int (fndK 123 ks 0) s.toks) { s with toks := s.toks + 1 }) :
    wpAny (model prog w) A (call (.builtin "bytes.find") [.bytes b t, .bytes #[123] u]) Q E s := by
  refine call_find2 ?_
  rw [fnd_one hb (show ((123 : UInt8).toNat : Int) = 123 from rfl)]
  exact h
theorem find125 {prog : Program} {w : World} {A : Around} {E : Value → Shared → Prop} {s : Shared} {b : Array UInt8} {t u v : Tok} {i : Int} {ks : List Int} {Q : Value → Shared → Prop} (hb : KBw.bInts b = ks) (h0 : 0 ≤ i) (h : Q (.int (fndK 125 ks i.toNat) s.toks) { s with toks := s.toks + 1 }) :
    wpAny (model prog w) A (call (.builtin "bytes.find") [.bytes b t, .bytes #[125] u, .int i v]) Q E s := by
  refine call_find3 h0 ?_
  rw [fnd_one hb (show ((125 : UInt8).toNat : Int) = 125 from rfl)]
  exact h
local macro_rules | `(tactic| walk_at "getMethod bytes") => `(tactic| (k_here; (with_reducible refine method_find ?_)))
local macro_rules | `(tactic| walk_at "call builtin:bytes.find") => `(tactic| (k_here; (with_reducible show wpAny _ _ (call (Value.builtin "bytes.find") [Value.bytes _ _, Value.bytes _ _]) _ _ _); refine find123 (by assumption) ?_))
local macro_rules | `(tactic| walk_at "call builtin:bytes.find") => `(tactic| (k_here; (with_reducible show wpAny _ _ (call (Value.builtin "bytes.find") [Value.bytes _ _, Value.bytes _ _, Value.int _ _]) _ _ _); refine find125 (by assumption) (by omega) ?_))
local macro_rules | `(tactic| walk_at "call ref") => `(tactic| (k_here; (with_reducible show wpAny _ _ (call (Value.ref 21) [Value.bytes _ _, Value.int 0 _]) _ _ _); k_dflt (refine' use_K ?k1 ?k2 ?k3 ?k4 ?k5 ?kK (crc_K0 _ _ _ _ _ _ _ _ ?kb _) trivial ?kd ?ku ?_; (case k1 => k_asm); (case k2 => k_asm); (case k3 => k_asm); (case k4 => k_asm); (case k5 => k_asm); (case kK => first | exact rfl | assumption); (case kb => assumption); (case kd => ktr_room); (case ku => ktr_units)); intro _ _ _ _ _))
theorem clip_nn {n : Nat} {i : Int} (h0 : 0 ≤ i) (h1 : i ≤ n) : clipAt n i = i.toNat := by
  unfold clipAt
  omega
theorem eff_in {ks : List Int} (h1 : -1 < fndK 123 ks 0) (h2 : -1 < fndK 125 ks (fndK 123 ks 0 + 1).toNat) (h3 : fndK 125 ks (fndK 123 ks 0 + 1).toNat ≠ fndK 123 ks 0 + 1) :
    effK ks = List.take (clipAt ks.length (fndK 125 ks (fndK 123 ks 0 + 1).toNat) - clipAt ks.length (fndK 123 ks 0 + 1)) (List.drop (clipAt ks.length (fndK 123 ks 0 + 1)) ks) := by
  have r1 := fndK_range (c := 123) (ks := ks) (lo := 0) (by omega)
  have r2 := fndK_range (c := 125) (ks := ks) (lo := (fndK 123 ks 0 + 1).toNat) (by omega)
  unfold effK
  rw [if_pos h1, if_pos ⟨h2, h3⟩, clip_nn (by omega) (by omega), clip_nn (by omega) (by omega)]
set_option maxHeartbeats 8000000 in
theorem slot_K (w : World) (s₀ : Shared) (mg mb : Str → Option Value) (news : List (Addr × Obj)) (b : Array UInt8) (tb : Tok) (ks : List Int) (hb : KBw.bInts b = ks) (hlen : ks.length ≤ 100) (hin : In ks) (bucket : Int) (tk : Tok) (hbk : 0 < bucket) :
    Cl2 w s₀ mg mb 29 news [.bytes b tb, .int bucket tk] (fun t => .int (((crcK 0 (effK ks) : Nat) : Int).fmod bucket) t) := by
  unfold Cl2
  k_fill
  intro dp un gd cn cs a ccd cl outer A₀ base h₀ L m s Q E hB hF hK hN hT hcs hdp hun hret
  dsimp only at hret
  refine wpAny_call ?_
  k_dflt (refine' code_def ?k1 ?k2 ?k3 ?k4 ?k5 ?kA ?kF ?kK ?k6 ?k7 ?k8 ?k9 ?kB ?_ ?c2 ?c3 ?c4 ?c5; (case kA => exact rfl); (case kF => exact rfl); (case kK => assumption); (case k1 => k_asm); (case k2 => k_asm); (case k3 => k_asm); (case k4 => k_asm); (case k5 => k_asm); (case k6 => k_is); (case k7 => k_is); (case k8 => ktr_room); (case k9 => exact binds_K (by k_in) rfl (by k_is) rfl rfl rfl); (case c5 => decide); (case kB => exact locs rfl); (case c2 => exact rfl); (case c3 => exact rfl); (case c4 => exact rfl); k_whole; intro g' L' h' FG' F' N' B' X' T'; (try dsimp only); (try k_lift B'); (try k_fold))
  repeat' walk1
  · rename -1 < fndK 123 _ _ => h1
    rename -1 < fndK 125 _ _ => h2
    rename fndK 125 _ _ ≠ _ => h3
    have e := eff_in h1 h2 h3
    rw [← e]
    refine hret _ _ _ ?_ ?_ <;> assumption
  · rename fndK 125 _ _ = _ => h3
    rw [eff_at h3] at hret
    refine hret _ _ _ ?_ ?_ <;> assumption
  · rename ¬ -1 < fndK 125 _ _ => h3
    rw [eff_no2 h3] at hret
    refine hret _ _ _ ?_ ?_ <;> assumption
  · rename ¬ -1 < fndK 123 _ _ => h3
    rw [eff_no h3] at hret
    refine hret _ _ _ ?_ ?_ <;> assumption
set_option maxHeartbeats 8000000 in
theorem slot_K1 (w : World) (s₀ : Shared) (mg mb : Str → Option Value) (news : List (Addr × Obj)) (b : Array UInt8) (tb : Tok) (ks : List Int) (hb : KBw.bInts b = ks) (hlen : ks.length ≤ 100) (hin : In ks) :
    Cl2 w s₀ mg mb 29 news [.bytes b tb] (fun t => .int (((crcK 0 (effK ks) : Nat) : Int).fmod 16384) t) := by
  unfold Cl2
  k_fill
  intro dp un gd cn cs a ccd cl outer A₀ base h₀ L m s Q E hB hF hK hN hT hcs hdp hun hret
  dsimp only at hret
  refine wpAny_call ?_
  k_dflt (refine' code_def ?k1 ?k2 ?k3 ?k4 ?k5 ?kA ?kF ?kK ?k6 ?k7 ?k8 ?k9 ?kB ?_ ?c2 ?c3 ?c4 ?c5; (case kA => exact rfl); (case kF => exact rfl); (case kK => assumption); (case k1 => k_asm); (case k2 => k_asm); (case k3 => k_asm); (case k4 => k_asm); (case k5 => k_asm); (case k6 => k_is); (case k7 => k_is); (case k8 => ktr_room); (case k9 => exact binds_K (by k_in) rfl (by k_is) rfl rfl rfl); (case c5 => decide); (case kB => exact locs rfl); (case c2 => exact rfl); (case c3 => exact rfl); (case c4 => exact rfl); k_whole; intro g' L' h' FG' F' N' B' X' T'; (try dsimp only); (try k_lift B'); (try k_fold))
  repeat' walk1
  · rename -1 < fndK 123 _ _ => h1
    rename -1 < fndK 125 _ _ => h2
    rename fndK 125 _ _ ≠ _ => h3
    have e := eff_in h1 h2 h3
    rw [← e]
    refine hret _ _ _ ?_ ?_ <;> assumption
  · rename fndK 125 _ _ = _ => h3
    rw [eff_at h3] at hret
    refine hret _ _ _ ?_ ?_ <;> assumption
  · rename ¬ -1 < fndK 125 _ _ => h3
    rw [eff_no2 h3] at hret
    refine hret _ _ _ ?_ ?_ <;> assumption
  · rename ¬ -1 < fndK 123 _ _ => h3
    rw [eff_no h3] at hret
    refine hret _ _ _ ?_ ?_ <;> assumption
/-- the calls as the law makes them: what comes back is told by a fact in the context -/
def Rest (ks : List Int) (x : Int) : Prop := ks.length ≤ 100 ∧ In ks ∧ ((crcK 0 ks : Nat) : Int) = x
def SlotIs (ks : List Int) (n x : Int) : Prop := ks.length ≤ 100 ∧ In ks ∧ 0 < n ∧ ((crcK 0 (effK ks) : Nat) : Int).fmod n = x
def BackIs (v x : Int) : Prop := ∃ n : Nat, v = (n : Int) ∧ n < 65536 ∧ ((invs 16 n : Nat) : Int) = x
theorem rest_U {w : World} {s₀ : Shared} {mg mb : Str → Option Value} {news : List (Addr × Obj)} {b : Array UInt8} {tb : Tok} {ks : List Int} {x : Int} (hb : KBw.bInts b = ks) (h : Rest ks x) :
    Cl w s₀ mg mb 36 news True [.bytes b tb] (fun t => .int x t) := by
  obtain ⟨h1, h2, rfl⟩ := h
  exact rest_K w s₀ mg mb news b tb ks hb h1 h2
theorem slot_U {w : World} {s₀ : Shared} {mg mb : Str → Option Value} {news : List (Addr × Obj)} {b : Array UInt8} {tb tk : Tok} {ks : List Int} {n x : Int} (hb : KBw.bInts b = ks) (h : SlotIs ks n x) :
    Cl2 w s₀ mg mb 29 news [.bytes b tb, .int n tk] (fun t => .int x t) := by
  obtain ⟨h1, h2, h3, rfl⟩ := h
  exact slot_K w s₀ mg mb news b tb ks hb h1 h2 n tk h3
theorem slot_U1 {w : World} {s₀ : Shared} {mg mb : Str → Option Value} {news : List (Addr × Obj)} {b : Array UInt8} {tb : Tok} {ks : List Int} {x : Int} (hb : KBw.bInts b = ks) (h : SlotIs ks 16384 x) :
    Cl2 w s₀ mg mb 29 news [.bytes b tb] (fun t => .int x t) := by
  obtain ⟨h1, h2, _, rfl⟩ := h
  exact slot_K1 w s₀ mg mb news b tb ks hb h1 h2
theorem back_U {w : World} {s₀ : Shared} {mg mb : Str → Option Value} {news : List (Addr × Obj)} {v x : Int} {tv : Tok} (h : BackIs v x) :
    Cl w s₀ mg mb 43 news True [.int v tv] (fun t => .int x t) := by
  obtain ⟨n, rfl, h1, rfl⟩ := h
  exact back_K w s₀ mg mb news n tv h1
end Mine

/-! ### Eff -/
namespace Mine
open PySem PySem.W PyProof.Rows
theorem freshEff : True := by
  w_top off
  trivial
theorem idx_none {c : Int} {l : List Int} (h : c ∉ l) : l.findIdx? (· == c) = none := by
  rw [List.findIdx?_eq_none_iff]
  intro x hx
  exact beq_eq_false_iff_ne.mpr fun e => h (e ▸ hx)
theorem idx_at {c : Int} {pre post : List Int} (h : c ∉ pre) : (pre ++ c :: post).findIdx? (· == c) = some pre.length := by
  rw [List.findIdx?_append, idx_none h, List.findIdx?_cons]
  simp
theorem eff_none {ks : List Int} (h : (123 : Int) ∉ ks) : effK ks = ks := by
  refine eff_no ?_
  unfold fndK
  rw [List.drop_zero, idx_none h]
  decide
theorem fnd_at {pre post : List Int} (h : (123 : Int) ∉ pre) : fndK 123 (pre ++ 123 :: post) 0 = (pre.length : Int) := by
  unfold fndK
  rw [List.drop_zero, idx_at h]
  simp
theorem drop_at {c : Int} (pre post : List Int) : (pre ++ c :: post).drop (((pre.length : Nat) : Int) + 1).toNat = post := by
  have e : (((pre.length : Nat) : Int) + 1).toNat = pre.length + 1 := by omega
  rw [e, ← List.drop_drop, List.drop_left]
  rfl
theorem eff_open {pre post : List Int} (h : (123 : Int) ∉ pre) (g : (125 : Int) ∉ post) : effK (pre ++ 123 :: post) = pre ++ 123 :: post := by
  refine eff_no2 ?_
  rw [fnd_at h]
  unfold fndK
  rw [drop_at, idx_none g]
  show ¬ -1 < (-1 : Int)
  decide
theorem eff_empty {pre post : List Int} (h : (123 : Int) ∉ pre) : effK (pre ++ 123 :: 125 :: post) = pre ++ 123 :: 125 :: post := by
  refine eff_at ?_
  rw [fnd_at h]
  unfold fndK
  rw [drop_at, show (125 :: post : List Int) = [] ++ 125 :: post from rfl, idx_at (List.not_mem_nil)]
  show (((((pre.length : Nat) : Int) + 1).toNat + 0 : Nat) : Int) = _
  omega
theorem eff_tag {pre mid post : List Int} (h : (123 : Int) ∉ pre) (g : (125 : Int) ∉ mid) (hm : mid ≠ []) : effK (pre ++ 123 :: (mid ++ 125 :: post)) = mid := by
  have hl : 0 < mid.length := List.length_pos_iff.mpr hm
  have e1 := fnd_at (post := mid ++ 125 :: post) h
  have e2 : fndK 125 (pre ++ 123 :: (mid ++ 125 :: post)) (((pre.length : Nat) : Int) + 1).toNat = (pre.length : Int) + 1 + mid.length := by
    unfold fndK
    rw [drop_at, idx_at g]
    show (((((pre.length : Nat) : Int) + 1).toNat + mid.length : Nat) : Int) = _
    omega
  unfold effK
  rw [e1, e2, if_pos (by omega), if_pos ⟨by omega, by omega⟩, drop_at]
  rw [show ((pre.length : Int) + 1 + mid.length).toNat - ((pre.length : Int) + 1).toNat = mid.length by omega, List.take_left]
/-- a key without braces and any two octets: the whole counts -/
theorem eff_two {ks : List Int} {a b : Int} (h : ∀ k ∈ ks, k < 123) : effK (ks ++ [a, b]) = ks ++ [a, b] := by
  have hk : (123 : Int) ∉ ks := fun q => by have := h _ q; omega
  by_cases ha : a = 123
  · subst ha
    by_cases hb : b = 125
    · subst hb
      exact eff_empty hk
    · exact eff_open hk (by simp; omega)
  · by_cases hb : b = 123
    · subst hb
      have e : ks ++ [a, 123] = (ks ++ [a]) ++ 123 :: [] := by simp
      rw [e]
      exact eff_open (by simp [hk]; omega) List.not_mem_nil
    · exact eff_none (by simp [hk]; omega)
end Mine

/-! ### NotIn -/
namespace Mine
open PySem PySem.W PyProof.Rows PySem.Calls PySem.Spec
theorem freshNotIn : True := by
  w_top off
  trivial
open Builtin
theorem gives_contains {b : Array UInt8} {t u : Tok} {i : Int} (h0 : 0 ≤ i) (h1 : i < 256) : Gives («bytes.__contains__» ⟨[.bytes b t, .int i u], []⟩) (.val (.bool (b.contains i.toNat.toUInt8))) := by
  refine .of_wp fun M A E s Q hq => ?_
  show wpAny M A (Bytes.containsIn "bytes.__contains__" (.bytes b t) (.int i u) >>= fun r => _) _ E s
  refine wpAny_bind ?_
  unfold Bytes.containsIn
  refine wpAny_bind (wpAny_attempt (wpAny_of_eq (rfl : asIndex (.int i u) = pure i) ?_))
  refine wpAny_bind (wpAny_of_eq KBy.buffer_eq ?_)
  have e : (decide (i < 0) || decide (i ≥ 256)) = false := by simp; omega
  simp only [e, Bool.false_eq_true, if_false]
  exact wpAny_pure (wpAny_pure ⟨_, rfl, hq⟩)
theorem contains_ints {b : Array UInt8} {ks : List Int} {i : Int} (hb : KBw.bInts b = ks) (h0 : 0 ≤ i) (h1 : i < 256) : b.contains i.toNat.toUInt8 = decide (i ∈ ks) := by
  subst hb
  have e : (i.toNat.toUInt8.toNat : Int) = i := byte_back h0 h1
  rw [Bool.eq_iff_iff, decide_eq_true_iff, Array.contains_iff_mem, ← Array.mem_toList_iff]
  show _ ↔ i ∈ b.toList.map fun c => (c.toNat : Int)
  rw [List.mem_map]
  constructor
  · intro h
    exact ⟨_, h, e⟩
  · rintro ⟨c, hc, he⟩
    have : c = i.toNat.toUInt8 := UInt8.toNat_inj.mp (by omega)
    exact this ▸ hc
theorem notIn_bytes {prog : Program} {w : World} {A : Around} {E : Value → Shared → Prop} {s : Shared} {b : Array UInt8} {t u : Tok} {ks : List Int} {i : Int} {Q : Value → Shared → Prop} (hb : KBw.bInts b = ks) (h0 : 0 ≤ i) (h1 : i < 256) (h : Q (.bool (!decide (i ∈ ks))) s) :
    wpAny (model prog w) A (compareOp .NotIn (.int i u) (.bytes b t)) Q E s := by
  refine notIn_gives (typeIs_bytes s b t) FB.slot_bytes_contains FB.entry_bytes_contains (FB.args_bytes_contains_2 _ _) (gives_contains h0 h1) ?_
  rw [contains_ints hb h0 h1]
  exact h
end Mine

/-! ### CompB -/
namespace Mine
open PySem PySem.W PyProof.Rows PySem.Calls PySem.Spec
theorem freshCompB : True := by
  w_top off
  trivial
theorem paired_ints (f : Int → Int) : ∀ (l : List UInt8) (vs ys : List Value), (∀ (j : Nat) (v : Value), vs[j]? = some v → ∃ (c : UInt8) (u : Tok), l[j]? = some c ∧ v = Value.int ((c.toNat : Nat) : Int) u) → vs.length = l.length →
    Paired (fun v y => ∃ k t t', v = Value.int k t ∧ y = Value.int (f k) t') vs ys → IntsAre ys ((l.map fun c => ((c.toNat : Nat) : Int)).map f)
  | [], [], [], _, _, _ => .nil
  | c :: l, v :: vs, y :: ys, hp, hl, h => by
    cases h with
    | cons h1 h2 =>
      obtain ⟨k, t, t', rfl, rfl⟩ := h1
      obtain ⟨c', u, hc, hv⟩ := hp 0 _ rfl
      have e1 : c = c' := by simpa using hc
      subst e1
      have e2 : k = ((c.toNat : Nat) : Int) := by injection hv
      subst e2
      refine .cons _ _ (paired_ints f l vs ys (fun j v hj => ?_) (by simpa using hl) h2)
      have := hp (j + 1) v (by simpa using hj)
      simpa using this
  | [], _ :: _, _, _, hl, _ => absurd hl (by simp)
  | _ :: _, [], _, _, hl, _ => absurd hl (by simp)
  | [], [], _ :: _, _, _, h => nomatch h
  | _ :: _, _ :: _, [], _, _, h => nomatch h
theorem filter_true {α : Type} : ∀ l : List α, l.filter (fun _ => true) = l
  | [] => rfl
  | a :: l => by rw [List.filter_cons_of_pos rfl, filter_true l]
theorem bytes_comp {prog : Program} {w : World} {A : Around} {E : Value → Shared → Prop} {s : Shared} {h₀ : Heap} {L : Addr} {m : Str → Option Value} {news : List (Addr × Obj)} {env : Env}
    {elt iter : Expr} {x : Str} {px : Pos} {scope : Scope} {cl : List (Str × Addr)} {pos : Pos} {Q : Value → Shared → Prop} {b : Array UInt8} {tb : Tok} {ks : List Int} (f : Int → Int)
    (hh : A.handled = none) (hclos : closureFor scope env = pure cl) (hcell : ∀ y ∈ scope.names, y.2 ≠ .cell) (hkind : scope.kind = .function)
    (hnames : ∀ y ∈ scope.names, y.2 = .local → scope.names.lookup y.1 = some .local) (hx : scope.names.lookup x = some .local)
    (hb : KBw.bInts b = ks) (hsz : ks.length ≤ 1000) (F : Fr h₀ L s.heap m) (N : News h₀ L s.heap news)
    (hit : ∀ Q' : Value → Shared → Prop, Q' (.bytes b tb) s → wpAny (model prog w) A (eval iter env) Q' E s)
    (helt : ∀ C k t s₃ m₃ E', k ∈ ks → 0 ≤ k → k < 256 → s₃.heap.Ns C m₃ → m₃ x = some (.int k t) → News h₀ L s₃.heap news →
      wpAny (model prog w) A (eval elt (compEnvC scope cl C env)) (fun y s₄ => (∃ t', y = .int (f k) t') ∧ Keeps s₃ s₄) E' s₃)
    (ret : ∀ D (ys : List Value) n h' tk, Fr h₀ L h' m → News h₀ L h' ((D, listOf ys.toArray n) :: news) → IntsAre ys (ks.map f) → (∀ p ∈ news, p.1 ≠ D) → Q (.ref D) { s with heap := h', toks := tk })
    (hs : ∀ x, foldedSetIterable iter env x = pure x) :
    wpAny (model prog w) A (eval (.ListComp elt [⟨.Name x px, iter, [], 0⟩] scope pos) env) Q E s := by
  refine wpAny_ListComp_free (fun _ => true) (fun v y => ∃ k t t', v = Value.int k t ∧ y = Value.int (f k) t') hclos hcell hkind hnames hx (hit _ ?_) hs
  refine KBw.pyIter_bytes ?_
  have up : ∀ (s₃ : Shared), (∀ a o, a ∉ [s.heap.objs.size] → (s.heap.push { cls := .type "bytes_iterator", data := .fields #[.bytes b tb, .int 0 0] }).get? a = some o → s₃.heap.get? a = some o) → ∀ a o, s.heap.get? a = some o → s₃.heap.get? a = some o :=
    fun s₃ hk a o e => hk a o (fun hm => absurd (Heap.lt_size e) (by rw [List.mem_singleton.mp hm]; exact Nat.lt_irrefl _)) (Heap.get?_push_of_some _ e)
  refine ⟨s.heap.objs.size, [s.heap.objs.size], [s.heap.objs.size], b.size, _, _, rfl, KBw.walks hh s.heap.objs.size b tb, ?_, ⟨_, Heap.get?_push_size _ rfl, rfl, rfl⟩, ?_, ⟨?_, ?_⟩, ?_⟩
  · rw [← KBw.ints_length b, hb, sizeLine_eq]
    omega
  · intro a ha
    rw [List.mem_singleton.mp ha]
    show s.heap.objs.size < (s.heap.push _).objs.size
    rw [Heap.size_push]
    exact Nat.lt_succ_self _
  · intro C i v s₃ m₃ E' _ _ _ _ _ _
    exact wpAny_pure ⟨rfl, s₃.heap, s₃.toks, rfl, fun _ _ e => e⟩
  · rintro C i v s₃ m₃ E' _ ⟨c, u, hc, rfl⟩ _ hn hm hk _
    have hki : ((c.toNat : Nat) : Int) ∈ ks := by rw [← hb]; exact List.mem_of_getElem? (KBw.ints_get hc)
    have hb2 := c.toNat_lt
    refine wpAny_mono (helt C _ u s₃ m₃ E' hki (by omega) (by omega) hn hm (N.grown (up s₃ hk))) (fun y s₄ h₄ => ?_) fun _ _ e => e
    obtain ⟨⟨t', rfl⟩, h2⟩ := h₄
    exact ⟨⟨_, _, _, rfl, rfl⟩, h2⟩
  · rintro D h' tk ys vs hnew hl ⟨n, hD⟩ hlen hP hF hk
    have keep := up { s with heap := h' } hk
    rw [filter_true] at hF
    have hnD : s.heap.get? D = none := by
      cases e : s.heap.get? D with
      | none => rfl
      | some o => rw [show (s.heap.push _).get? D = some o from Heap.get?_push_of_some _ e] at hnew; cases hnew
    refine ret D ys.toList n h' tk (F.keeps keep) ?_ ?_ ?_
    · intro p hp
      rcases List.mem_cons.mp hp with rfl | hp
      · refine ⟨by rw [Array.toArray_toList]; exact hD, ?_, ?_⟩
        · rintro rfl
          obtain ⟨o, _, _, ho, _⟩ := F.ns
          rw [ho] at hnD
          cases hnD
        · cases e : h₀.get? D with
          | none => rfl
          | some o => rw [F.keep _ _ e] at hnD; cases hnD
      · exact N.grown keep p hp
    · rw [← hb]
      refine paired_ints f b.toList vs ys.toList (fun j v hj => ?_) (by rw [hlen, Array.length_toList]) hF
      obtain ⟨c, u, hc, hv⟩ := hP j v hj
      exact ⟨c, u, by rw [Array.getElem?_toList]; exact hc, hv⟩
    · intro p hp e
      have := (N p hp).1
      rw [e, hnD] at this
      cases this
end Mine

/-! ### Xor -/
namespace Mine
open PySem PySem.W PyProof.Rows
theorem freshXor : True := by
  w_top off
  trivial
def xorL (l1 l2 : List Int) : List Int := (rangeKs 0 l1.length).map fun k => (((l1.getD k.toNat 0).toNat ^^^ (l2.getD k.toNat 0).toNat : Nat) : Int)
theorem getD_byte {l : List Int} (h : In l) (j : Nat) : 0 ≤ l.getD j 0 ∧ l.getD j 0 < 256 := by
  rw [List.getD_eq_getElem?_getD]
  cases e : l[j]? with
  | none => exact ⟨Int.le_refl _, by decide⟩
  | some k => exact h k (List.mem_of_getElem? e)
theorem xorL_eq {l1 l2 : List Int} (h1 : In l1) (h2 : In l2) : (rangeKs 0 ((l1.length : Int) - 0).toNat).map (fun k' => if 0 ≤ l1.getD k'.toNat 0 ∧ l1.getD k'.toNat 0 < 256 ∧ 0 ≤ l2.getD k'.toNat 0 ∧ l2.getD k'.toNat 0 < 256 then
        Builtin.bitXor (l1.getD k'.toNat 0) (l2.getD k'.toNat 0) else k') = xorL l1 l2 := by
  have e : ((l1.length : Int) - 0).toNat = l1.length := by omega
  rw [e]
  unfold xorL
  refine List.map_congr_left fun k _ => ?_
  have a1 := getD_byte h1 k.toNat
  have a2 := getD_byte h2 k.toNat
  rw [if_pos ⟨a1.1, a1.2, a2.1, a2.2⟩, ← bxor_nat, Int.toNat_of_nonneg a1.1, Int.toNat_of_nonneg a2.1]
theorem xorL_length (l1 l2 : List Int) : (xorL l1 l2).length = l1.length := by
  unfold xorL
  rw [List.length_map, rangeKs_length]
theorem xorL_in {l1 l2 : List Int} (h1 : In l1) (h2 : In l2) : In (xorL l1 l2) := by
  intro n hn
  unfold xorL at hn
  obtain ⟨k, _, rfl⟩ := List.mem_map.mp hn
  have a1 := getD_byte h1 k.toNat
  have a2 := getD_byte h2 k.toNat
  have := xor_lt (k := 8) (a := (l1.getD k.toNat 0).toNat) (b := (l2.getD k.toNat 0).toNat) (by omega) (by omega)
  omega
theorem xorL_get {l1 l2 : List Int} {i : Nat} (h1 : i < l1.length) (h2 : i < l2.length) (h3 : i < (xorL l1 l2).length) : ((xorL l1 l2)[i]).toNat = l1[i].toNat ^^^ l2[i].toNat := by
  have e : (xorL l1 l2)[i]? = some (((l1.getD i 0).toNat ^^^ (l2.getD i 0).toNat : Nat) : Int) := by
    unfold xorL
    simp [rangeKs, h1]
  rw [List.getElem?_eq_getElem h3] at e
  injection e with e
  rw [e, Int.toNat_natCast, List.getD_eq_getElem?_getD, List.getD_eq_getElem?_getD, List.getElem?_eq_getElem h1, List.getElem?_eq_getElem h2]
  rfl
theorem crc_xor {l1 l2 : List Int} (h1 : In l1) (h2 : In l2) (hl : l2.length = l1.length) : crcK 0 (xorL l1 l2) = crcK 0 l1 ^^^ crcK 0 l2 := by
  have h := crcK_xor l1 l2 (xorL l1 l2) (a := 0) (b := 0) (by decide) (by decide) h1 h2 hl.symm (xorL_length l1 l2).symm (fun i a b c => xorL_get a b c)
  rwa [Nat.xor_self] at h
end Mine

/-! ### LawDefs -/
namespace Mine
open PySem PySem.W PyProof.Rows PySem.Calls PySem.Spec
theorem freshLawDefs : True := by
  w_top off
  trivial
noncomputable def lawStmt : Stmt := (PySem.Challenge.pw_fe0275_01.main.body.getLast?).getD (.Pass ⟨0, 0, 0, 0⟩)
noncomputable def lawBody : List Stmt := match lawStmt with | .FunctionDef _ _ b _ _ _ _ _ _ _ => b | _ => []
noncomputable def lawScope : Scope := match lawStmt with | .FunctionDef _ _ _ _ _ _ sc _ _ _ => sc | _ => default
noncomputable def lawAt (i : Nat) : Stmt := lawBody.getD i (.Pass ⟨0, 0, 0, 0⟩)
noncomputable abbrev lawEnv (L fa : Addr) (cd : Value) : Env := envOfC (Str.ofString "law") lawScope L fa cd

noncomputable def iter7 : Expr := match lawAt 7 with | .For _ it _ _ _ => it | _ => .Constant .none 0 ⟨0, 0, 0, 0⟩
noncomputable def body7 : List Stmt := match lawAt 7 with | .For _ _ b _ _ => b | _ => []
theorem fr_pick {h₀ h : Heap} {L : Addr} {m : Str → Option Value} {x : Str} {v : Value} (F : Fr h₀ L h m) (hx : m x = some v) : Fr h₀ L h (fun y => if y = x then some v else m y) := by
  have e : (fun y => if y = x then some v else m y) = m := by
    funext y
    by_cases h : y = x
    · rw [if_pos h, h, hx]
    · rw [if_neg h]
  rw [e]
  exact F
theorem news_sub {h₀ h : Heap} {L : Addr} {news news' : List (Addr × Obj)} (N : News h₀ L h news') (hs : ∀ p ∈ news, p ∈ news') : News h₀ L h news := fun p hp => N p (hs p hp)
theorem news_five {h₀ h : Heap} {L : Addr} {news : List (Addr × Obj)} {e1 e2 e3 e4 e5 : Addr × Obj} (N : News h₀ L h news) (h1 : e1 ∈ news) (h2 : e2 ∈ news) (h3 : e3 ∈ news) (h4 : e4 ∈ news) (h5 : e5 ∈ news) : News h₀ L h [e1, e2, e3, e4, e5] := by
  intro p hp
  simp only [List.mem_cons, List.not_mem_nil, or_false] at hp
  rcases hp with rfl | rfl | rfl | rfl | rfl
  · exact N _ h1
  · exact N _ h2
  · exact N _ h3
  · exact N _ h4
  · exact N _ h5
theorem news_drop2 {h₀ h : Heap} {L : Addr} {e1 e2 : Addr × Obj} {r : List (Addr × Obj)} (N : News h₀ L h (e1 :: e2 :: r)) : News h₀ L h (e1 :: r) :=
  news_sub N fun p hp => (List.mem_cons.mp hp).elim (fun e => e ▸ .head _) fun h => .tail _ (.tail _ h)
theorem news_four {h₀ h : Heap} {L : Addr} {news : List (Addr × Obj)} {e1 e2 e3 e4 : Addr × Obj} (N : News h₀ L h news) (h1 : e1 ∈ news) (h2 : e2 ∈ news) (h3 : e3 ∈ news) (h4 : e4 ∈ news) : News h₀ L h [e1, e2, e3, e4] := by
  intro p hp
  simp only [List.mem_cons, List.not_mem_nil, or_false] at hp
  rcases hp with rfl | rfl | rfl | rfl
  · exact N _ h1
  · exact N _ h2
  · exact N _ h3
  · exact N _ h4
theorem ne_same {prog : Program} {w : World} {A : Around} {E : Value → Shared → Prop} {s : Shared} {a : Int} {t u : Tok} {Q : Value → Shared → Prop} (h : Q (.bool false) s) : wpAny (model prog w) A (compareOp .NotEq (.int a t) (.int a u)) Q E s := by
  refine PyProof.Rows.ne_int ?_
  rw [show (a != a) = false by simp]
  exact h
theorem eq_same {prog : Program} {w : World} {A : Around} {E : Value → Shared → Prop} {s : Shared} {a : Int} {t u : Tok} {Q : Value → Shared → Prop} (h : Q (.bool true) s) : wpAny (model prog w) A (compareOp .Eq (.int a t) (.int a u)) Q E s := by
  refine PyProof.Rows.eq_int ?_
  rw [show (a == a) = true by simp]
  exact h
end Mine

/-! ### Facts -/
namespace Mine
open PySem PySem.W PyProof.Rows
theorem freshFacts : True := by
  w_top off
  trivial
section
variable {ks : List Int} (hkl : ks.length ≤ 7) (hki : ∀ k ∈ ks, 0 ≤ k ∧ k < 123)
include hki in
theorem key_In : In ks := fun k hk => ⟨(hki k hk).1, by have := (hki k hk).2; omega⟩
include hki in
theorem key_no {c : Int} (hc : 123 ≤ c) : c ∉ ks := fun q => by have := (hki _ q).2; omega
theorem slot_of {l l' : List Int} {n x : Int} (h1 : l.length ≤ 100) (h2 : In l) (h3 : 0 < n) (h4 : effK l = l') (h5 : ((crcK 0 l' : Nat) : Int).fmod n = x) : SlotIs l n x := by
  refine ⟨h1, h2, h3, ?_⟩
  rw [h4]
  exact h5
theorem fmod_small {x n : Int} (h0 : 0 ≤ x) (h1 : x < n) : x.fmod n = x := by
  rw [Int.fmod_eq_emod_of_nonneg _ (by omega)]
  exact Int.emod_eq_of_lt h0 h1
theorem fdiv_nat (x : Nat) : ((x : Nat) : Int).fdiv 256 = ((x / 256 : Nat) : Int) := by
  rw [Int.fdiv_eq_ediv_of_nonneg _ (by decide)]
  omega
theorem fmod_nat (x n : Nat) : ((x : Nat) : Int).fmod (n : Int) = ((x % n : Nat) : Int) := by
  rw [Int.fmod_eq_emod_of_nonneg _ (by omega)]
  omega
def nI (a b i : Int) : Nat := (a.fmod 16384 + 16384 * (i + b).fmod 4).toNat
theorem nI_eq (a b i : Int) : a.fmod 16384 + 16384 * (i + b).fmod 4 = (nI a b i : Int) ∧ nI a b i < 65536 ∧ ((nI a b i : Nat) : Int).fmod 16384 = a.fmod 16384 := by
  have a1 := fmod_lo a (n := 16384) (by decide)
  have a2 := fmod_hi a (n := 16384) (by decide)
  have b1 := fmod_lo (i + b) (n := 4) (by decide)
  have b2 := fmod_hi (i + b) (n := 4) (by decide)
  have e : a.fmod 16384 + 16384 * (i + b).fmod 4 = (nI a b i : Int) := by
    unfold nI
    omega
  refine ⟨e, by omega, ?_⟩
  rw [← e, Int.fmod_eq_emod_of_nonneg _ (by decide : (0 : Int) ≤ 16384)]
  generalize a.fmod 16384 = p at *
  generalize (i + b).fmod 4 = q at *
  omega
def xI (a b i : Int) : Int := ((invs 16 (nI a b i) : Nat) : Int)
theorem xI_back (a b i : Int) : BackIs (a.fmod 16384 + 16384 * (i + b).fmod 4) (xI a b i) :=
  ⟨_, (nI_eq a b i).1, (nI_eq a b i).2.1, rfl⟩
def tI (ks : List Int) (a b i : Int) : Nat := invs 16 (nI a b i) ^^^ crcK 0 ks
theorem tI_eq (ks : List Int) (a b i : Int) : Builtin.bitXor (xI a b i) ((crcK 0 ks : Nat) : Int) = (tI ks a b i : Int) := bxor_nat _ _
include hki in
theorem tI_lt (a b i : Int) : tI ks a b i < 65536 :=
  xor_lt (k := 16) (invs_lt 16 (nI_eq a b i).2.1) (crcK_lt ks (by decide) (key_In hki))
include hki in
theorem tI_crc (a b i : Int) : crcK 0 (ks ++ [((tI ks a b i : Nat) : Int).fdiv 256, ((tI ks a b i : Nat) : Int).fmod 256]) = nI a b i := by
  rw [fdiv_nat, show ((tI ks a b i : Nat) : Int).fmod 256 = ((tI ks a b i % 256 : Nat) : Int) from fmod_nat _ 256]
  exact crc_tail (key_In hki) (nI_eq a b i).2.1
theorem two_In {x : Int} (h0 : 0 ≤ x) (h1 : x < 65536) : KBa.In [x.fdiv 256, x.fmod 256] := by
  intro n hn
  rw [Int.fdiv_eq_ediv_of_nonneg _ (by decide), Int.fmod_eq_emod_of_nonneg _ (by decide)] at hn
  rcases List.mem_cons.mp hn with rfl | hn
  · omega
  · rw [List.mem_singleton.mp hn]
    omega
/-- what the i-th tail gives -/
structure TailIs (ks : List Int) (a b x p q r : Int) : Prop where
  lo : 0 ≤ Builtin.bitXor x ((crcK 0 ks : Nat) : Int)
  hi : Builtin.bitXor x ((crcK 0 ks : Nat) : Int) < 65536
  hc : KBw.bInts (byteArr [p, q]) = [p, q]
  hs : SlotIs (ks ++ [p, q]) 16384 (a.fmod 16384)
  hr : Rest (ks ++ [p, q]) r
  ht : SlotIs (ks ++ [p, q]) (1 + b.fmod 999) (r.fmod (1 + b.fmod 999))
  hT : (125 : Int) ∉ [p, q] → ∀ P S : List Int, P ∈ [([123] : List Int), ([125, 123] : List Int), ([254, 125, 120, 123] : List Int)] → S ∈ [[], [125], [123, 122, 125], [((b.fmod 256).toNat.toUInt8.toNat : Int), ((a.fmod 256).toNat.toUInt8.toNat : Int)]] → SlotIs ((((P ++ ks) ++ [p, q]) ++ [125]) ++ S) 16384 (a.fmod 16384)
theorem in_lit {l : List Int} (h : (l.all fun k => decide (0 ≤ k ∧ k < 256)) = true) : In l := by
  intro k hk
  have := List.all_eq_true.mp h k hk
  exact of_decide_eq_true this
include hkl hki in
theorem tail_is (a b i : Int) : TailIs ks a b (xI a b i) ((Builtin.bitXor (xI a b i) ((crcK 0 ks : Nat) : Int)).fdiv 256) ((Builtin.bitXor (xI a b i) ((crcK 0 ks : Nat) : Int)).fmod 256) ((nI a b i : Nat) : Int) := by
  have hlt := tI_lt hki a b i
  have hcrc := tI_crc hki a b i
  have hn := nI_eq a b i
  have hm := fmod_lo b (n := 999) (by decide)
  have e := tI_eq ks a b i
  have hlo : 0 ≤ Builtin.bitXor (xI a b i) ((crcK 0 ks : Nat) : Int) := by rw [e]; omega
  have hhi : Builtin.bitXor (xI a b i) ((crcK 0 ks : Nat) : Int) < 65536 := by rw [e]; omega
  have h2 := two_In hlo hhi
  rw [← e] at hcrc
  generalize (Builtin.bitXor (xI a b i) ((crcK 0 ks : Nat) : Int)).fdiv 256 = p at *
  generalize (Builtin.bitXor (xI a b i) ((crcK 0 ks : Nat) : Int)).fmod 256 = q at *
  have hin : In (ks ++ [p, q]) := (key_In hki).app h2
  have hlen : (ks ++ [p, q]).length ≤ 9 := by simp; omega
  have heff : effK (ks ++ [p, q]) = ks ++ [p, q] := eff_two fun k hk => (hki k hk).2
  refine ⟨hlo, hhi, KBa.ints_make h2, slot_of (by omega) hin (by decide) heff ?_, ⟨by omega, hin, by rw [hcrc]⟩, slot_of (by omega) hin (by omega) heff (by rw [hcrc]), ?_⟩
  · rw [hcrc]; exact hn.2.2
  · intro h125 P S hP hS
    have hS' : In S ∧ S.length ≤ 3 := by
      simp only [List.mem_cons, List.not_mem_nil, or_false] at hS
      rcases hS with rfl | rfl | rfl | rfl
      · exact ⟨in_lit (by decide), by decide⟩
      · exact ⟨in_lit (by decide), by decide⟩
      · exact ⟨in_lit (by decide), by decide⟩
      · refine ⟨?_, Nat.le_succ _⟩
        intro k hk
        have u1 := (b.fmod 256).toNat.toUInt8.toNat_lt
        have u2 := (a.fmod 256).toNat.toUInt8.toNat_lt
        simp only [List.mem_cons, List.not_mem_nil, or_false] at hk
        rcases hk with rfl | rfl <;> omega
    have hmid : (125 : Int) ∉ ks ++ [p, q] := fun h => (List.mem_append.mp h).elim (key_no hki (by decide)) h125
    have hP' : ∃ pre, P = pre ++ [123] ∧ (123 : Int) ∉ pre ∧ In P ∧ P.length ≤ 4 := by
      simp only [List.mem_cons, List.not_mem_nil, or_false] at hP
      rcases hP with rfl | rfl | rfl
      · exact ⟨[], rfl, by decide, in_lit (by decide), by decide⟩
      · exact ⟨[125], rfl, by decide, in_lit (by decide), by decide⟩
      · exact ⟨[254, 125, 120], rfl, by decide, in_lit (by decide), by decide⟩
    obtain ⟨pre, he, hpre, hPi, hPl⟩ := hP'
    have heq : effK ((((P ++ ks) ++ [p, q]) ++ [125]) ++ S) = ks ++ [p, q] := by
      have := eff_tag (pre := pre) (mid := ks ++ [p, q]) (post := S) hpre hmid (by simp)
      rw [he]
      simpa using this
    refine slot_of ?_ ?_ (by decide) heq (by rw [hcrc]; exact hn.2.2)
    · simp; omega
    · exact (((hPi.app (key_In hki)).app h2).app (in_lit (by decide))).app hS'.1
include hki in
theorem eff_key : effK ks = ks := eff_none (key_no hki (by decide))
include hkl hki in
theorem rest_key : Rest ks ((crcK 0 ks : Nat) : Int) := ⟨by omega, key_In hki, rfl⟩
include hkl hki in
theorem slot_key {n : Int} (h : 0 < n) : SlotIs ks n (((crcK 0 ks : Nat) : Int).fmod n) := slot_of (by omega) (key_In hki) h (eff_key hki) rfl
include hkl hki in
theorem slot_key_all : SlotIs ks 65536 ((crcK 0 ks : Nat) : Int) := by
  have h := slot_key hkl hki (n := 65536) (by decide)
  have := crcK_lt ks (v := 0) (by decide) (key_In hki)
  rwa [fmod_small (by omega) (by omega)] at h
include hkl hki in
theorem braces (l : List Int) (h : l = [123, 125, 123, 97, 125] ++ ks ∨ l = (ks ++ [123]) ++ ks ∨ l = ([125] ++ ks) ++ [123]) :
    Rest l ((crcK 0 l : Nat) : Int) ∧ SlotIs l 16384 (((crcK 0 l : Nat) : Int).fmod 16384) := by
  have hin := key_In hki
  have h123 : (123 : Int) ∉ ks := key_no hki (by decide)
  have h125 : (125 : Int) ∉ ks := key_no hki (by decide)
  have g : l.length ≤ 100 ∧ In l ∧ effK l = l := by
    rcases h with rfl | rfl | rfl
    · refine ⟨by simp; omega, (in_lit (by decide)).app hin, ?_⟩
      exact eff_empty (pre := []) (post := 123 :: 97 :: 125 :: ks) List.not_mem_nil
    · refine ⟨by simp; omega, (hin.app (in_lit (by decide))).app hin, ?_⟩
      have := eff_open (pre := ks) (post := ks) h123 h125
      simpa using this
    · refine ⟨by simp; omega, ((in_lit (by decide)).app hin).app (in_lit (by decide)), ?_⟩
      exact eff_open (pre := [125] ++ ks) (post := []) (by simp [h123]) List.not_mem_nil
  exact ⟨⟨g.1, g.2.1, rfl⟩, slot_of g.1 g.2.1 (by decide) g.2.2 rfl⟩
theorem low_map (g : Int → Int) (ks : List Int) : ∀ k ∈ ks.map (fun k => (g k).fmod 64), 0 ≤ k ∧ k < 64 := by
  intro k hk
  obtain ⟨j, _, rfl⟩ := List.mem_map.mp hk
  exact ⟨fmod_lo _ (by decide), fmod_hi _ (by decide)⟩
theorem low_In {l : List Int} (h : ∀ k ∈ l, 0 ≤ k ∧ k < 64) : In l := fun k hk => ⟨(h k hk).1, by have := (h k hk).2; omega⟩
theorem low_eff {l : List Int} (h : ∀ k ∈ l, 0 ≤ k ∧ k < 64) : effK l = l := eff_none fun q => by have := (h _ q).2; omega
theorem getD_low {l : List Int} (h : ∀ k ∈ l, 0 ≤ k ∧ k < 64) (j : Nat) : 0 ≤ l.getD j 0 ∧ l.getD j 0 < 64 := by
  rw [List.getD_eq_getElem?_getD]
  cases e : l[j]? with
  | none => exact ⟨Int.le_refl _, by decide⟩
  | some k => exact h k (List.mem_of_getElem? e)
theorem xorL_low {l1 l2 : List Int} (h1 : ∀ k ∈ l1, 0 ≤ k ∧ k < 64) (h2 : ∀ k ∈ l2, 0 ≤ k ∧ k < 64) : ∀ k ∈ xorL l1 l2, 0 ≤ k ∧ k < 64 := by
  intro n hn
  unfold xorL at hn
  obtain ⟨k, _, rfl⟩ := List.mem_map.mp hn
  have a1 := getD_low h1 k.toNat
  have a2 := getD_low h2 k.toNat
  have := xor_lt (k := 6) (a := (l1.getD k.toNat 0).toNat) (b := (l2.getD k.toNat 0).toNat) (by omega) (by omega)
  omega
theorem last_facts {l1 l2 : List Int} (hl : l1.length ≤ 7) (he : l2.length = l1.length) (h1 : ∀ k ∈ l1, 0 ≤ k ∧ k < 64) (h2 : ∀ k ∈ l2, 0 ≤ k ∧ k < 64) (n : Nat) (hn : n ≤ 3) :
    SlotIs l1 16384 (((crcK 0 l1 : Nat) : Int).fmod 16384) ∧ SlotIs l2 16384 (((crcK 0 l2 : Nat) : Int).fmod 16384) ∧
    SlotIs (xorL l1 l2) 16384 (Builtin.bitXor (((crcK 0 l1 : Nat) : Int).fmod 16384) (((crcK 0 l2 : Nat) : Int).fmod 16384)) ∧
    SlotIs (List.replicate n 0 ++ l1) 16384 (((crcK 0 l1 : Nat) : Int).fmod 16384) := by
  have h3 := xorL_low h1 h2
  refine ⟨slot_of (by omega) (low_In h1) (by decide) (low_eff h1) rfl, slot_of (by omega) (low_In h2) (by decide) (low_eff h2) rfl, slot_of (by rw [xorL_length]; omega) (low_In h3) (by decide) (low_eff h3) ?_, ?_⟩
  · rw [crc_xor (low_In h1) (low_In h2) he, show (16384 : Int) = ((16384 : Nat) : Int) from rfl, fmod_nat, fmod_nat, fmod_nat, bxor_nat, show (16384 : Nat) = 2 ^ 14 from rfl, Nat.xor_mod_two_pow]
  · have h4 : ∀ k ∈ List.replicate n (0 : Int) ++ l1, 0 ≤ k ∧ k < 64 := fun k hk => (List.mem_append.mp hk).elim (fun h => by rw [List.eq_of_mem_replicate h]; decide) (h1 k)
    refine slot_of ?_ (low_In h4) (by decide) (low_eff h4) ?_
    · simp; omega
    · rw [crcK_noughts]
end
end Mine

/-! ### S3 -/
namespace Mine
open PySem PySem.W PyProof.Rows PySem.Calls PySem.Spec
theorem freshS3 : True := by
  w_top off
  trivial
local macro_rules | `(tactic| walk_at "call ref") => `(tactic| (k_here; (with_reducible show wpAny _ _ (call (Value.ref 36) [Value.bytes _ _]) _ _ _); k_dflt (refine' use_K ?k1 ?k2 ?k3 ?k4 ?k5 ?kK (rest_U ?kb ?kc) trivial ?kd ?ku ?_; (case k1 => k_asm); (case k2 => k_asm); (case k3 => k_asm); (case k4 => k_asm); (case k5 => k_asm); (case kK => first | exact rfl | assumption); (case kb => kba_ints); (case kc => assumption); (case kd => ktr_room); (case ku => ktr_units)); intro _ _ _ _ _))
local macro_rules | `(tactic| walk_at "call ref") => `(tactic| (k_here; (with_reducible show wpAny _ _ (call (Value.ref 43) [Value.int _ _]) _ _ _); k_dflt (refine' use_K ?k1 ?k2 ?k3 ?k4 ?k5 ?kK (back_U ?kc) trivial ?kd ?ku ?_; (case k1 => k_asm); (case k2 => k_asm); (case k3 => k_asm); (case k4 => k_asm); (case k5 => k_asm); (case kK => first | exact rfl | assumption); (case kc => assumption); (case kd => ktr_room); (case ku => ktr_units)); intro _ _ _ _ _))
local macro_rules | `(tactic| walk_at "call ref") => `(tactic| (k_here; (with_reducible show wpAny _ _ (call (Value.ref 29) [Value.bytes _ _, Value.int _ _]) _ _ _); k_dflt (refine' use_K2 ?k1 ?k2 ?k3 ?k4 ?k5 ?kK (slot_U ?kb ?kc) ?kd ?ku ?_; (case k1 => k_asm); (case k2 => k_asm); (case k3 => k_asm); (case k4 => k_asm); (case k5 => k_asm); (case kK => first | exact rfl | assumption); (case kb => kba_ints); (case kc => assumption); (case kd => ktr_room); (case ku => ktr_units)); intro _ _ _ _ _))
local macro_rules | `(tactic| walk_at "call ref") => `(tactic| (k_here; (with_reducible show wpAny _ _ (call (Value.ref 29) [Value.bytes _ _]) _ _ _); k_dflt (refine' use_K2 ?k1 ?k2 ?k3 ?k4 ?k5 ?kK (slot_U1 ?kb ?kc) ?kd ?ku ?_; (case k1 => k_asm); (case k2 => k_asm); (case k3 => k_asm); (case k4 => k_asm); (case k5 => k_asm); (case kK => first | exact rfl | assumption); (case kb => kba_ints); (case kc => assumption); (case kd => ktr_room); (case ku => ktr_units)); intro _ _ _ _ _))
local macro_rules | `(tactic| walk_at "compareOp NotEq int int") => `(tactic| (with_reducible refine ne_same ?_))
local macro_rules | `(tactic| walk_at "compareOp Eq int int") => `(tactic| (with_reducible refine eq_same ?_))
section
variable {w : World} {s₀ : Shared} {mg mb : Str → Option Value} {h₀ : Heap} {L fa : Addr} {cd : Value} {s : Shared} {Q : Flow → Shared → Prop} {E : Value → Shared → Prop} {u : Str → Option Value} {kb : Array UInt8} {wk wa wb w1 w2 : Tok} {ks : List Int} {a b rest : Int} {oa ob o3 o4 : Obj} {D : Addr}
set_option maxHeartbeats 8000000 in
theorem st3 (X : (hd.heap_39 w.params).In h₀) (T : Top hd.view_39 LS (ExcName.means s₀.heap) mg mb h₀)
    (hb : KBw.bInts kb = ks) (hr : Rest ks rest) (da : oa.data = Data.cell (some (.int a wa)))
    (F : Fr h₀ L s.heap (fun y => if y = Str.ofString "key" then some (.bytes kb wk) else u y)) (N : News h₀ L s.heap [(L + 1 + 1 + 1 + 1, o4), (L + 1 + 1 + 1, o3), (L + 1 + 1, ob), (L + 1, oa)])
    (ret : ∀ h' tk' w1 w2, Fr h₀ L h' (fun y => if y = Str.ofString "rest" then some (.int rest w1) else if y = Str.ofString "slot" then some (.int (a.fmod 16384) w2) else if y = Str.ofString "key" then some (.bytes kb wk) else u y) → News h₀ L h' [(L + 1 + 1 + 1 + 1, o4), (L + 1 + 1 + 1, o3), (L + 1 + 1, ob), (L + 1, oa)] → Q .next { s with heap := h', toks := tk' }) :
    wpAny (model PySem.Challenge.rw_fe0275_01.row.prog w) (callerA.deeper (lawEnv L fa cd)) (exec (lawAt 2) (lawEnv L fa cd)) Q E s := by
  revert X
  k_fill
  intro X
  have K0 := below_caller h₀
  with_unfolding_all show wpAny _ _ (exec (Stmt.Assign _ _ _) _) _ _ _
  repeat' walk1
  rename Fr _ _ _ _ => F1
  rename News _ _ _ _ => N1
  exact ret _ _ _ _ F1 (news_sub N1 fun _ h => .tail _ h)
end
end Mine

/-! ### S4 -/
namespace Mine
open PySem PySem.W PyProof.Rows PySem.Calls PySem.Spec
theorem freshS4 : True := by
  w_top off
  trivial
local macro_rules | `(tactic| walk_at "call ref") => `(tactic| (k_here; (with_reducible show wpAny _ _ (call (Value.ref 36) [Value.bytes _ _]) _ _ _); k_dflt (refine' use_K ?k1 ?k2 ?k3 ?k4 ?k5 ?kK (rest_U ?kb ?kc) trivial ?kd ?ku ?_; (case k1 => k_asm); (case k2 => k_asm); (case k3 => k_asm); (case k4 => k_asm); (case k5 => k_asm); (case kK => first | exact rfl | assumption); (case kb => kba_ints); (case kc => assumption); (case kd => ktr_room); (case ku => ktr_units)); intro _ _ _ _ _))
local macro_rules | `(tactic| walk_at "call ref") => `(tactic| (k_here; (with_reducible show wpAny _ _ (call (Value.ref 43) [Value.int _ _]) _ _ _); k_dflt (refine' use_K ?k1 ?k2 ?k3 ?k4 ?k5 ?kK (back_U ?kc) trivial ?kd ?ku ?_; (case k1 => k_asm); (case k2 => k_asm); (case k3 => k_asm); (case k4 => k_asm); (case k5 => k_asm); (case kK => first | exact rfl | assumption); (case kc => assumption); (case kd => ktr_room); (case ku => ktr_units)); intro _ _ _ _ _))
local macro_rules | `(tactic| walk_at "call ref") => `(tactic| (k_here; (with_reducible show wpAny _ _ (call (Value.ref 29) [Value.bytes _ _, Value.int _ _]) _ _ _); k_dflt (refine' use_K2 ?k1 ?k2 ?k3 ?k4 ?k5 ?kK (slot_U ?kb ?kc) ?kd ?ku ?_; (case k1 => k_asm); (case k2 => k_asm); (case k3 => k_asm); (case k4 => k_asm); (case k5 => k_asm); (case kK => first | exact rfl | assumption); (case kb => kba_ints); (case kc => assumption); (case kd => ktr_room); (case ku => ktr_units)); intro _ _ _ _ _))
local macro_rules | `(tactic| walk_at "call ref") => `(tactic| (k_here; (with_reducible show wpAny _ _ (call (Value.ref 29) [Value.bytes _ _]) _ _ _); k_dflt (refine' use_K2 ?k1 ?k2 ?k3 ?k4 ?k5 ?kK (slot_U1 ?kb ?kc) ?kd ?ku ?_; (case k1 => k_asm); (case k2 => k_asm); (case k3 => k_asm); (case k4 => k_asm); (case k5 => k_asm); (case kK => first | exact rfl | assumption); (case kb => kba_ints); (case kc => assumption); (case kd => ktr_room); (case ku => ktr_units)); intro _ _ _ _ _))
local macro_rules | `(tactic| walk_at "compareOp NotEq int int") => `(tactic| (with_reducible refine ne_same ?_))
local macro_rules | `(tactic| walk_at "compareOp Eq int int") => `(tactic| (with_reducible refine eq_same ?_))
section
variable {w : World} {s₀ : Shared} {mg mb : Str → Option Value} {h₀ : Heap} {L fa : Addr} {cd : Value} {s : Shared} {Q : Flow → Shared → Prop} {E : Value → Shared → Prop} {u : Str → Option Value} {kb : Array UInt8} {wk wa wb w1 w2 : Tok} {ks : List Int} {a b rest : Int} {oa ob o3 o4 : Obj} {D : Addr}
set_option maxHeartbeats 8000000 in
theorem st4 (X : (hd.heap_39 w.params).In h₀) (T : Top hd.view_39 LS (ExcName.means s₀.heap) mg mb h₀)
    (hb : KBw.bInts kb = ks) (hs1 : SlotIs ks 65536 rest) (hs2 : SlotIs ks 16384 (rest.fmod 16384)) (hs3 : SlotIs ks (1 + b.fmod 999) (rest.fmod (1 + b.fmod 999))) (db : ob.data = Data.cell (some (.int b wb)))
    (F : Fr h₀ L s.heap (fun y => if y = Str.ofString "rest" then some (.int rest w1) else if y = Str.ofString "slot" then some (.int (a.fmod 16384) w2) else if y = Str.ofString "key" then some (.bytes kb wk) else u y)) (N : News h₀ L s.heap [(L + 1 + 1 + 1 + 1, o4), (L + 1 + 1 + 1, o3), (L + 1 + 1, ob), (L + 1, oa)])
    (ret : ∀ h' tk', Fr h₀ L h' (fun y => if y = Str.ofString "rest" then some (.int rest w1) else if y = Str.ofString "slot" then some (.int (a.fmod 16384) w2) else if y = Str.ofString "key" then some (.bytes kb wk) else u y) → News h₀ L h' [(L + 1 + 1 + 1 + 1, o4), (L + 1 + 1 + 1, o3), (L + 1 + 1, ob), (L + 1, oa)] → Q .next { s with heap := h', toks := tk' }) :
    wpAny (model PySem.Challenge.rw_fe0275_01.row.prog w) (callerA.deeper (lawEnv L fa cd)) (exec (lawAt 3) (lawEnv L fa cd)) Q E s := by
  revert X
  k_fill
  intro X
  have K0 := below_caller h₀
  have hm := fmod_lo b (show (0 : Int) < 999 by decide)
  with_unfolding_all show wpAny _ _ (exec (Stmt.If _ _ _ _) _) _ _ _
  repeat' walk1
  all_goals first
    | (exfalso; rename _ ≠ _ => hh; exact hh rfl)
    | (rename Fr _ _ _ _ => F1; rename News _ _ _ _ => N1; exact ret _ _ F1 N1)
end
end Mine

/-! ### S45 -/
namespace Mine
open PySem PySem.W PyProof.Rows PySem.Calls PySem.Spec
theorem freshS45 : True := by
  w_top off
  trivial
local macro_rules | `(tactic| walk_at "call ref") => `(tactic| (k_here; (with_reducible show wpAny _ _ (call (Value.ref 36) [Value.bytes _ _]) _ _ _); k_dflt (refine' use_K ?k1 ?k2 ?k3 ?k4 ?k5 ?kK (rest_U ?kb ?kc) trivial ?kd ?ku ?_; (case k1 => k_asm); (case k2 => k_asm); (case k3 => k_asm); (case k4 => k_asm); (case k5 => k_asm); (case kK => first | exact rfl | assumption); (case kb => kba_ints); (case kc => assumption); (case kd => ktr_room); (case ku => ktr_units)); intro _ _ _ _ _))
local macro_rules | `(tactic| walk_at "call ref") => `(tactic| (k_here; (with_reducible show wpAny _ _ (call (Value.ref 43) [Value.int _ _]) _ _ _); k_dflt (refine' use_K ?k1 ?k2 ?k3 ?k4 ?k5 ?kK (back_U ?kc) trivial ?kd ?ku ?_; (case k1 => k_asm); (case k2 => k_asm); (case k3 => k_asm); (case k4 => k_asm); (case k5 => k_asm); (case kK => first | exact rfl | assumption); (case kc => assumption); (case kd => ktr_room); (case ku => ktr_units)); intro _ _ _ _ _))
local macro_rules | `(tactic| walk_at "call ref") => `(tactic| (k_here; (with_reducible show wpAny _ _ (call (Value.ref 29) [Value.bytes _ _, Value.int _ _]) _ _ _); k_dflt (refine' use_K2 ?k1 ?k2 ?k3 ?k4 ?k5 ?kK (slot_U ?kb ?kc) ?kd ?ku ?_; (case k1 => k_asm); (case k2 => k_asm); (case k3 => k_asm); (case k4 => k_asm); (case k5 => k_asm); (case kK => first | exact rfl | assumption); (case kb => kba_ints); (case kc => assumption); (case kd => ktr_room); (case ku => ktr_units)); intro _ _ _ _ _))
local macro_rules | `(tactic| walk_at "call ref") => `(tactic| (k_here; (with_reducible show wpAny _ _ (call (Value.ref 29) [Value.bytes _ _]) _ _ _); k_dflt (refine' use_K2 ?k1 ?k2 ?k3 ?k4 ?k5 ?kK (slot_U1 ?kb ?kc) ?kd ?ku ?_; (case k1 => k_asm); (case k2 => k_asm); (case k3 => k_asm); (case k4 => k_asm); (case k5 => k_asm); (case kK => first | exact rfl | assumption); (case kb => kba_ints); (case kc => assumption); (case kd => ktr_room); (case ku => ktr_units)); intro _ _ _ _ _))
local macro_rules | `(tactic| walk_at "compareOp NotEq int int") => `(tactic| (with_reducible refine ne_same ?_))
local macro_rules | `(tactic| walk_at "compareOp Eq int int") => `(tactic| (with_reducible refine eq_same ?_))
section
variable {w : World} {s₀ : Shared} {mg mb : Str → Option Value} {h₀ : Heap} {L fa : Addr} {cd : Value} {s : Shared} {Q : Flow → Shared → Prop} {E : Value → Shared → Prop} {u : Str → Option Value} {kb : Array UInt8} {wk wa wb w1 w2 : Tok} {ks : List Int} {a b rest : Int} {oa ob o3 o4 : Obj} {D : Addr}
set_option maxHeartbeats 8000000 in
theorem st45 (X : (hd.heap_39 w.params).In h₀) (T : Top hd.view_39 LS (ExcName.means s₀.heap) mg mb h₀)
    (F : Fr h₀ L s.heap (fun y => if y = Str.ofString "rest" then some (.int rest w1) else if y = Str.ofString "slot" then some (.int (a.fmod 16384) w2) else if y = Str.ofString "key" then some (.bytes kb wk) else u y)) (N : News h₀ L s.heap [(L + 1 + 1 + 1 + 1, o4), (L + 1 + 1 + 1, o3), (L + 1 + 1, ob), (L + 1, oa)])
    (ret : ∀ (h' : Heap) (tk' : Nat) (D : Addr), @LT.lt Nat _ (L + 1 + 1 + 1 + 1) D → Fr h₀ L h' (fun y => if y = Str.ofString "tails" then some (.ref D) else if y = Str.ofString "rest" then some (.int rest w1) else if y = Str.ofString "slot" then some (.int (a.fmod 16384) w2) else if y = Str.ofString "key" then some (.bytes kb wk) else u y) → News h₀ L h' [(D, listOf #[] 0), (L + 1 + 1 + 1 + 1, o4), (L + 1 + 1 + 1, o3), (L + 1 + 1, ob), (L + 1, oa)] → Q .next { s with heap := h', toks := tk' }) :
    wpAny (model PySem.Challenge.rw_fe0275_01.row.prog w) (callerA.deeper (lawEnv L fa cd)) (exec (lawAt 4) (lawEnv L fa cd)) Q (fun _ _ => False) s := by
  revert X
  k_fill
  intro X
  have K0 := below_caller h₀
  with_unfolding_all show wpAny _ _ (exec (Stmt.Assign _ _ _) _) _ _ _
  repeat' walk1
  rename Fr _ _ _ _ => F1
  rename News _ _ _ _ => N1
  rename _ ∧ _ => l1
  exact ret _ _ _ l1.1 F1 N1
end
end Mine

/-! ### S5 -/
namespace Mine
open PySem PySem.W PyProof.Rows PySem.Calls PySem.Spec
theorem freshS5 : True := by
  w_top off
  trivial
local macro_rules | `(tactic| walk_at "call ref") => `(tactic| (k_here; (with_reducible show wpAny _ _ (call (Value.ref 36) [Value.bytes _ _]) _ _ _); k_dflt (refine' use_K ?k1 ?k2 ?k3 ?k4 ?k5 ?kK (rest_U ?kb ?kc) trivial ?kd ?ku ?_; (case k1 => k_asm); (case k2 => k_asm); (case k3 => k_asm); (case k4 => k_asm); (case k5 => k_asm); (case kK => first | exact rfl | assumption); (case kb => kba_ints); (case kc => assumption); (case kd => ktr_room); (case ku => ktr_units)); intro _ _ _ _ _))
local macro_rules | `(tactic| walk_at "call ref") => `(tactic| (k_here; (with_reducible show wpAny _ _ (call (Value.ref 43) [Value.int _ _]) _ _ _); k_dflt (refine' use_K ?k1 ?k2 ?k3 ?k4 ?k5 ?kK (back_U ?kc) trivial ?kd ?ku ?_; (case k1 => k_asm); (case k2 => k_asm); (case k3 => k_asm); (case k4 => k_asm); (case k5 => k_asm); (case kK => first | exact rfl | assumption); (case kc => assumption); (case kd => ktr_room); (case ku => ktr_units)); intro _ _ _ _ _))
local macro_rules | `(tactic| walk_at "call ref") => `(tactic| (k_here; (with_reducible show wpAny _ _ (call (Value.ref 29) [Value.bytes _ _, Value.int _ _]) _ _ _); k_dflt (refine' use_K2 ?k1 ?k2 ?k3 ?k4 ?k5 ?kK (slot_U ?kb ?kc) ?kd ?ku ?_; (case k1 => k_asm); (case k2 => k_asm); (case k3 => k_asm); (case k4 => k_asm); (case k5 => k_asm); (case kK => first | exact rfl | assumption); (case kb => kba_ints); (case kc => assumption); (case kd => ktr_room); (case ku => ktr_units)); intro _ _ _ _ _))
local macro_rules | `(tactic| walk_at "call ref") => `(tactic| (k_here; (with_reducible show wpAny _ _ (call (Value.ref 29) [Value.bytes _ _]) _ _ _); k_dflt (refine' use_K2 ?k1 ?k2 ?k3 ?k4 ?k5 ?kK (slot_U1 ?kb ?kc) ?kd ?ku ?_; (case k1 => k_asm); (case k2 => k_asm); (case k3 => k_asm); (case k4 => k_asm); (case k5 => k_asm); (case kK => first | exact rfl | assumption); (case kb => kba_ints); (case kc => assumption); (case kd => ktr_room); (case ku => ktr_units)); intro _ _ _ _ _))
local macro_rules | `(tactic| walk_at "compareOp NotEq int int") => `(tactic| (with_reducible refine ne_same ?_))
local macro_rules | `(tactic| walk_at "compareOp Eq int int") => `(tactic| (with_reducible refine eq_same ?_))
section
variable {w : World} {s₀ : Shared} {mg mb : Str → Option Value} {h₀ : Heap} {L fa : Addr} {cd : Value} {s : Shared} {Q : Flow → Shared → Prop} {E : Value → Shared → Prop} {u : Str → Option Value} {kb : Array UInt8} {wk wa wb w1 w2 : Tok} {ks : List Int} {a b rest : Int} {oa ob o3 o4 : Obj} {D : Addr}
theorem in_two {x : Int} (h0 : 0 ≤ x) (h1 : x < 65536) : KBa.In [x.fdiv 256, x.fmod 256] := by
  intro n hn
  rw [Int.fdiv_eq_ediv_of_nonneg _ (by decide), Int.fmod_eq_emod_of_nonneg _ (by decide)] at hn
  rcases List.mem_cons.mp hn with rfl | hn
  · omega
  · rw [List.mem_singleton.mp hn]
    omega
set_option maxHeartbeats 8000000 in
theorem st5 (X : (hd.heap_39 w.params).In h₀) (T : Top hd.view_39 LS (ExcName.means s₀.heap) mg mb h₀)
    (db : ob.data = Data.cell (some (.int b wb)))
    (hD : @LT.lt Nat _ (L + 1 + 1 + 1 + 1) D)
    {x0 x1 x2 x3 : Int}
    (hx0 : BackIs (a.fmod 16384 + 16384 * (0 + b).fmod 4) x0) (hx1 : BackIs (a.fmod 16384 + 16384 * (1 + b).fmod 4) x1) (hx2 : BackIs (a.fmod 16384 + 16384 * (2 + b).fmod 4) x2) (hx3 : BackIs (a.fmod 16384 + 16384 * (3 + b).fmod 4) x3)
    (lo0 : 0 ≤ Builtin.bitXor x0 rest) (hi0 : Builtin.bitXor x0 rest < 65536) (lo1 : 0 ≤ Builtin.bitXor x1 rest) (hi1 : Builtin.bitXor x1 rest < 65536) (lo2 : 0 ≤ Builtin.bitXor x2 rest) (hi2 : Builtin.bitXor x2 rest < 65536) (lo3 : 0 ≤ Builtin.bitXor x3 rest) (hi3 : Builtin.bitXor x3 rest < 65536)
    (F : Fr h₀ L s.heap (fun y => if y = Str.ofString "tails" then some (.ref D) else if y = Str.ofString "rest" then some (.int rest w1) else if y = Str.ofString "slot" then some (.int (a.fmod 16384) w2) else if y = Str.ofString "key" then some (.bytes kb wk) else u y)) (N : News h₀ L s.heap [(D, listOf #[] 0), (L + 1 + 1 + 1 + 1, o4), (L + 1 + 1 + 1, o3), (L + 1 + 1, ob), (L + 1, oa)])
    (ret : ∀ (h' : Heap) (tk' : Nat) (u' : Str → Option Value) (z0 z1 z2 z3 : Tok), Fr h₀ L h' (fun y => if y = Str.ofString "tails" then some (.ref D) else if y = Str.ofString "rest" then some (.int rest w1) else if y = Str.ofString "slot" then some (.int (a.fmod 16384) w2) else if y = Str.ofString "key" then some (.bytes kb wk) else u' y) →
      News h₀ L h' [(D, listOf [.bytes (byteArr [(Builtin.bitXor x0 rest).fdiv 256, (Builtin.bitXor x0 rest).fmod 256]) z0, .bytes (byteArr [(Builtin.bitXor x1 rest).fdiv 256, (Builtin.bitXor x1 rest).fmod 256]) z1, .bytes (byteArr [(Builtin.bitXor x2 rest).fdiv 256, (Builtin.bitXor x2 rest).fmod 256]) z2, .bytes (byteArr [(Builtin.bitXor x3 rest).fdiv 256, (Builtin.bitXor x3 rest).fmod 256]) z3].toArray 4), (L + 1 + 1 + 1 + 1, o4), (L + 1 + 1 + 1, o3), (L + 1 + 1, ob), (L + 1, oa)] → Q .next { s with heap := h', toks := tk' }) :
    wpAny (model PySem.Challenge.rw_fe0275_01.row.prog w) (callerA.deeper (lawEnv L fa cd)) (exec (lawAt 5) (lawEnv L fa cd)) Q (fun _ _ => False) s := by
  revert X
  k_fill
  intro X
  have K0 := below_caller h₀
  have i0 := in_two lo0 hi0
  have i1 := in_two lo1 hi1
  have i2 := in_two lo2 hi2
  have i3 := in_two lo3 hi3
  with_unfolding_all show wpAny _ _ (exec (Stmt.For _ _ _ _ _) _) _ _ _
  repeat' walk1
  rename Fr _ _ _ _ => F1
  rename News _ _ _ _ => N1
  simp only [List.push_toArray, List.nil_append, List.cons_append, Nat.zero_add, Nat.reduceAdd] at N1
  have G1 := fr_pick (x := Str.ofString "key") (v := .bytes kb wk) F1 (by with_unfolding_all rfl)
  have G2 := fr_pick (x := Str.ofString "slot") (v := .int (a.fmod 16384) w2) G1 (by with_unfolding_all rfl)
  have G3 := fr_pick (x := Str.ofString "rest") (v := .int rest w1) G2 (by with_unfolding_all rfl)
  have G4 := fr_pick (x := Str.ofString "tails") (v := .ref D) G3 (by with_unfolding_all rfl)
  have G5 : Fr h₀ L _ _ := G4
  have N2 := news_five N1 (.tail _ (.tail _ (.tail _ (.tail _ (.head _))))) (.tail _ (.tail _ (.tail _ (.tail _ (.tail _ (.head _)))))) (.tail _ (.tail _ (.tail _ (.tail _ (.tail _ (.tail _ (.head _))))))) (.tail _ (.tail _ (.tail _ (.tail _ (.tail _ (.tail _ (.tail _ (.head _)))))))) (.tail _ (.tail _ (.tail _ (.tail _ (.tail _ (.tail _ (.tail _ (.tail _ (.head _)))))))))
  exact ret _ _ _ _ _ _ _ G5 N2
end
end Mine

/-! ### S6 -/
namespace Mine
open PySem PySem.W PyProof.Rows PySem.Calls PySem.Spec
theorem freshS6 : True := by
  w_top off
  trivial
local macro_rules | `(tactic| walk_at "call ref") => `(tactic| (k_here; (with_reducible show wpAny _ _ (call (Value.ref 36) [Value.bytes _ _]) _ _ _); k_dflt (refine' use_K ?k1 ?k2 ?k3 ?k4 ?k5 ?kK (rest_U ?kb ?kc) trivial ?kd ?ku ?_; (case k1 => k_asm); (case k2 => k_asm); (case k3 => k_asm); (case k4 => k_asm); (case k5 => k_asm); (case kK => first | exact rfl | assumption); (case kb => kba_ints); (case kc => assumption); (case kd => ktr_room); (case ku => ktr_units)); intro _ _ _ _ _))
local macro_rules | `(tactic| walk_at "call ref") => `(tactic| (k_here; (with_reducible show wpAny _ _ (call (Value.ref 43) [Value.int _ _]) _ _ _); k_dflt (refine' use_K ?k1 ?k2 ?k3 ?k4 ?k5 ?kK (back_U ?kc) trivial ?kd ?ku ?_; (case k1 => k_asm); (case k2 => k_asm); (case k3 => k_asm); (case k4 => k_asm); (case k5 => k_asm); (case kK => first | exact rfl | assumption); (case kc => assumption); (case kd => ktr_room); (case ku => ktr_units)); intro _ _ _ _ _))
local macro_rules | `(tactic| walk_at "call ref") => `(tactic| (k_here; (with_reducible show wpAny _ _ (call (Value.ref 29) [Value.bytes _ _, Value.int _ _]) _ _ _); k_dflt (refine' use_K2 ?k1 ?k2 ?k3 ?k4 ?k5 ?kK (slot_U ?kb ?kc) ?kd ?ku ?_; (case k1 => k_asm); (case k2 => k_asm); (case k3 => k_asm); (case k4 => k_asm); (case k5 => k_asm); (case kK => first | exact rfl | assumption); (case kb => kba_ints); (case kc => assumption); (case kd => ktr_room); (case ku => ktr_units)); intro _ _ _ _ _))
local macro_rules | `(tactic| walk_at "call ref") => `(tactic| (k_here; (with_reducible show wpAny _ _ (call (Value.ref 29) [Value.bytes _ _]) _ _ _); k_dflt (refine' use_K2 ?k1 ?k2 ?k3 ?k4 ?k5 ?kK (slot_U1 ?kb ?kc) ?kd ?ku ?_; (case k1 => k_asm); (case k2 => k_asm); (case k3 => k_asm); (case k4 => k_asm); (case k5 => k_asm); (case kK => first | exact rfl | assumption); (case kb => kba_ints); (case kc => assumption); (case kd => ktr_room); (case ku => ktr_units)); intro _ _ _ _ _))
local macro_rules | `(tactic| walk_at "compareOp NotEq int int") => `(tactic| (with_reducible refine ne_same ?_))
local macro_rules | `(tactic| walk_at "compareOp Eq int int") => `(tactic| (with_reducible refine eq_same ?_))
section
variable {w : World} {s₀ : Shared} {mg mb : Str → Option Value} {h₀ : Heap} {L fa : Addr} {cd : Value} {s : Shared} {Q : Flow → Shared → Prop} {E : Value → Shared → Prop} {u : Str → Option Value} {kb : Array UInt8} {wk wa wb w1 w2 : Tok} {ks : List Int} {a b rest : Int} {oa ob o3 o4 : Obj} {D : Addr}
set_option maxHeartbeats 8000000 in
theorem st6 (X : (hd.heap_39 w.params).In h₀) (T : Top hd.view_39 LS (ExcName.means s₀.heap) mg mb h₀)
    (db : ob.data = Data.cell (some (.int b wb))) (hb : KBw.bInts kb = ks) (hkl : ks.length ≤ 7)
    (hD : @LT.lt Nat _ (L + 1 + 1 + 1 + 1) D)
    {c0 c1 c2 c3 : Array UInt8} {z0 z1 z2 z3 : Tok} {p0 q0 p1 q1 p2 q2 p3 q3 r0 r1 r2 r3 : Int}
    (hc0 : KBw.bInts c0 = [p0, q0]) (hc1 : KBw.bInts c1 = [p1, q1]) (hc2 : KBw.bInts c2 = [p2, q2]) (hc3 : KBw.bInts c3 = [p3, q3])
    (hs0 : SlotIs (ks ++ [p0, q0]) 16384 (a.fmod 16384)) (hs1 : SlotIs (ks ++ [p1, q1]) 16384 (a.fmod 16384)) (hs2 : SlotIs (ks ++ [p2, q2]) 16384 (a.fmod 16384)) (hs3 : SlotIs (ks ++ [p3, q3]) 16384 (a.fmod 16384))
    (hr0 : Rest (ks ++ [p0, q0]) r0) (hr1 : Rest (ks ++ [p1, q1]) r1) (hr2 : Rest (ks ++ [p2, q2]) r2) (hr3 : Rest (ks ++ [p3, q3]) r3)
    (ht0 : SlotIs (ks ++ [p0, q0]) (1 + b.fmod 999) (r0.fmod (1 + b.fmod 999))) (ht1 : SlotIs (ks ++ [p1, q1]) (1 + b.fmod 999) (r1.fmod (1 + b.fmod 999))) (ht2 : SlotIs (ks ++ [p2, q2]) (1 + b.fmod 999) (r2.fmod (1 + b.fmod 999))) (ht3 : SlotIs (ks ++ [p3, q3]) (1 + b.fmod 999) (r3.fmod (1 + b.fmod 999)))
    (F : Fr h₀ L s.heap (fun y => if y = Str.ofString "tails" then some (.ref D) else if y = Str.ofString "rest" then some (.int rest w1) else if y = Str.ofString "slot" then some (.int (a.fmod 16384) w2) else if y = Str.ofString "key" then some (.bytes kb wk) else u y))
    (N : News h₀ L s.heap [(D, listOf [.bytes c0 z0, .bytes c1 z1, .bytes c2 z2, .bytes c3 z3].toArray 4), (L + 1 + 1 + 1 + 1, o4), (L + 1 + 1 + 1, o3), (L + 1 + 1, ob), (L + 1, oa)])
    (ret : ∀ (h' : Heap) (tk' : Nat) (u' : Str → Option Value), Fr h₀ L h' (fun y => if y = Str.ofString "tails" then some (.ref D) else if y = Str.ofString "rest" then some (.int rest w1) else if y = Str.ofString "slot" then some (.int (a.fmod 16384) w2) else if y = Str.ofString "key" then some (.bytes kb wk) else u' y) →
      News h₀ L h' [(D, listOf [.bytes c0 z0, .bytes c1 z1, .bytes c2 z2, .bytes c3 z3].toArray 4), (L + 1 + 1 + 1 + 1, o4), (L + 1 + 1 + 1, o3), (L + 1 + 1, ob), (L + 1, oa)] → Q .next { s with heap := h', toks := tk' }) :
    wpAny (model PySem.Challenge.rw_fe0275_01.row.prog w) (callerA.deeper (lawEnv L fa cd)) (exec (lawAt 6) (lawEnv L fa cd)) Q (fun _ _ => False) s := by
  revert X
  k_fill
  intro X
  have K0 := below_caller h₀
  have hm := fmod_lo b (show (0 : Int) < 999 by decide)
  with_unfolding_all show wpAny _ _ (exec (Stmt.For _ _ _ _ _) _) _ _ _
  repeat' walk1
  rename Fr _ _ _ _ => F1
  rename News _ _ _ _ => N1
  have G1 := fr_pick (x := Str.ofString "key") (v := .bytes kb wk) F1 (by with_unfolding_all rfl)
  have G2 := fr_pick (x := Str.ofString "slot") (v := .int (a.fmod 16384) w2) G1 (by with_unfolding_all rfl)
  have G3 := fr_pick (x := Str.ofString "rest") (v := .int rest w1) G2 (by with_unfolding_all rfl)
  have G4 := fr_pick (x := Str.ofString "tails") (v := .ref D) G3 (by with_unfolding_all rfl)
  have G5 : Fr h₀ L _ _ := G4
  exact ret _ _ _ G5 N1
end
end Mine

/-! ### S7a -/
namespace Mine
open PySem PySem.W PyProof.Rows PySem.Calls PySem.Spec
theorem freshS7a : True := by
  w_top off
  trivial
local macro_rules | `(tactic| walk_at "call ref") => `(tactic| (k_here; (with_reducible show wpAny _ _ (call (Value.ref 36) [Value.bytes _ _]) _ _ _); k_dflt (refine' use_K ?k1 ?k2 ?k3 ?k4 ?k5 ?kK (rest_U ?kb ?kc) trivial ?kd ?ku ?_; (case k1 => k_asm); (case k2 => k_asm); (case k3 => k_asm); (case k4 => k_asm); (case k5 => k_asm); (case kK => first | exact rfl | assumption); (case kb => kba_ints); (case kc => assumption); (case kd => ktr_room); (case ku => ktr_units)); intro _ _ _ _ _))
local macro_rules | `(tactic| walk_at "call ref") => `(tactic| (k_here; (with_reducible show wpAny _ _ (call (Value.ref 43) [Value.int _ _]) _ _ _); k_dflt (refine' use_K ?k1 ?k2 ?k3 ?k4 ?k5 ?kK (back_U ?kc) trivial ?kd ?ku ?_; (case k1 => k_asm); (case k2 => k_asm); (case k3 => k_asm); (case k4 => k_asm); (case k5 => k_asm); (case kK => first | exact rfl | assumption); (case kc => assumption); (case kd => ktr_room); (case ku => ktr_units)); intro _ _ _ _ _))
local macro_rules | `(tactic| walk_at "call ref") => `(tactic| (k_here; (with_reducible show wpAny _ _ (call (Value.ref 29) [Value.bytes _ _, Value.int _ _]) _ _ _); k_dflt (refine' use_K2 ?k1 ?k2 ?k3 ?k4 ?k5 ?kK (slot_U ?kb ?kc) ?kd ?ku ?_; (case k1 => k_asm); (case k2 => k_asm); (case k3 => k_asm); (case k4 => k_asm); (case k5 => k_asm); (case kK => first | exact rfl | assumption); (case kb => kba_ints); (case kc => assumption); (case kd => ktr_room); (case ku => ktr_units)); intro _ _ _ _ _))
local macro_rules | `(tactic| walk_at "call ref") => `(tactic| (k_here; (with_reducible show wpAny _ _ (call (Value.ref 29) [Value.bytes _ _]) _ _ _); k_dflt (refine' use_K2 ?k1 ?k2 ?k3 ?k4 ?k5 ?kK (slot_U1 ?kb ?kc) ?kd ?ku ?_; (case k1 => k_asm); (case k2 => k_asm); (case k3 => k_asm); (case k4 => k_asm); (case k5 => k_asm); (case kK => first | exact rfl | assumption); (case kb => kba_ints); (case kc => assumption); (case kd => ktr_room); (case ku => ktr_units)); intro _ _ _ _ _))
local macro_rules | `(tactic| walk_at "compareOp NotEq int int") => `(tactic| (with_reducible refine ne_same ?_))
local macro_rules | `(tactic| walk_at "compareOp Eq int int") => `(tactic| (with_reducible refine eq_same ?_))
section
variable {w : World} {s₀ : Shared} {mg mb : Str → Option Value} {h₀ : Heap} {L fa : Addr} {cd : Value} {s : Shared} {Q : Flow → Shared → Prop} {E : Value → Shared → Prop} {u : Str → Option Value} {kb : Array UInt8} {wk wa wb w1 w2 : Tok} {ks : List Int} {a b rest : Int} {oa ob o3 o4 : Obj} {D : Addr}
local macro_rules | `(tactic| walk_at "compareOp NotIn int bytes") => `(tactic| (refine notIn_bytes (by assumption) (by decide) (by decide) ?_))
set_option maxHeartbeats 8000000 in
theorem st7_iter (X : (hd.heap_39 w.params).In h₀) (T : Top hd.view_39 LS (ExcName.means s₀.heap) mg mb h₀)
    (hD : @LT.lt Nat _ (L + 1 + 1 + 1 + 1) D)
    {QV : Value → Shared → Prop}
    {c0 c1 c2 c3 : Array UInt8} {z0 z1 z2 z3 : Tok} {p0 q0 p1 q1 p2 q2 p3 q3 : Int}
    (hc0 : KBw.bInts c0 = [p0, q0]) (hc1 : KBw.bInts c1 = [p1, q1]) (hc2 : KBw.bInts c2 = [p2, q2]) (hc3 : KBw.bInts c3 = [p3, q3])
    (F : Fr h₀ L s.heap (fun y => if y = Str.ofString "tails" then some (.ref D) else u y))
    (N : News h₀ L s.heap [(D, listOf [.bytes c0 z0, .bytes c1 z1, .bytes c2 z2, .bytes c3 z3].toArray 4), (L + 1 + 1 + 1 + 1, o4), (L + 1 + 1 + 1, o3), (L + 1 + 1, ob), (L + 1, oa)])
    (hnil : ∀ (h' : Heap) (tk' : Nat) (D' : Addr), @LT.lt Nat _ D D' → Fr h₀ L h' (fun y => if y = Str.ofString "tails" then some (.ref D) else u y) → News h₀ L h' [(D', listOf #[] 0), (D, listOf [.bytes c0 z0, .bytes c1 z1, .bytes c2 z2, .bytes c3 z3].toArray 4), (L + 1 + 1 + 1 + 1, o4), (L + 1 + 1 + 1, o3), (L + 1 + 1, ob), (L + 1, oa)] → QV (.ref D') { s with heap := h', toks := tk' })
    (g0 : (125 : Int) ∉ [p0, q0] → ∀ (h' : Heap) (tk' : Nat) (D' : Addr), @LT.lt Nat _ D D' → Fr h₀ L h' (fun y => if y = Str.ofString "tails" then some (.ref D) else u y) → News h₀ L h' [(D', listOf #[.bytes c0 z0] 0), (D, listOf [.bytes c0 z0, .bytes c1 z1, .bytes c2 z2, .bytes c3 z3].toArray 4), (L + 1 + 1 + 1 + 1, o4), (L + 1 + 1 + 1, o3), (L + 1 + 1, ob), (L + 1, oa)] → QV (.ref D') { s with heap := h', toks := tk' })
    (g1 : (125 : Int) ∉ [p1, q1] → ∀ (h' : Heap) (tk' : Nat) (D' : Addr), @LT.lt Nat _ D D' → Fr h₀ L h' (fun y => if y = Str.ofString "tails" then some (.ref D) else u y) → News h₀ L h' [(D', listOf #[.bytes c1 z1] 0), (D, listOf [.bytes c0 z0, .bytes c1 z1, .bytes c2 z2, .bytes c3 z3].toArray 4), (L + 1 + 1 + 1 + 1, o4), (L + 1 + 1 + 1, o3), (L + 1 + 1, ob), (L + 1, oa)] → QV (.ref D') { s with heap := h', toks := tk' })
    (g2 : (125 : Int) ∉ [p2, q2] → ∀ (h' : Heap) (tk' : Nat) (D' : Addr), @LT.lt Nat _ D D' → Fr h₀ L h' (fun y => if y = Str.ofString "tails" then some (.ref D) else u y) → News h₀ L h' [(D', listOf #[.bytes c2 z2] 0), (D, listOf [.bytes c0 z0, .bytes c1 z1, .bytes c2 z2, .bytes c3 z3].toArray 4), (L + 1 + 1 + 1 + 1, o4), (L + 1 + 1 + 1, o3), (L + 1 + 1, ob), (L + 1, oa)] → QV (.ref D') { s with heap := h', toks := tk' })
    (g3 : (125 : Int) ∉ [p3, q3] → ∀ (h' : Heap) (tk' : Nat) (D' : Addr), @LT.lt Nat _ D D' → Fr h₀ L h' (fun y => if y = Str.ofString "tails" then some (.ref D) else u y) → News h₀ L h' [(D', listOf #[.bytes c3 z3] 0), (D, listOf [.bytes c0 z0, .bytes c1 z1, .bytes c2 z2, .bytes c3 z3].toArray 4), (L + 1 + 1 + 1 + 1, o4), (L + 1 + 1 + 1, o3), (L + 1 + 1, ob), (L + 1, oa)] → QV (.ref D') { s with heap := h', toks := tk' }) :
    wpAny (model PySem.Challenge.rw_fe0275_01.row.prog w) (callerA.deeper (lawEnv L fa cd)) (eval iter7 (lawEnv L fa cd)) QV (fun _ _ => False) s := by
  revert X
  k_fill
  intro X
  have K0 := below_caller h₀
  with_unfolding_all show wpAny _ _ (eval (Expr.Subscript _ _ _) _) _ _ _
  walk1
  k_dflt (refine LCt.ListComp_T (F₀ := by k_asm) (by with_unfolding_all rfl) (by decide) (by rfl) (by decide) (by rfl) ?_)
  walk1
  k_dflt (refine LCt.CompSrcT.ledger (by rfl) (by k_asm) (by k_asm) (by k_mem) (by first | size_fits | exact Nat.le_of_ble_eq_true rfl) ?_)
  intro g'
  change LCt.CompRestT _ _ _ _ _ _ _ _ _ _ _ _ _ _ _ _ 4 _ _ _
  repeat' walk1
  all_goals (
    rename Fr _ _ _ _ => F1
    rename News _ _ _ _ => N1
    rename _ ∧ _ => l1
    first
      | exact hnil _ _ _ l1.2.1 F1 (news_drop2 N1)
      | exact g0 (by assumption) _ _ _ l1.2.1 F1 (news_drop2 N1)
      | exact g1 (by assumption) _ _ _ l1.2.1 F1 (news_drop2 N1)
      | exact g2 (by assumption) _ _ _ l1.2.1 F1 (news_drop2 N1)
      | exact g3 (by assumption) _ _ _ l1.2.1 F1 (news_drop2 N1))
end
end Mine

/-! ### S7b -/
namespace Mine
open PySem PySem.W PyProof.Rows PySem.Calls PySem.Spec
theorem freshS7b : True := by
  w_top off
  trivial
local macro_rules | `(tactic| walk_at "call ref") => `(tactic| (k_here; (with_reducible show wpAny _ _ (call (Value.ref 36) [Value.bytes _ _]) _ _ _); k_dflt (refine' use_K ?k1 ?k2 ?k3 ?k4 ?k5 ?kK (rest_U ?kb ?kc) trivial ?kd ?ku ?_; (case k1 => k_asm); (case k2 => k_asm); (case k3 => k_asm); (case k4 => k_asm); (case k5 => k_asm); (case kK => first | exact rfl | assumption); (case kb => kba_ints); (case kc => assumption); (case kd => ktr_room); (case ku => ktr_units)); intro _ _ _ _ _))
local macro_rules | `(tactic| walk_at "call ref") => `(tactic| (k_here; (with_reducible show wpAny _ _ (call (Value.ref 43) [Value.int _ _]) _ _ _); k_dflt (refine' use_K ?k1 ?k2 ?k3 ?k4 ?k5 ?kK (back_U ?kc) trivial ?kd ?ku ?_; (case k1 => k_asm); (case k2 => k_asm); (case k3 => k_asm); (case k4 => k_asm); (case k5 => k_asm); (case kK => first | exact rfl | assumption); (case kc => assumption); (case kd => ktr_room); (case ku => ktr_units)); intro _ _ _ _ _))
local macro_rules | `(tactic| walk_at "call ref") => `(tactic| (k_here; (with_reducible show wpAny _ _ (call (Value.ref 29) [Value.bytes _ _, Value.int _ _]) _ _ _); k_dflt (refine' use_K2 ?k1 ?k2 ?k3 ?k4 ?k5 ?kK (slot_U ?kb ?kc) ?kd ?ku ?_; (case k1 => k_asm); (case k2 => k_asm); (case k3 => k_asm); (case k4 => k_asm); (case k5 => k_asm); (case kK => first | exact rfl | assumption); (case kb => kba_ints); (case kc => assumption); (case kd => ktr_room); (case ku => ktr_units)); intro _ _ _ _ _))
local macro_rules | `(tactic| walk_at "call ref") => `(tactic| (k_here; (with_reducible show wpAny _ _ (call (Value.ref 29) [Value.bytes _ _]) _ _ _); k_dflt (refine' use_K2 ?k1 ?k2 ?k3 ?k4 ?k5 ?kK (slot_U1 ?kb ?kc) ?kd ?ku ?_; (case k1 => k_asm); (case k2 => k_asm); (case k3 => k_asm); (case k4 => k_asm); (case k5 => k_asm); (case kK => first | exact rfl | assumption); (case kb => kba_ints); (case kc => assumption); (case kd => ktr_room); (case ku => ktr_units)); intro _ _ _ _ _))
local macro_rules | `(tactic| walk_at "compareOp NotEq int int") => `(tactic| (with_reducible refine ne_same ?_))
local macro_rules | `(tactic| walk_at "compareOp Eq int int") => `(tactic| (with_reducible refine eq_same ?_))
section
variable {w : World} {s₀ : Shared} {mg mb : Str → Option Value} {h₀ : Heap} {L fa : Addr} {cd : Value} {s : Shared} {Q : Flow → Shared → Prop} {E : Value → Shared → Prop} {u : Str → Option Value} {kb : Array UInt8} {wk wa wb w1 w2 : Tok} {ks : List Int} {a b rest : Int} {oa ob o3 o4 : Obj} {D : Addr}
set_option maxHeartbeats 8000000 in
theorem st7_one (X : (hd.heap_39 w.params).In h₀) (T : Top hd.view_39 LS (ExcName.means s₀.heap) mg mb h₀)
    (da : oa.data = Data.cell (some (.int a wa))) (db : ob.data = Data.cell (some (.int b wb))) (hb : KBw.bInts kb = ks) (hkl : ks.length ≤ 7)
    {D' : Addr} (hD : @LT.lt Nat _ (L + 1 + 1 + 1 + 1) D')
    {c : Array UInt8} {z : Tok} {p q : Int} (hc : KBw.bInts c = [p, q])
    (F : Fr h₀ L s.heap (fun y => if y = Str.ofString "tails" then some (.ref D) else if y = Str.ofString "rest" then some (.int rest w1) else if y = Str.ofString "slot" then some (.int (a.fmod 16384) w2) else if y = Str.ofString "key" then some (.bytes kb wk) else u y))
    (N : News h₀ L s.heap [(D', listOf [.bytes c z].toArray 0), (L + 1 + 1 + 1 + 1, o4), (L + 1 + 1 + 1, o3), (L + 1 + 1, ob), (L + 1, oa)])
    (hT : ∀ P S : List Int, P ∈ [([123] : List Int), ([125, 123] : List Int), ([254, 125, 120, 123] : List Int)] → S ∈ [[], [125], [123, 122, 125], [((b.fmod 256).toNat.toUInt8.toNat : Int), ((a.fmod 256).toNat.toUInt8.toNat : Int)]] → SlotIs ((((P ++ ks) ++ [p, q]) ++ [125]) ++ S) 16384 (a.fmod 16384))
    (ret : ∀ (h' : Heap) (tk' : Nat) (u' : Str → Option Value), Fr h₀ L h' (fun y => if y = Str.ofString "rest" then some (.int rest w1) else if y = Str.ofString "slot" then some (.int (a.fmod 16384) w2) else if y = Str.ofString "key" then some (.bytes kb wk) else u' y) →
      News h₀ L h' [(L + 1 + 1 + 1 + 1, o4), (L + 1 + 1 + 1, o3), (L + 1 + 1, ob), (L + 1, oa)] → Q .next { s with heap := h', toks := tk' }) :
    wpAny (model PySem.Challenge.rw_fe0275_01.row.prog w) (callerA.deeper (lawEnv L fa cd)) (pyIter (.ref D')) (fun it s₂ => LoopAtV PySem.Challenge.rw_fe0275_01.row.prog w (callerA.deeper (lawEnv L fa cd)) h₀ (lawEnv L fa cd) (Str.ofString "tail") body7 Q (fun _ _ => False) it s₂) (fun _ _ => False) s := by
  revert X
  k_fill
  intro X
  have K0 := below_caller h₀
  have f00 := hT [123] [] (by simp) (by simp)
  have f01 := hT [123] [125] (by simp) (by simp)
  have f02 := hT [123] [123, 122, 125] (by simp) (by simp)
  have f03 := hT [123] [((b.fmod 256).toNat.toUInt8.toNat : Int), ((a.fmod 256).toNat.toUInt8.toNat : Int)] (by simp) (by simp)
  have f10 := hT [125, 123] [] (by simp) (by simp)
  have f11 := hT [125, 123] [125] (by simp) (by simp)
  have f12 := hT [125, 123] [123, 122, 125] (by simp) (by simp)
  have f13 := hT [125, 123] [((b.fmod 256).toNat.toUInt8.toNat : Int), ((a.fmod 256).toNat.toUInt8.toNat : Int)] (by simp) (by simp)
  have f20 := hT [254, 125, 120, 123] [] (by simp) (by simp)
  have f21 := hT [254, 125, 120, 123] [125] (by simp) (by simp)
  have f22 := hT [254, 125, 120, 123] [123, 122, 125] (by simp) (by simp)
  have f23 := hT [254, 125, 120, 123] [((b.fmod 256).toNat.toUInt8.toNat : Int), ((a.fmod 256).toNat.toUInt8.toNat : Int)] (by simp) (by simp)
  clear hT
  with_unfolding_all show wpAny _ _ (pyIter (.ref D')) (fun it s₂ => LoopAtV _ _ _ _ _ _ [Stmt.If _ _ _ _] _ _ it s₂) _ _
  repeat' walk1
  all_goals (
    rename Fr _ _ _ _ => F1
    rename News _ _ _ _ => N1
    have G1 := fr_pick (x := Str.ofString "key") (v := .bytes kb wk) F1 (by with_unfolding_all rfl)
    have G2 := fr_pick (x := Str.ofString "slot") (v := .int (a.fmod 16384) w2) G1 (by with_unfolding_all rfl)
    have G3 := fr_pick (x := Str.ofString "rest") (v := .int rest w1) G2 (by with_unfolding_all rfl)
    have G5 : Fr h₀ L _ _ := G3
    exact ret _ _ _ G5 (news_four N1 (by k_mem) (by k_mem) (by k_mem) (by k_mem)))
end
end Mine

/-! ### S7 -/
namespace Mine
open PySem PySem.W PyProof.Rows PySem.Calls PySem.Spec
theorem freshS7 : True := by
  w_top off
  trivial
local macro_rules | `(tactic| walk_at "call ref") => `(tactic| (k_here; (with_reducible show wpAny _ _ (call (Value.ref 36) [Value.bytes _ _]) _ _ _); k_dflt (refine' use_K ?k1 ?k2 ?k3 ?k4 ?k5 ?kK (rest_U ?kb ?kc) trivial ?kd ?ku ?_; (case k1 => k_asm); (case k2 => k_asm); (case k3 => k_asm); (case k4 => k_asm); (case k5 => k_asm); (case kK => first | exact rfl | assumption); (case kb => kba_ints); (case kc => assumption); (case kd => ktr_room); (case ku => ktr_units)); intro _ _ _ _ _))
local macro_rules | `(tactic| walk_at "call ref") => `(tactic| (k_here; (with_reducible show wpAny _ _ (call (Value.ref 43) [Value.int _ _]) _ _ _); k_dflt (refine' use_K ?k1 ?k2 ?k3 ?k4 ?k5 ?kK (back_U ?kc) trivial ?kd ?ku ?_; (case k1 => k_asm); (case k2 => k_asm); (case k3 => k_asm); (case k4 => k_asm); (case k5 => k_asm); (case kK => first | exact rfl | assumption); (case kc => assumption); (case kd => ktr_room); (case ku => ktr_units)); intro _ _ _ _ _))
local macro_rules | `(tactic| walk_at "call ref") => `(tactic| (k_here; (with_reducible show wpAny _ _ (call (Value.ref 29) [Value.bytes _ _, Value.int _ _]) _ _ _); k_dflt (refine' use_K2 ?k1 ?k2 ?k3 ?k4 ?k5 ?kK (slot_U ?kb ?kc) ?kd ?ku ?_; (case k1 => k_asm); (case k2 => k_asm); (case k3 => k_asm); (case k4 => k_asm); (case k5 => k_asm); (case kK => first | exact rfl | assumption); (case kb => kba_ints); (case kc => assumption); (case kd => ktr_room); (case ku => ktr_units)); intro _ _ _ _ _))
local macro_rules | `(tactic| walk_at "call ref") => `(tactic| (k_here; (with_reducible show wpAny _ _ (call (Value.ref 29) [Value.bytes _ _]) _ _ _); k_dflt (refine' use_K2 ?k1 ?k2 ?k3 ?k4 ?k5 ?kK (slot_U1 ?kb ?kc) ?kd ?ku ?_; (case k1 => k_asm); (case k2 => k_asm); (case k3 => k_asm); (case k4 => k_asm); (case k5 => k_asm); (case kK => first | exact rfl | assumption); (case kb => kba_ints); (case kc => assumption); (case kd => ktr_room); (case ku => ktr_units)); intro _ _ _ _ _))
local macro_rules | `(tactic| walk_at "compareOp NotEq int int") => `(tactic| (with_reducible refine ne_same ?_))
local macro_rules | `(tactic| walk_at "compareOp Eq int int") => `(tactic| (with_reducible refine eq_same ?_))
section
variable {w : World} {s₀ : Shared} {mg mb : Str → Option Value} {h₀ : Heap} {L fa : Addr} {cd : Value} {s : Shared} {Q : Flow → Shared → Prop} {E : Value → Shared → Prop} {u : Str → Option Value} {kb : Array UInt8} {wk wa wb w1 w2 : Tok} {ks : List Int} {a b rest : Int} {oa ob o3 o4 : Obj} {D : Addr}
set_option maxHeartbeats 8000000 in
theorem st7 (X : (hd.heap_39 w.params).In h₀) (T : Top hd.view_39 LS (ExcName.means s₀.heap) mg mb h₀)
    (da : oa.data = Data.cell (some (.int a wa))) (db : ob.data = Data.cell (some (.int b wb))) (hb : KBw.bInts kb = ks) (hkl : ks.length ≤ 7)
    (hD : @LT.lt Nat _ (L + 1 + 1 + 1 + 1) D)
    {c0 c1 c2 c3 : Array UInt8} {z0 z1 z2 z3 : Tok} {p0 q0 p1 q1 p2 q2 p3 q3 : Int}
    (hc0 : KBw.bInts c0 = [p0, q0]) (hc1 : KBw.bInts c1 = [p1, q1]) (hc2 : KBw.bInts c2 = [p2, q2]) (hc3 : KBw.bInts c3 = [p3, q3])
    (hT0 : (125 : Int) ∉ [p0, q0] → ∀ P S : List Int, P ∈ [([123] : List Int), ([125, 123] : List Int), ([254, 125, 120, 123] : List Int)] → S ∈ [[], [125], [123, 122, 125], [((b.fmod 256).toNat.toUInt8.toNat : Int), ((a.fmod 256).toNat.toUInt8.toNat : Int)]] → SlotIs ((((P ++ ks) ++ [p0, q0]) ++ [125]) ++ S) 16384 (a.fmod 16384))
    (hT1 : (125 : Int) ∉ [p1, q1] → ∀ P S : List Int, P ∈ [([123] : List Int), ([125, 123] : List Int), ([254, 125, 120, 123] : List Int)] → S ∈ [[], [125], [123, 122, 125], [((b.fmod 256).toNat.toUInt8.toNat : Int), ((a.fmod 256).toNat.toUInt8.toNat : Int)]] → SlotIs ((((P ++ ks) ++ [p1, q1]) ++ [125]) ++ S) 16384 (a.fmod 16384))
    (hT2 : (125 : Int) ∉ [p2, q2] → ∀ P S : List Int, P ∈ [([123] : List Int), ([125, 123] : List Int), ([254, 125, 120, 123] : List Int)] → S ∈ [[], [125], [123, 122, 125], [((b.fmod 256).toNat.toUInt8.toNat : Int), ((a.fmod 256).toNat.toUInt8.toNat : Int)]] → SlotIs ((((P ++ ks) ++ [p2, q2]) ++ [125]) ++ S) 16384 (a.fmod 16384))
    (hT3 : (125 : Int) ∉ [p3, q3] → ∀ P S : List Int, P ∈ [([123] : List Int), ([125, 123] : List Int), ([254, 125, 120, 123] : List Int)] → S ∈ [[], [125], [123, 122, 125], [((b.fmod 256).toNat.toUInt8.toNat : Int), ((a.fmod 256).toNat.toUInt8.toNat : Int)]] → SlotIs ((((P ++ ks) ++ [p3, q3]) ++ [125]) ++ S) 16384 (a.fmod 16384))
    (F : Fr h₀ L s.heap (fun y => if y = Str.ofString "tails" then some (.ref D) else if y = Str.ofString "rest" then some (.int rest w1) else if y = Str.ofString "slot" then some (.int (a.fmod 16384) w2) else if y = Str.ofString "key" then some (.bytes kb wk) else u y))
    (N : News h₀ L s.heap [(D, listOf [.bytes c0 z0, .bytes c1 z1, .bytes c2 z2, .bytes c3 z3].toArray 4), (L + 1 + 1 + 1 + 1, o4), (L + 1 + 1 + 1, o3), (L + 1 + 1, ob), (L + 1, oa)])
    (ret : ∀ (h' : Heap) (tk' : Nat) (u' : Str → Option Value), Fr h₀ L h' (fun y => if y = Str.ofString "rest" then some (.int rest w1) else if y = Str.ofString "slot" then some (.int (a.fmod 16384) w2) else if y = Str.ofString "key" then some (.bytes kb wk) else u' y) →
      News h₀ L h' [(L + 1 + 1 + 1 + 1, o4), (L + 1 + 1 + 1, o3), (L + 1 + 1, ob), (L + 1, oa)] → Q .next { s with heap := h', toks := tk' }) :
    wpAny (model PySem.Challenge.rw_fe0275_01.row.prog w) (callerA.deeper (lawEnv L fa cd)) (exec (lawAt 7) (lawEnv L fa cd)) Q (fun _ _ => False) s := by
  with_unfolding_all show wpAny _ _ (exec (Stmt.For _ _ _ _ _) _) _ _ _
  with_unfolding_all refine' For_invVF F ?k1 ?k2 ?_
  case k1 => exact rfl
  case k2 => exact rfl
  refine st7_iter (u := fun y => if y = Str.ofString "rest" then some (.int rest w1) else if y = Str.ofString "slot" then some (.int (a.fmod 16384) w2) else if y = Str.ofString "key" then some (.bytes kb wk) else u y) X T hD hc0 hc1 hc2 hc3 F N ?_ ?_ ?_ ?_ ?_
  · intro h' tk' D' l F' N'
    clear F N
    revert X
    k_fill
    intro X
    have K0 := below_caller h₀
    (with_reducible show wpAny _ _ (pyIter (Value.ref D')) _ _ _)
    repeat' walk1
    rename Fr _ _ _ _ => F1
    rename News _ _ _ _ => N1
    have G1 := fr_pick (x := Str.ofString "key") (v := .bytes kb wk) F1 (by with_unfolding_all rfl)
    have G2 := fr_pick (x := Str.ofString "slot") (v := .int (a.fmod 16384) w2) G1 (by with_unfolding_all rfl)
    have G3 := fr_pick (x := Str.ofString "rest") (v := .int rest w1) G2 (by with_unfolding_all rfl)
    have G5 : Fr h₀ L _ _ := G3
    exact ret _ _ _ G5 (news_four N1 (by k_mem) (by k_mem) (by k_mem) (by k_mem))
  · intro hn h' tk' D' l F' N'
    exact st7_one X T da db hb hkl (Nat.lt_trans hD l) hc0 F' (news_drop2 N') (hT0 hn) ret
  · intro hn h' tk' D' l F' N'
    exact st7_one X T da db hb hkl (Nat.lt_trans hD l) hc1 F' (news_drop2 N') (hT1 hn) ret
  · intro hn h' tk' D' l F' N'
    exact st7_one X T da db hb hkl (Nat.lt_trans hD l) hc2 F' (news_drop2 N') (hT2 hn) ret
  · intro hn h' tk' D' l F' N'
    exact st7_one X T da db hb hkl (Nat.lt_trans hD l) hc3 F' (news_drop2 N') (hT3 hn) ret
end
end Mine

/-! ### S8 -/
namespace Mine
open PySem PySem.W PyProof.Rows PySem.Calls PySem.Spec
theorem freshS8 : True := by
  w_top off
  trivial
local macro_rules | `(tactic| walk_at "call ref") => `(tactic| (k_here; (with_reducible show wpAny _ _ (call (Value.ref 36) [Value.bytes _ _]) _ _ _); k_dflt (refine' use_K ?k1 ?k2 ?k3 ?k4 ?k5 ?kK (rest_U ?kb ?kc) trivial ?kd ?ku ?_; (case k1 => k_asm); (case k2 => k_asm); (case k3 => k_asm); (case k4 => k_asm); (case k5 => k_asm); (case kK => first | exact rfl | assumption); (case kb => kba_ints); (case kc => assumption); (case kd => ktr_room); (case ku => ktr_units)); intro _ _ _ _ _))
local macro_rules | `(tactic| walk_at "call ref") => `(tactic| (k_here; (with_reducible show wpAny _ _ (call (Value.ref 43) [Value.int _ _]) _ _ _); k_dflt (refine' use_K ?k1 ?k2 ?k3 ?k4 ?k5 ?kK (back_U ?kc) trivial ?kd ?ku ?_; (case k1 => k_asm); (case k2 => k_asm); (case k3 => k_asm); (case k4 => k_asm); (case k5 => k_asm); (case kK => first | exact rfl | assumption); (case kc => assumption); (case kd => ktr_room); (case ku => ktr_units)); intro _ _ _ _ _))
local macro_rules | `(tactic| walk_at "call ref") => `(tactic| (k_here; (with_reducible show wpAny _ _ (call (Value.ref 29) [Value.bytes _ _, Value.int _ _]) _ _ _); k_dflt (refine' use_K2 ?k1 ?k2 ?k3 ?k4 ?k5 ?kK (slot_U ?kb ?kc) ?kd ?ku ?_; (case k1 => k_asm); (case k2 => k_asm); (case k3 => k_asm); (case k4 => k_asm); (case k5 => k_asm); (case kK => first | exact rfl | assumption); (case kb => kba_ints); (case kc => assumption); (case kd => ktr_room); (case ku => ktr_units)); intro _ _ _ _ _))
local macro_rules | `(tactic| walk_at "call ref") => `(tactic| (k_here; (with_reducible show wpAny _ _ (call (Value.ref 29) [Value.bytes _ _]) _ _ _); k_dflt (refine' use_K2 ?k1 ?k2 ?k3 ?k4 ?k5 ?kK (slot_U1 ?kb ?kc) ?kd ?ku ?_; (case k1 => k_asm); (case k2 => k_asm); (case k3 => k_asm); (case k4 => k_asm); (case k5 => k_asm); (case kK => first | exact rfl | assumption); (case kb => kba_ints); (case kc => assumption); (case kd => ktr_room); (case ku => ktr_units)); intro _ _ _ _ _))
local macro_rules | `(tactic| walk_at "compareOp NotEq int int") => `(tactic| (with_reducible refine ne_same ?_))
local macro_rules | `(tactic| walk_at "compareOp Eq int int") => `(tactic| (with_reducible refine eq_same ?_))
section
variable {w : World} {s₀ : Shared} {mg mb : Str → Option Value} {h₀ : Heap} {L fa : Addr} {cd : Value} {s : Shared} {Q : Flow → Shared → Prop} {E : Value → Shared → Prop} {u : Str → Option Value} {kb : Array UInt8} {wk wa wb w1 w2 : Tok} {ks : List Int} {a b rest : Int} {oa ob o3 o4 : Obj} {D : Addr}
set_option maxHeartbeats 8000000 in
theorem st8 (X : (hd.heap_39 w.params).In h₀) (T : Top hd.view_39 LS (ExcName.means s₀.heap) mg mb h₀)
    (hb : KBw.bInts kb = ks) (hkl : ks.length ≤ 7) {r0 r1 r2 : Int}
    (hr0 : Rest ([123, 125, 123, 97, 125] ++ ks) r0) (hr1 : Rest ((ks ++ [123]) ++ ks) r1) (hr2 : Rest (([125] ++ ks) ++ [123]) r2)
    (hs0 : SlotIs ([123, 125, 123, 97, 125] ++ ks) 16384 (r0.fmod 16384)) (hs1 : SlotIs ((ks ++ [123]) ++ ks) 16384 (r1.fmod 16384)) (hs2 : SlotIs (([125] ++ ks) ++ [123]) 16384 (r2.fmod 16384))
    (F : Fr h₀ L s.heap (fun y => if y = Str.ofString "rest" then some (.int rest w1) else if y = Str.ofString "slot" then some (.int (a.fmod 16384) w2) else if y = Str.ofString "key" then some (.bytes kb wk) else u y))
    (N : News h₀ L s.heap [(L + 1 + 1 + 1 + 1, o4), (L + 1 + 1 + 1, o3), (L + 1 + 1, ob), (L + 1, oa)])
    (ret : ∀ (h' : Heap) (tk' : Nat) (u' : Str → Option Value), Fr h₀ L h' (fun y => if y = Str.ofString "key" then some (.bytes kb wk) else u' y) →
      News h₀ L h' [(L + 1 + 1 + 1 + 1, o4), (L + 1 + 1 + 1, o3), (L + 1 + 1, ob), (L + 1, oa)] → Q .next { s with heap := h', toks := tk' }) :
    wpAny (model PySem.Challenge.rw_fe0275_01.row.prog w) (callerA.deeper (lawEnv L fa cd)) (exec (lawAt 8) (lawEnv L fa cd)) Q (fun _ _ => False) s := by
  revert X
  k_fill
  intro X
  have K0 := below_caller h₀
  with_unfolding_all show wpAny _ _ (exec (Stmt.For _ _ _ _ _) _) _ _ _
  repeat' walk1
  rename Fr _ _ _ _ => F1
  rename News _ _ _ _ => N1
  have G1 := fr_pick (x := Str.ofString "key") (v := .bytes kb wk) F1 (by with_unfolding_all rfl)
  have G5 : Fr h₀ L _ _ := G1
  exact ret _ _ _ G5 (news_four N1 (by k_mem) (by k_mem) (by k_mem) (by k_mem))
end
end Mine

/-! ### S9 -/
namespace Mine
open PySem PySem.W PyProof.Rows PySem.Calls PySem.Spec
theorem freshS9 : True := by
  w_top off
  trivial
local macro_rules | `(tactic| walk_at "call ref") => `(tactic| (k_here; (with_reducible show wpAny _ _ (call (Value.ref 36) [Value.bytes _ _]) _ _ _); k_dflt (refine' use_K ?k1 ?k2 ?k3 ?k4 ?k5 ?kK (rest_U ?kb ?kc) trivial ?kd ?ku ?_; (case k1 => k_asm); (case k2 => k_asm); (case k3 => k_asm); (case k4 => k_asm); (case k5 => k_asm); (case kK => first | exact rfl | assumption); (case kb => kba_ints); (case kc => assumption); (case kd => ktr_room); (case ku => ktr_units)); intro _ _ _ _ _))
local macro_rules | `(tactic| walk_at "call ref") => `(tactic| (k_here; (with_reducible show wpAny _ _ (call (Value.ref 43) [Value.int _ _]) _ _ _); k_dflt (refine' use_K ?k1 ?k2 ?k3 ?k4 ?k5 ?kK (back_U ?kc) trivial ?kd ?ku ?_; (case k1 => k_asm); (case k2 => k_asm); (case k3 => k_asm); (case k4 => k_asm); (case k5 => k_asm); (case kK => first | exact rfl | assumption); (case kc => assumption); (case kd => ktr_room); (case ku => ktr_units)); intro _ _ _ _ _))
local macro_rules | `(tactic| walk_at "call ref") => `(tactic| (k_here; (with_reducible show wpAny _ _ (call (Value.ref 29) [Value.bytes _ _, Value.int _ _]) _ _ _); k_dflt (refine' use_K2 ?k1 ?k2 ?k3 ?k4 ?k5 ?kK (slot_U ?kb ?kc) ?kd ?ku ?_; (case k1 => k_asm); (case k2 => k_asm); (case k3 => k_asm); (case k4 => k_asm); (case k5 => k_asm); (case kK => first | exact rfl | assumption); (case kb => kba_ints); (case kc => assumption); (case kd => ktr_room); (case ku => ktr_units)); intro _ _ _ _ _))
local macro_rules | `(tactic| walk_at "call ref") => `(tactic| (k_here; (with_reducible show wpAny _ _ (call (Value.ref 29) [Value.bytes _ _]) _ _ _); k_dflt (refine' use_K2 ?k1 ?k2 ?k3 ?k4 ?k5 ?kK (slot_U1 ?kb ?kc) ?kd ?ku ?_; (case k1 => k_asm); (case k2 => k_asm); (case k3 => k_asm); (case k4 => k_asm); (case k5 => k_asm); (case kK => first | exact rfl | assumption); (case kb => kba_ints); (case kc => assumption); (case kd => ktr_room); (case ku => ktr_units)); intro _ _ _ _ _))
local macro_rules | `(tactic| walk_at "compareOp NotEq int int") => `(tactic| (with_reducible refine ne_same ?_))
local macro_rules | `(tactic| walk_at "compareOp Eq int int") => `(tactic| (with_reducible refine eq_same ?_))
section
variable {w : World} {s₀ : Shared} {mg mb : Str → Option Value} {h₀ : Heap} {L fa : Addr} {cd : Value} {s : Shared} {Q : Flow → Shared → Prop} {E : Value → Shared → Prop} {u : Str → Option Value} {kb : Array UInt8} {wk wa wb w1 w2 : Tok} {ks : List Int} {a b rest : Int} {oa ob o3 o4 : Obj} {D : Addr}
theorem in_fmod (g : Int → Int) (ks : List Int) : KBa.In (ks.map fun k => (g k).fmod 64) := by
  intro n hn
  obtain ⟨j, _, rfl⟩ := List.mem_map.mp hn
  have h1 := fmod_lo (g j) (show (0 : Int) < 64 by decide)
  have h2 := fmod_hi (g j) (show (0 : Int) < 64 by decide)
  exact ⟨h1, by omega⟩
set_option maxHeartbeats 8000000 in
theorem st9 (X : (hd.heap_39 w.params).In h₀) (T : Top hd.view_39 LS (ExcName.means s₀.heap) mg mb h₀)
    (da : oa.data = Data.cell (some (.int a wa))) (db : ob.data = Data.cell (some (.int b wb))) (d3 : o3.data = Data.cell none) (d4 : o4.data = Data.cell none)
    (hb : KBw.bInts kb = ks) (hkl : ks.length ≤ 7)
    (F : Fr h₀ L s.heap (fun y => if y = Str.ofString "key" then some (.bytes kb wk) else u y))
    (N : News h₀ L s.heap [(L + 1 + 1 + 1 + 1, o4), (L + 1 + 1 + 1, o3), (L + 1 + 1, ob), (L + 1, oa)])
    (ret : ∀ (h' : Heap) (tk' : Nat) (o3' o4' : Obj) (z1 z2 : Tok), o3'.data = Data.cell (some (.bytes (byteArr (ks.map fun k => (k * 5 + a).fmod 64)) z1)) → o4'.data = Data.cell (some (.bytes (byteArr (ks.map fun k => (k + b.fdiv 7).fmod 64)) z2)) →
      Fr h₀ L h' (fun y => if y = Str.ofString "key" then some (.bytes kb wk) else u y) → News h₀ L h' [(L + 1 + 1 + 1 + 1, o4'), (L + 1 + 1 + 1, o3'), (L + 1 + 1, ob), (L + 1, oa)] → Q .next { s with heap := h', toks := tk' }) :
    wpAny (model PySem.Challenge.rw_fe0275_01.row.prog w) (callerA.deeper (lawEnv L fa cd)) (exec (lawAt 9) (lawEnv L fa cd)) Q (fun _ _ => False) s := by
  revert X
  k_fill
  intro X
  have K0 := below_caller h₀
  have i1 := in_fmod (fun k => k * 5 + a) ks
  have i2 := in_fmod (fun k => k + b.fdiv 7) ks
  with_unfolding_all show wpAny _ _ (exec (Stmt.Assign _ _ _) _) _ _ _
  iterate 7 walk1
  k_dflt (refine bytes_comp (tb := wk) (fun k => (k * 5 + a).fmod 64) rfl (by with_unfolding_all rfl) (by decide) (by rfl) (by decide) (by rfl) hb (by omega) F N ?_ ?_ ?_ (by intro _; rfl))
  · intro Q' hQ
    walk1
    exact hQ
  · intro C k t s₃ m₃ E' hk h0 h1 hn hm N3
    iterate 3 walk1
    k_dflt (refine wpAny_Name (wpAny_loadName_local (by rfl) (by rfl) hn hm ?_) (by decide))
    iterate 2 walk1
    k_dflt (refine lcf_cell N3 (by rfl) (by k_mem) da ?_ (by rfl) (by rfl))
    iterate 3 walk1
    exact ⟨⟨_, rfl⟩, ⟨_, _, rfl, fun _ _ e => e⟩⟩
  · intro D ys n h' tk' F1 N1 hI hne
    clear F N
    iterate 7 walk1
    rename Fr _ _ _ _ => F2
    rename News _ _ _ _ => N2'
    have N2 : News h₀ L _ [(L + 1 + 1 + 1 + 1, o4), (L + 1 + 1 + 1, o3), (L + 1 + 1, ob), (L + 1, oa)] := fun p hp => N2' p (.tail _ hp)
    clear N2' N1 F1
    k_dflt (refine bytes_comp (tb := wk) (fun k => (k + b.fdiv 7).fmod 64) rfl (by with_unfolding_all rfl) (by decide) (by rfl) (by decide) (by rfl) hb (by omega) F2 N2 ?_ ?_ ?_ (by intro _; rfl))
    · intro Q' hQ
      walk1
      exact hQ
    · intro C k t s₃ m₃ E' hk h0 h1 hn hm N3
      iterate 2 walk1
      k_dflt (refine wpAny_Name (wpAny_loadName_local (by rfl) (by rfl) hn hm ?_) (by decide))
      walk1
      k_dflt (refine lcf_cell N3 (by rfl) (by k_mem) db ?_ (by rfl) (by rfl))
      iterate 5 walk1
      exact ⟨⟨_, rfl⟩, ⟨_, _, rfl, fun _ _ e => e⟩⟩
    · intro D2 ys2 n2 h2 tk2 F3 N3 hI2 hne2
      clear F2 N2
      iterate 2 walk1
      rename News _ _ _ _ => N4'
      have N4 : News h₀ L _ [(L + 1 + 1 + 1 + 1, o4), (L + 1 + 1 + 1, o3), (L + 1 + 1, ob), (L + 1, oa)] := fun p hp => N4' p (.tail _ hp)
      clear N4' N3 F3
      repeat' walk1
      rename Fr _ _ _ _ => F5
      rename News _ _ _ _ => N5
      exact ret _ _ _ _ _ _ (by assumption) (by assumption) F5 (fun p hp => N5 p (.tail _ hp))
end
end Mine

/-! ### S10 -/
namespace Mine
open PySem PySem.W PyProof.Rows PySem.Calls PySem.Spec
theorem freshS10 : True := by
  w_top off
  trivial
local macro_rules | `(tactic| walk_at "call ref") => `(tactic| (k_here; (with_reducible show wpAny _ _ (call (Value.ref 36) [Value.bytes _ _]) _ _ _); k_dflt (refine' use_K ?k1 ?k2 ?k3 ?k4 ?k5 ?kK (rest_U ?kb ?kc) trivial ?kd ?ku ?_; (case k1 => k_asm); (case k2 => k_asm); (case k3 => k_asm); (case k4 => k_asm); (case k5 => k_asm); (case kK => first | exact rfl | assumption); (case kb => kba_ints); (case kc => assumption); (case kd => ktr_room); (case ku => ktr_units)); intro _ _ _ _ _))
local macro_rules | `(tactic| walk_at "call ref") => `(tactic| (k_here; (with_reducible show wpAny _ _ (call (Value.ref 43) [Value.int _ _]) _ _ _); k_dflt (refine' use_K ?k1 ?k2 ?k3 ?k4 ?k5 ?kK (back_U ?kc) trivial ?kd ?ku ?_; (case k1 => k_asm); (case k2 => k_asm); (case k3 => k_asm); (case k4 => k_asm); (case k5 => k_asm); (case kK => first | exact rfl | assumption); (case kc => assumption); (case kd => ktr_room); (case ku => ktr_units)); intro _ _ _ _ _))
local macro_rules | `(tactic| walk_at "call ref") => `(tactic| (k_here; (with_reducible show wpAny _ _ (call (Value.ref 29) [Value.bytes _ _, Value.int _ _]) _ _ _); k_dflt (refine' use_K2 ?k1 ?k2 ?k3 ?k4 ?k5 ?kK (slot_U ?kb ?kc) ?kd ?ku ?_; (case k1 => k_asm); (case k2 => k_asm); (case k3 => k_asm); (case k4 => k_asm); (case k5 => k_asm); (case kK => first | exact rfl | assumption); (case kb => kba_ints); (case kc => assumption); (case kd => ktr_room); (case ku => ktr_units)); intro _ _ _ _ _))
local macro_rules | `(tactic| walk_at "call ref") => `(tactic| (k_here; (with_reducible show wpAny _ _ (call (Value.ref 29) [Value.bytes _ _]) _ _ _); k_dflt (refine' use_K2 ?k1 ?k2 ?k3 ?k4 ?k5 ?kK (slot_U1 ?kb ?kc) ?kd ?ku ?_; (case k1 => k_asm); (case k2 => k_asm); (case k3 => k_asm); (case k4 => k_asm); (case k5 => k_asm); (case kK => first | exact rfl | assumption); (case kb => kba_ints); (case kc => assumption); (case kd => ktr_room); (case ku => ktr_units)); intro _ _ _ _ _))
local macro_rules | `(tactic| walk_at "compareOp NotEq int int") => `(tactic| (with_reducible refine ne_same ?_))
local macro_rules | `(tactic| walk_at "compareOp Eq int int") => `(tactic| (with_reducible refine eq_same ?_))
section
variable {w : World} {s₀ : Shared} {mg mb : Str → Option Value} {h₀ : Heap} {L fa : Addr} {cd : Value} {s : Shared} {Q : Flow → Shared → Prop} {E : Value → Shared → Prop} {u : Str → Option Value} {kb : Array UInt8} {wk wa wb w1 w2 : Tok} {ks : List Int} {a b rest : Int} {oa ob o3 o4 : Obj} {D : Addr}
set_option maxHeartbeats 8000000 in
theorem st10 (X : (hd.heap_39 w.params).In h₀) (T : Top hd.view_39 LS (ExcName.means s₀.heap) mg mb h₀)
    {b1 b2 : Array UInt8} {z1 z2 : Tok} {l1 l2 : List Int} (d3 : o3.data = Data.cell (some (.bytes b1 z1))) (d4 : o4.data = Data.cell (some (.bytes b2 z2)))
    (hb1 : KBw.bInts b1 = l1) (hb2 : KBw.bInts b2 = l2) (hl1 : l1.length ≤ 7) (hl2 : l2.length = l1.length) (hi1 : In l1) (hi2 : In l2)
    (F : Fr h₀ L s.heap (fun y => if y = Str.ofString "key" then some (.bytes kb wk) else u y))
    (N : News h₀ L s.heap [(L + 1 + 1 + 1 + 1, o4), (L + 1 + 1 + 1, o3), (L + 1 + 1, ob), (L + 1, oa)])
    (ret : ∀ (h' : Heap) (tk' : Nat) (z3 : Tok), Fr h₀ L h' (fun y => if y = Str.ofString "both" then some (.bytes (byteArr (xorL l1 l2)) z3) else if y = Str.ofString "key" then some (.bytes kb wk) else u y) → News h₀ L h' [(L + 1 + 1 + 1 + 1, o4), (L + 1 + 1 + 1, o3), (L + 1 + 1, ob), (L + 1, oa)] → Q .next { s with heap := h', toks := tk' }) :
    wpAny (model PySem.Challenge.rw_fe0275_01.row.prog w) (callerA.deeper (lawEnv L fa cd)) (exec (lawAt 10) (lawEnv L fa cd)) Q (fun _ _ => False) s := by
  revert X
  k_fill
  intro X
  have K0 := below_caller h₀
  with_unfolding_all show wpAny _ _ (exec (Stmt.Assign _ _ _) _) _ _ _
  iterate 35 walk1
  rename IntsAre _ _ => hI
  rw [xorL_eq hi1 hi2] at hI
  have i3 : KBa.In (xorL l1 l2) := xorL_in hi1 hi2
  have hl3 := xorL_length l1 l2
  iterate 2 walk1
  rename Fr _ _ _ _ => F1
  rename News _ _ _ _ => N1
  exact ret _ _ _ F1 (fun p hp => N1 p (.tail _ hp))
end
end Mine

/-! ### S11 -/
namespace Mine
open PySem PySem.W PyProof.Rows PySem.Calls PySem.Spec
theorem freshS11 : True := by
  w_top off
  trivial
local macro_rules | `(tactic| walk_at "call ref") => `(tactic| (k_here; (with_reducible show wpAny _ _ (call (Value.ref 36) [Value.bytes _ _]) _ _ _); k_dflt (refine' use_K ?k1 ?k2 ?k3 ?k4 ?k5 ?kK (rest_U ?kb ?kc) trivial ?kd ?ku ?_; (case k1 => k_asm); (case k2 => k_asm); (case k3 => k_asm); (case k4 => k_asm); (case k5 => k_asm); (case kK => first | exact rfl | assumption); (case kb => kba_ints); (case kc => assumption); (case kd => ktr_room); (case ku => ktr_units)); intro _ _ _ _ _))
local macro_rules | `(tactic| walk_at "call ref") => `(tactic| (k_here; (with_reducible show wpAny _ _ (call (Value.ref 43) [Value.int _ _]) _ _ _); k_dflt (refine' use_K ?k1 ?k2 ?k3 ?k4 ?k5 ?kK (back_U ?kc) trivial ?kd ?ku ?_; (case k1 => k_asm); (case k2 => k_asm); (case k3 => k_asm); (case k4 => k_asm); (case k5 => k_asm); (case kK => first | exact rfl | assumption); (case kc => assumption); (case kd => ktr_room); (case ku => ktr_units)); intro _ _ _ _ _))
local macro_rules | `(tactic| walk_at "call ref") => `(tactic| (k_here; (with_reducible show wpAny _ _ (call (Value.ref 29) [Value.bytes _ _, Value.int _ _]) _ _ _); k_dflt (refine' use_K2 ?k1 ?k2 ?k3 ?k4 ?k5 ?kK (slot_U ?kb ?kc) ?kd ?ku ?_; (case k1 => k_asm); (case k2 => k_asm); (case k3 => k_asm); (case k4 => k_asm); (case k5 => k_asm); (case kK => first | exact rfl | assumption); (case kb => kba_ints); (case kc => assumption); (case kd => ktr_room); (case ku => ktr_units)); intro _ _ _ _ _))
local macro_rules | `(tactic| walk_at "call ref") => `(tactic| (k_here; (with_reducible show wpAny _ _ (call (Value.ref 29) [Value.bytes _ _]) _ _ _); k_dflt (refine' use_K2 ?k1 ?k2 ?k3 ?k4 ?k5 ?kK (slot_U1 ?kb ?kc) ?kd ?ku ?_; (case k1 => k_asm); (case k2 => k_asm); (case k3 => k_asm); (case k4 => k_asm); (case k5 => k_asm); (case kK => first | exact rfl | assumption); (case kb => kba_ints); (case kc => assumption); (case kd => ktr_room); (case ku => ktr_units)); intro _ _ _ _ _))
local macro_rules | `(tactic| walk_at "compareOp NotEq int int") => `(tactic| (with_reducible refine ne_same ?_))
local macro_rules | `(tactic| walk_at "compareOp Eq int int") => `(tactic| (with_reducible refine eq_same ?_))
section
variable {w : World} {s₀ : Shared} {mg mb : Str → Option Value} {h₀ : Heap} {L fa : Addr} {cd : Value} {s : Shared} {Q : Flow → Shared → Prop} {E : Value → Shared → Prop} {u : Str → Option Value} {kb : Array UInt8} {wk wa wb w1 w2 : Tok} {ks : List Int} {a b rest : Int} {oa ob o3 o4 : Obj} {D : Addr}
theorem zeros_mul {prog : Program} {w : World} {A : Around} {E : Value → Shared → Prop} {s : Shared} {b : List UInt8} {n : Int} {t u : Tok} {Q : Value → Shared → Prop} (hb : b = [0]) (hlo : 0 ≤ n) (hn : n < 4) (h : ∀ (z : Array UInt8) t' k, KBw.bInts z = List.replicate n.toNat 0 → z.size ≤ 3 → Q (.bytes z t') { s with toks := k }) :
    wpAny (model prog w) A (binaryOp .Mult (.bytes b.toArray t) (.int n u)) Q E s := by
  subst hb
  refine bytes_mul_any (List.cons_ne_nil _ _) (by omega) (by omega) (by decide) fun t' k => h _ t' k ?_ ?_
  · generalize n.toNat = m
    simp [KBw.bInts]
  · have : n.toNat ≤ 3 := by omega
    simp
    omega
local macro_rules | `(tactic| walk_at "binaryOp Mult bytes int") => `(tactic| (k_here; (with_reducible show wpAny _ _ (binaryOp Operator.Mult (Value.bytes (List.toArray _) _) (Value.int _ _)) _ _ _); k_dflt (refine' zeros_mul ?kb ?kl ?kh ?_; (case kb => exact rfl); (case kl => assumption); (case kh => assumption)); intro _ _ _ _ _))
set_option maxHeartbeats 8000000 in
theorem st11 (X : (hd.heap_39 w.params).In h₀) (T : Top hd.view_39 LS (ExcName.means s₀.heap) mg mb h₀)
    {b1 b2 b3 : Array UInt8} {z1 z2 z3 : Tok} {l1 l2 l3 : List Int} (da : oa.data = Data.cell (some (.int a wa))) (d3 : o3.data = Data.cell (some (.bytes b1 z1))) (d4 : o4.data = Data.cell (some (.bytes b2 z2)))
    (hb1 : KBw.bInts b1 = l1) (hb2 : KBw.bInts b2 = l2) (hb3 : KBw.bInts b3 = l3) (hl1 : l1.length ≤ 7)
    {x1 x2 : Int} (hs1 : SlotIs l1 16384 x1) (hs2 : SlotIs l2 16384 x2) (hs3 : SlotIs l3 16384 (Builtin.bitXor x1 x2)) (hs4 : SlotIs (List.replicate (a.fmod 4).toNat 0 ++ l1) 16384 x1)
    (F : Fr h₀ L s.heap (fun y => if y = Str.ofString "both" then some (.bytes b3 z3) else if y = Str.ofString "key" then some (.bytes kb wk) else u y))
    (N : News h₀ L s.heap [(L + 1 + 1 + 1 + 1, o4), (L + 1 + 1 + 1, o3), (L + 1 + 1, ob), (L + 1, oa)])
    (ret : ∀ (h' : Heap) (tk' : Nat), Fr h₀ L h' (fun y => if y = Str.ofString "both" then some (.bytes b3 z3) else if y = Str.ofString "key" then some (.bytes kb wk) else u y) → News h₀ L h' [(L + 1 + 1 + 1 + 1, o4), (L + 1 + 1 + 1, o3), (L + 1 + 1, ob), (L + 1, oa)] → Q (.ret (.bool true)) { s with heap := h', toks := tk' }) :
    wpAny (model PySem.Challenge.rw_fe0275_01.row.prog w) (callerA.deeper (lawEnv L fa cd)) (exec (lawAt 11) (lawEnv L fa cd)) Q (fun _ _ => False) s := by
  revert X
  k_fill
  intro X
  have K0 := below_caller h₀
  have a4l := fmod_lo a (n := 4) (by decide)
  have a4h := fmod_hi a (n := 4) (by decide)
  have hzl : (List.replicate (a.fmod 4).toNat (0 : Int)).length ≤ 3 := by simp; omega
  with_unfolding_all show wpAny _ _ (exec (Stmt.Return _ _) _) _ _ _
  iterate 60 walk1
  rename Fr _ _ _ _ => F1
  rename News _ _ _ _ => N1
  exact ret _ _ F1 N1
end
end Mine

/-! ### Join -/
namespace Mine
open PySem PySem.W PyProof.Rows PySem.Calls PySem.Spec
theorem freshJoin : True := by
  w_top off
  trivial
local macro_rules | `(tactic| walk_at "call ref") => `(tactic| (k_here; (with_reducible show wpAny _ _ (call (Value.ref 36) [Value.bytes _ _]) _ _ _); k_dflt (refine' use_K ?k1 ?k2 ?k3 ?k4 ?k5 ?kK (rest_U ?kb ?kc) trivial ?kd ?ku ?_; (case k1 => k_asm); (case k2 => k_asm); (case k3 => k_asm); (case k4 => k_asm); (case k5 => k_asm); (case kK => first | exact rfl | assumption); (case kb => kba_ints); (case kc => assumption); (case kd => ktr_room); (case ku => ktr_units)); intro _ _ _ _ _))
local macro_rules | `(tactic| walk_at "call ref") => `(tactic| (k_here; (with_reducible show wpAny _ _ (call (Value.ref 43) [Value.int _ _]) _ _ _); k_dflt (refine' use_K ?k1 ?k2 ?k3 ?k4 ?k5 ?kK (back_U ?kc) trivial ?kd ?ku ?_; (case k1 => k_asm); (case k2 => k_asm); (case k3 => k_asm); (case k4 => k_asm); (case k5 => k_asm); (case kK => first | exact rfl | assumption); (case kc => assumption); (case kd => ktr_room); (case ku => ktr_units)); intro _ _ _ _ _))
local macro_rules | `(tactic| walk_at "call ref") => `(tactic| (k_here; (with_reducible show wpAny _ _ (call (Value.ref 29) [Value.bytes _ _, Value.int _ _]) _ _ _); k_dflt (refine' use_K2 ?k1 ?k2 ?k3 ?k4 ?k5 ?kK (slot_U ?kb ?kc) ?kd ?ku ?_; (case k1 => k_asm); (case k2 => k_asm); (case k3 => k_asm); (case k4 => k_asm); (case k5 => k_asm); (case kK => first | exact rfl | assumption); (case kb => kba_ints); (case kc => assumption); (case kd => ktr_room); (case ku => ktr_units)); intro _ _ _ _ _))
local macro_rules | `(tactic| walk_at "call ref") => `(tactic| (k_here; (with_reducible show wpAny _ _ (call (Value.ref 29) [Value.bytes _ _]) _ _ _); k_dflt (refine' use_K2 ?k1 ?k2 ?k3 ?k4 ?k5 ?kK (slot_U1 ?kb ?kc) ?kd ?ku ?_; (case k1 => k_asm); (case k2 => k_asm); (case k3 => k_asm); (case k4 => k_asm); (case k5 => k_asm); (case kK => first | exact rfl | assumption); (case kb => kba_ints); (case kc => assumption); (case kd => ktr_room); (case ku => ktr_units)); intro _ _ _ _ _))
local macro_rules | `(tactic| walk_at "compareOp NotEq int int") => `(tactic| (with_reducible refine ne_same ?_))
local macro_rules | `(tactic| walk_at "compareOp Eq int int") => `(tactic| (with_reducible refine eq_same ?_))
section
variable {w : World} {s₀ : Shared} {mg mb : Str → Option Value} {h₀ : Heap} {L fa : Addr} {cd : Value} {s : Shared} {Q : Flow → Shared → Prop} {E : Value → Shared → Prop} {u : Str → Option Value} {kb : Array UInt8} {wk wa wb w1 w2 : Tok} {ks : List Int} {a b rest : Int} {oa ob o3 o4 : Obj} {D : Addr}
theorem ex_cons {A : Around} {env : Env} {st : Stmt} {rest : List Stmt}
    (h : wpAny (model PySem.Challenge.rw_fe0275_01.row.prog w) A (exec st env) (fun f s' => match f with | .next => wpAny (model PySem.Challenge.rw_fe0275_01.row.prog w) A (execs rest env) Q (fun _ _ => False) s' | f => Q f s') (fun _ _ => False) s) :
    wpAny (model PySem.Challenge.rw_fe0275_01.row.prog w) A (execs (st :: rest) env) Q (fun _ _ => False) s := wpAny_execs_cons h
set_option maxHeartbeats 4000000 in
theorem law_tail (X : (hd.heap_39 w.params).In h₀) (T : Top hd.view_39 LS (ExcName.means s₀.heap) mg mb h₀)
    (hb : KBw.bInts kb = ks) (hkl : ks.length ≤ 7) (hki : ∀ k ∈ ks, 0 ≤ k ∧ k < 123)
    (da : oa.data = Data.cell (some (.int a wa))) (db : ob.data = Data.cell (some (.int b wb))) (d3 : o3.data = Data.cell none) (d4 : o4.data = Data.cell none)
    (F : Fr h₀ L s.heap (fun y => if y = Str.ofString "key" then some (.bytes kb wk) else u y))
    (N : News h₀ L s.heap [(L + 1 + 1 + 1 + 1, o4), (L + 1 + 1 + 1, o3), (L + 1 + 1, ob), (L + 1, oa)])
    (done : ∀ (h' : Heap) (tk' : Nat) (u' : Str → Option Value) (o3' o4' : Obj), Fr h₀ L h' u' → News h₀ L h' [(L + 1 + 1 + 1 + 1, o4'), (L + 1 + 1 + 1, o3'), (L + 1 + 1, ob), (L + 1, oa)] → Q (.ret (.bool true)) { s with heap := h', toks := tk' }) :
    wpAny (model PySem.Challenge.rw_fe0275_01.row.prog w) (callerA.deeper (lawEnv L fa cd)) (execs [lawAt 2, lawAt 3, lawAt 4, lawAt 5, lawAt 6, lawAt 7, lawAt 8, lawAt 9, lawAt 10, lawAt 11] (lawEnv L fa cd)) Q (fun _ _ => False) s := by
  have hm := fmod_lo b (n := 999) (by decide)
  have t0 := tail_is hkl hki a b 0
  have t1 := tail_is hkl hki a b 1
  have t2 := tail_is hkl hki a b 2
  have t3 := tail_is hkl hki a b 3
  have g0 := braces hkl hki _ (.inl rfl)
  have g1 := braces hkl hki _ (.inr (.inl rfl))
  have g2 := braces hkl hki _ (.inr (.inr rfl))
  have m1 := low_map (fun k => k * 5 + a) ks
  have m2 := low_map (fun k => k + b.fdiv 7) ks
  have n4l := fmod_lo a (n := 4) (by decide)
  have n4h := fmod_hi a (n := 4) (by decide)
  have lf := last_facts (l1 := ks.map fun k => (k * 5 + a).fmod 64) (l2 := ks.map fun k => (k + b.fdiv 7).fmod 64) (by rw [List.length_map]; exact hkl) (by rw [List.length_map, List.length_map]) m1 m2 (a.fmod 4).toNat (by omega)
  refine ex_cons (st3 X T hb (rest_key hkl hki) da F N ?_)
  intro h1 k1 w1 w2 F N
  refine ex_cons (st4 X T hb (slot_key_all hkl hki) (slot_key hkl hki (by decide)) (slot_key hkl hki (by omega)) db F N ?_)
  intro h1 k1 F N
  refine ex_cons (st45 X T F N ?_)
  intro h1 k1 D hD F N
  refine ex_cons (st5 X T db hD (xI_back a b 0) (xI_back a b 1) (xI_back a b 2) (xI_back a b 3) t0.lo t0.hi t1.lo t1.hi t2.lo t2.hi t3.lo t3.hi F N ?_)
  intro h1 k1 u' z0 z1 z2 z3 F N
  refine ex_cons (st6 X T db hb hkl hD t0.hc t1.hc t2.hc t3.hc t0.hs t1.hs t2.hs t3.hs t0.hr t1.hr t2.hr t3.hr t0.ht t1.ht t2.ht t3.ht F N ?_)
  intro h1 k1 u' F N
  refine ex_cons (st7 X T da db hb hkl hD t0.hc t1.hc t2.hc t3.hc t0.hT t1.hT t2.hT t3.hT F N ?_)
  intro h1 k1 u' F N
  refine ex_cons (st8 X T hb hkl g0.1 g1.1 g2.1 g0.2 g1.2 g2.2 F N ?_)
  intro h1 k1 u' F N
  refine ex_cons (st9 X T da db d3 d4 hb hkl F N ?_)
  intro h1 k1 o3' o4' z1 z2 d3 d4 F N
  refine ex_cons (st10 X T d3 d4 (KBa.ints_make (low_In m1)) (KBa.ints_make (low_In m2)) (by rw [List.length_map]; exact hkl) (by rw [List.length_map, List.length_map]) (low_In m1) (low_In m2) F N ?_)
  intro h1 k1 z3 F N
  refine ex_cons (st11 X T da d3 d4 (KBa.ints_make (low_In m1)) (KBa.ints_make (low_In m2)) (KBa.ints_make (low_In (xorL_low m1 m2))) (by rw [List.length_map]; exact hkl) lf.1 lf.2.1 lf.2.2.1 lf.2.2.2 F N ?_)
  intro h1 k1 F N
  exact done _ _ _ _ _ F N
end
end Mine

/-! ### Main -/
namespace Mine
open PySem PySem.W PyProof.Rows PySem.Calls PySem.Spec
theorem freshMain : True := by
  w_top off
  trivial
theorem first_two (ns : List Int) : ∃ a b, List.take 2 (List.take 2 ns ++ [0, 0]) = [a, b] := by
  match ns with
  | [] => exact ⟨_, _, rfl⟩
  | [x] => exact ⟨_, _, rfl⟩
  | x :: y :: r => exact ⟨x, y, rfl⟩
theorem ints_two {ws : List Value} {a b : Int} (h : IntsAre ws [a, b]) : ∃ ta tb, ws = [.int a ta, .int b tb] := by
  obtain ⟨ta, r, rfl, h1⟩ := h.cons_inv
  obtain ⟨tb, r, rfl, h2⟩ := h1.cons_inv
  exact ⟨ta, tb, by rw [h2.nil_inv]⟩
theorem key_len (ns : List Int) : (List.map (fun k' : Int => k'.fmod 123) (List.take (min 9 ns.length - 2) (List.drop 2 ns))).length ≤ 7 := by
  rw [List.length_map, List.length_take]
  omega
theorem key_in (ns : List Int) : ∀ k ∈ List.map (fun k' : Int => k'.fmod 123) (List.take (min 9 ns.length - 2) (List.drop 2 ns)), 0 ≤ k ∧ k < 123 := by
  intro k hk
  obtain ⟨j, _, rfl⟩ := List.mem_map.mp hk
  exact ⟨fmod_lo _ (by decide), fmod_hi _ (by decide)⟩
set_option maxHeartbeats 8000000 in
theorem T1 : PySem.Challenge.rw_fe0275_01.Holds := hd (by
  k_go0
  all_goals try k_fold
  repeat' walk1
  rename IntsAre _ (List.take 2 (_ ++ _)) => hI2
  rename List Int => ns
  obtain ⟨a, b, hab⟩ := first_two ns
  rw [hab] at hI2
  obtain ⟨ta, tb, rfl⟩ := ints_two hI2
  have hkl := key_len ns
  have hki := key_in ns
  iterate 27 walk1
  rename News _ _ _ _ => N1
  rename Fr _ _ _ _ => F1
  rename KBa.In _ => hin
  rename _ = Data.cell (some (Value.int b _)) => db
  rename _ = Data.cell (some (Value.int a _)) => da
  rename Shared => s1
  have N4 := news_four N1 (e1 := (s1.heap.objs.size + 1 + 1 + 1 + 1, _)) (e2 := (s1.heap.objs.size + 1 + 1 + 1, _)) (e3 := (s1.heap.objs.size + 1 + 1, _)) (e4 := (s1.heap.objs.size + 1, _)) (by k_mem) (by k_mem) (by k_mem) (by k_mem)
  refine wpAny_mono (E := fun _ _ => False) ?_ (fun _ _ h => h) (fun _ _ h => h.elim)
  with_unfolding_all refine' law_tail (by assumption) (by assumption) (KBa.ints_make hin) hkl hki da db ?d3 ?d4 F1 N4 ?done
  case d3 => with_unfolding_all assumption
  case d4 => with_unfolding_all assumption
  case done =>
    clear N1 F1 N4
    intro h' tk' u' o3' o4' F1 N1
    k_unfold
    k_steps)
end Mine

theorem PySem.Challenge.cw_fe0275_01_holds : PySem.Challenge.rw_fe0275_01.Holds := by
  exact Mine.T1
