import PyProof.Rows.All
import Wide.All
import OpenK.AllK
import Wide.FinOn
import PySem.Challenge.RW_ik0129_01
set_option maxRecDepth 100000
set_option linter.all false
set_option Elab.async false
set_option bootstrap.genMatcherCode false
set_option genSizeOf false
set_option compiler.extract_closed false
set_option genInjectivity false
set_option maxHeartbeats 2000000
set_option tactic.hygienic false
section
namespace Mine
variable {n a b c m i p j k r d : Nat}
theorem nft {p : Prop} (h : false = true) : p := (Bool.false_ne_true h).elim
theorem ntf {p : Prop} (h : true = false) : p := (Bool.false_ne_true h.symm).elim
theorem lB (h : n < a) (d : Nat.ble a b = true) : n < b := Nat.lt_of_lt_of_le h (Nat.le_of_ble_eq_true d)
theorem lC (h1 : n < m) (h : m < a) (d : Nat.ble a b = true) : n < b := lB (Nat.lt_trans h1 h) d
theorem lD (h1 : n ≤ m) (h : m < a) (d : Nat.ble a b = true) : n < b := lB (Nat.lt_of_le_of_lt h1 h) d
theorem lE (h1 : n = m) (h : m < a) (d : Nat.ble a b = true) : n < b := h1 ▸ lB h d
theorem lF (h : n < a) (h2 : c ≤ b) (d : Nat.ble a c = true) : n ≤ b := Nat.le_trans (Nat.le_of_lt (lB h d)) h2
theorem lG (h1 : n ≤ m) (h : m < a) (h2 : c ≤ b) (d : Nat.ble a c = true) : n ≤ b := lF (Nat.lt_of_le_of_lt h1 h) h2 d
theorem lH (h1 : n = m) (h : m < a) (h2 : c ≤ b) (d : Nat.ble a c = true) : n ≤ b := lG (Nat.le_of_eq h1) h h2 d
theorem lI {b : Int} (h : n < a) (d : (a : Int) ≤ b) : (n : Int) < b := Int.lt_of_lt_of_le (Int.ofNat_lt.mpr h) d
theorem lJ (h : n ≤ a) (d : Nat.ble a b = true) : n ≤ b := Nat.le_trans h (Nat.le_of_ble_eq_true d)
theorem sA (h : a < b) (h' : b ≤ n) : n - b < n - a := Nat.sub_lt_sub_left (Nat.lt_of_lt_of_le h h') h
theorem sB (h : j - i = k + 1) : j - (i + 1) = k := congrArg Nat.pred h
theorem sC (h : j - i = k + 1) : i < j := Nat.lt_of_sub_eq_succ h
theorem sD (h : j - i = 0) (h' : i ≤ j) : i = j := Nat.le_antisymm h' (Nat.le_of_sub_eq_zero h)
theorem sE (h : a ≤ b) : b + 1 - a = b - a + 1 := Nat.succ_sub h
theorem sF {z : Nat} (h : z ≤ k) : k - (k - z) = z := Nat.sub_sub_self h
theorem sG (h : a ≤ b) : a + (b - a) = b := Nat.add_sub_cancel' h
theorem sH {e s t : Nat} (h : s < t) (h' : s < e + a) : e + a - t < e + a - s := Nat.sub_lt_sub_left h' h
theorem sI (h : a < n) : n - 1 - a < n := Nat.lt_of_le_of_lt (Nat.sub_le _ _) (Nat.sub_one_lt_of_lt h)
theorem sJ (h : a < n) : a ≤ n - 1 := Nat.le_sub_one_of_lt h
theorem sK (h : 0 < n) : n - 1 < n := Nat.sub_lt h Nat.zero_lt_one
theorem sL : n ≤ n - 1 + 1 := Nat.le_add_of_sub_le (Nat.le_refl _)
theorem sM {pos : Nat} (h : m - pos ≤ n + 1) (k : pos < c) : m - c ≤ n := Nat.sub_le_of_le_add (Nat.le_trans (Nat.le_add_of_sub_le h) (by rw [Nat.add_assoc, Nat.add_comm 1]; exact Nat.add_le_add_left k n))
theorem sN : min i n - 0 + (min n n - (i + 1)) ≤ n := by
 rw [Nat.min_self, Nat.sub_zero];rcases Nat.le_total i n with h | h
 ·rw [Nat.min_eq_left h]; exact Nat.le_trans (Nat.add_le_add_left (Nat.sub_le_sub_left (Nat.le_succ i) n) i) (Nat.le_of_eq (sG h))
 rw [Nat.min_eq_right h, Nat.sub_eq_zero_of_le (Nat.le_succ_of_le h)]; exact Nat.le_refl n
theorem sO (h : n ≤ i) : n = min i n - 0 + (min n n - (i + 1)) := by
 rw [Nat.min_self, Nat.sub_zero, Nat.min_eq_right h, Nat.sub_eq_zero_of_le (Nat.le_succ_of_le h)]; rfl
theorem sP (h : i < n) : min i n - 0 + (min n n - (i + 1)) + 1 = n := by
 rw [Nat.min_self, Nat.sub_zero, Nat.min_eq_left (Nat.le_of_lt h), Nat.add_right_comm]; exact sG h
theorem sQ (h : a < b) (h2 : b ≤ n) (h3 : min (b - a) (n - a) = 0) : False := by
 rw [Nat.min_eq_left (Nat.sub_le_sub_right h2 a)] at h3;exact Nat.lt_irrefl _ (Nat.lt_of_lt_of_le h (Nat.le_of_sub_eq_zero h3))
theorem sR : min (b - a) (n - a) ≤ n := Nat.le_trans (Nat.min_le_right ..) (Nat.sub_le ..)
theorem sS {x : Nat} (h : i ≤ k) (h2 : k < x) : x + 1 - i = k - i + (x - k + 1) := by
 rw [← Nat.add_assoc, Nat.succ_sub (Nat.le_trans h (Nat.le_of_lt h2)), ← Nat.sub_add_comm h, sG (Nat.le_of_lt h2)]
theorem zd {q : Nat} : (2 * q + 1 - 1) / 2 = q := Nat.mul_div_cancel_left q (Nat.zero_lt_succ 1)
theorem ze {q : Nat} : (2 * q + 2 - 1) / 2 = q := Nat.mul_add_div (Nat.zero_lt_succ 1) q 1
theorem zf (h : c = 2 * p + 1 ∨ c = 2 * p + 2) : (c - 1) / 2 = p := h.elim (fun e => e ▸ zd) (fun e => e ▸ ze)
theorem zg (h : 0 < c) : (c - 1) / 2 < c := Nat.lt_of_le_of_lt (Nat.div_le_self ..) (sK h)
theorem zp (h : r < p) : 0 < p := Nat.lt_of_le_of_lt (Nat.zero_le r) h
theorem zq {g : Nat} (h : r ≤ g) (h' : g ≠ r) : 0 < g := zp (Nat.lt_of_le_of_ne h h'.symm)
theorem zh {g : Nat} (h : (c - 1) / 2 = g) : g ≤ c := h ▸ Nat.le_trans (Nat.div_le_self ..) (Nat.sub_le ..)
theorem zi (h : r < p) : (p - 1) / 2 ≠ p := Nat.ne_of_lt (zg (zp h))
theorem zl (h : c < n) : (c - 1) / 2 < n := Nat.lt_of_le_of_lt (zh rfl) h
theorem zm {s : Nat} (h0 : 0 < c) (hp : (c - 1) / 2 = s) : c = 2 * s + 1 ∨ c = 2 * s + 2 := by
 have h := Nat.div_add_mod (c - 1) 2;rw [hp] at h;have e : c = 2 * s + (c - 1) % 2 + 1 := by rw [h, Nat.sub_add_cancel h0]
 rcases Nat.mod_two_eq_zero_or_one (c - 1) with q | q
 ·rw [q] at e; exact .inl e
 rw [q] at e; exact .inr e
theorem zn {s : Nat} (h0 : 0 < c) (hc : c < n) (hn : n ≤ 2 * s + 1) (hp : (c - 1) / 2 = s) : False :=
 Nat.lt_irrefl c (Nat.lt_of_lt_of_le hc (Nat.le_trans hn ((zm h0 hp).elim (fun e => Nat.le_of_eq e.symm) fun e => Nat.le_trans (Nat.le_succ _) (Nat.le_of_eq e.symm))))
theorem zo : n ≤ 2 * (n / 2) + 1 := by
 have h := Nat.div_add_mod n 2;exact Nat.le_trans (Nat.le_of_eq h.symm) (Nat.add_le_add_left (Nat.le_of_lt_succ (Nat.mod_lt n (Nat.zero_lt_succ 1))) _)
theorem zr (h0 : 0 < i) (hr : n / 2 ≤ (i - 1) / 2) (hi : i < n) : False :=
 zn h0 hi (Nat.le_trans zo (Nat.succ_le_succ (Nat.mul_le_mul_left 2 hr))) rfl
theorem zc : p ≤ 2 * p + 1 := Nat.le_succ_of_le (Nat.le_mul_of_pos_left p (Nat.zero_lt_succ 1))
theorem sV {pos : Nat} (h : 2 * pos + 1 < n) (k : pos < c) : n - c < n - pos := Nat.sub_lt_sub_left (Nat.lt_of_le_of_lt zc h) k
theorem sT : (max (-1 + (n : Int)) 0).toNat = n - 1 := by
 cases n with
 | zero => rfl
 | succ n => rw [Int.natCast_succ, Int.add_comm (n : Int) 1, Int.neg_add_cancel_left, Int.max_eq_left (Int.natCast_nonneg n)]; rfl
theorem vi : min (n : Int) (m : Int) = ((min n m : Nat) : Int) := by
 rcases Nat.le_total n m with h | h
 ·rw [Nat.min_eq_left h]; exact Int.min_eq_left (Int.ofNat_le.mpr h)
 rw [Nat.min_eq_right h]; exact Int.min_eq_right (Int.ofNat_le.mpr h)
theorem sU : min (min (n : Int) (m : Int)).toNat m = min n m := by
 rw [vi, Int.toNat_natCast, Nat.min_assoc, Nat.min_self]
theorem sW (h2 : p + d ≤ m) (h : i < p) : min i p - 0 + (min p p - (i + 1)) + (d + 1) ≤ m := by
 rw [Nat.add_comm d 1, ← Nat.add_assoc, sP h]; exact h2
theorem sX (h : j < n) : n - 1 - j + 1 = n - j := by rw [Nat.sub_right_comm]; exact Nat.sub_add_cancel (Nat.sub_pos_of_lt h)
theorem sY (h : j < n) : (n : Int) - 1 + j * -1 = ((n - 1 - j : Nat) : Int) := by
 rw [Int.ofNat_sub (sJ h), Int.ofNat_sub (zp h), Int.mul_neg_one]; rfl
theorem sZ {a' b' : Nat} (s1 : a = a') (s2 : b = b') (hge : min a b ≤ i) (q : i < b') : a' ≤ i := by
 subst s1 s2; exact Nat.not_lt.mp fun h => Nat.lt_irrefl _ (Nat.lt_of_lt_of_le (Nat.lt_min.mpr ⟨h, q⟩) hge)
theorem s2 {a b a' b' i : Nat} (s1 : a = a') (s2 : b = b') (hge : min a b ≤ i) (q : i < a') : b' ≤ i := sZ s2 s1 (Nat.min_comm a b ▸ hge) q
theorem zs (h : j < n / 2) (e : m = n) : n / 2 - 1 - j < m := Nat.lt_of_lt_of_eq (Nat.lt_of_lt_of_le (sI h) (Nat.div_le_self ..)) e.symm
theorem zt (h : 0 < p) : ((p : Int) - 1) / 2 = (((p - 1) / 2 : Nat) : Int) := by rw [Int.natCast_ediv, Int.ofNat_sub h]; rfl
theorem aA {x y : Nat} (hm : m < 3) (hp : p < 1 + m) (hw : x ≤ 13 * p) (h2 : y ≤ 3) : x + y ≤ 50 :=
 Nat.le_trans (Nat.add_le_add (Nat.le_trans hw (Nat.mul_le_mul_left 13 (Nat.le_of_lt (Nat.lt_of_le_of_lt (Nat.le_of_lt_succ (Nat.lt_of_lt_of_eq hp (Nat.add_comm 1 m))) hm)))) h2) (by decide)
theorem aB {u : Nat} (h : u + 60 * d + 100 < 9000) (hc : c = 9900) (hn : n < 50) : u + n + 1 < c := by
 rw [Nat.add_assoc] at h;rw [hc];exact Nat.lt_trans (Nat.lt_of_le_of_lt (Nat.add_le_add_left (Nat.le_trans (Nat.le_trans hn (by decide)) (Nat.le_add_left 100 (60 * d))) u) h) (by decide)
theorem aC {u : Nat} (h : u + 60 * d + 100 < 9000) (hc : c = 9900) : u < c := Nat.lt_of_le_of_lt (Nat.le_add_right u 1) (aB h hc (n := 0) (by decide))
theorem aD {u : Nat} (h : u + 60 * (d + 1) + 100 < 9000) (hk : k ≤ 60) : u + k + 60 * d + 100 < 9000 :=
 Nat.lt_of_le_of_lt (Nat.add_le_add_right (by rw [Nat.add_assoc u, Nat.add_comm k]; exact Nat.add_le_add_left (Nat.add_le_add_left hk _) u) 100) h
theorem aE (h : a + (d + 1) < n) : a + 1 + d < n := Nat.add_right_comm a 1 d ▸ h
theorem aF {l : Nat} (h : l < r) : (l + r) / 2 < r := Nat.div_lt_of_lt_mul (by rw [Nat.two_mul]; exact Nat.add_lt_add_right h r)
theorem aH {l : Nat} (h : l ≤ r) : l ≤ (l + r) / 2 := (Nat.le_div_iff_mul_le (Nat.zero_lt_succ 1)).mpr (by rw [Nat.mul_two]; exact Nat.add_le_add_left h l)
theorem aK {x z : Nat} (h : x ≤ 13 * p) (h1 : z ≤ 10) : x + z ≤ 13 * (p + 1) := Nat.le_trans (Nat.add_le_add h h1) (Nat.add_le_add_left (Nat.le_of_ble_eq_true rfl : 10 ≤ 13) (13 * p))
theorem sAA : n - (i + 1) = n - 1 - i := Nat.sub_right_comm n i 1
theorem sBB {a s t : Int} (h : a + s = 1 + t) : t - s = a - 1 := by
 have e : t = a + s - 1 := by rw [h, Int.add_comm, Int.add_sub_cancel]
 rw [e, Int.sub_sub, Int.add_comm 1, ← Int.sub_sub, Int.add_sub_cancel]
theorem sCC {A S1 S2 : Int} {s l : Nat} (ih : A + S1 = 1 + S2) (h : b + s = l) : A + b + (S1 + (s + 0)) = 1 + (S2 + (l + 0)) := by
 subst h;rw [Int.add_zero, Int.add_zero, Int.natCast_add, ← Int.add_assoc 1, ← ih, Int.add_assoc, Int.add_assoc, Int.add_left_comm (b : Int)]
theorem sDD {m : Int} : (if 0 < m then m - 0 - 1 + 1 else 0).toNat = m.toNat := by
 split
 ·rw [Int.sub_add_cancel, Int.sub_zero]
 next h => exact (Int.toNat_of_nonpos (Int.not_lt.mp h)).symm
theorem sEE {q : Nat} : (if (p : Int) < q then ((q : Int) - p + 1 - 1) / 1 else 0).toNat = q - p := by
 rw [Int.ediv_one, Int.add_sub_cancel];split
 ·next h => rw [← Int.ofNat_sub (Nat.le_of_lt (Int.ofNat_lt.mp h))]; rfl
 next h => exact (Nat.sub_eq_zero_of_le (Int.ofNat_le.mp (Int.not_lt.mp h))).symm
theorem sFF (q : 0 < n) (h : min b n - min a n = n) : a = 0 := by
 have h3 : min a n = 0 := Nat.eq_zero_of_not_pos fun k => Nat.lt_irrefl n (Nat.lt_of_le_of_lt (Nat.le_trans (Nat.le_of_eq h.symm) (Nat.sub_le_sub_right (Nat.min_le_right ..) _)) (Nat.sub_lt q k))
 rcases Nat.le_total a n with k | k
 ·rw [Nat.min_eq_left k] at h3; exact h3
 rw [Nat.min_eq_right k] at h3; exact absurd h3 (Nat.ne_of_gt q)
end Mine
end
section
namespace Mine
open PySem PySem.W
noncomputable def x6 := @List.eq_nil_of_length_eq_zero
noncomputable def x7 {α : Type _} {l : List α} {i : Nat} {a : α} := (List.getElem?_eq_some_iff (l := l) (i := i) (a := a)).mp
noncomputable def x8 {α : Type _} {l : List α} {i : Nat} (h : l[i]? = none) : l.length ≤ i := List.getElem?_eq_none_iff.mp h
noncomputable def x9 := @List.getElem?_append_right
noncomputable def xc := @List.getElem?_append_left
noncomputable def xd := @List.drop_eq_getElem_cons
noncomputable def xe := @Array.getElem?_eq_getElem
noncomputable def xf {α β : Type _} {f : α → β} {o : Option α} {b : β} := (Option.map_eq_some_iff (f := f) (x := o) (b := b)).mp
noncomputable def xg := @List.getElem?_eq_getElem
noncomputable def xh := @PySem.F.slot_list_append
noncomputable def xi := @PySem.F.type_list_append
noncomputable def xj := @List.getElem?_take_of_lt
noncomputable def xk {a b : Bool} (h : a = false ∧ b = false) : (a || b) = false := Bool.or_eq_false_iff.mpr h
noncomputable def xm := @List.mem_singleton_self
noncomputable def xn := @Nat.add_sub_cancel_left
noncomputable def xo := @Heap.get?_push_of_some
noncomputable def xp := @List.take_of_length_le
noncomputable def xq := @List.getElem?_set_self
noncomputable def xr := @List.drop_of_length_le
noncomputable def xt := @List.length_singleton
noncomputable def xu := @Array.getElem?_toList
noncomputable def xv := @Heap.get?_update_self
noncomputable def xw := @List.length_filter_le
noncomputable def xx := @List.getElem?_eq_none
noncomputable def xy := @List.mem_append_right
noncomputable def xz := @List.concat_eq_append
noncomputable def xA := @List.eq_nil_or_concat
noncomputable def xB := @List.mem_of_getElem?
noncomputable def xC := @List.mem_cons_of_mem
noncomputable def xD := @Around.under_plainId
noncomputable def xE := @List.mem_append_left
noncomputable def xF := @List.getElem?_set_ne
noncomputable def xG := @List.mem_of_mem_take
noncomputable def xH := @Nat.mul_le_mul_right
noncomputable def xI := @Nat.sub_succ_lt_self
noncomputable def xJ := @List.dropLast_concat
noncomputable def xK := @Array.length_toList
noncomputable def xL := @Heap.get?_push_size
noncomputable def xM := @Nat.add_le_add_left
noncomputable def xN := @List.flatMap_append
noncomputable def xO := @Array.toList_append
noncomputable def xP := @List.map_congr_left
noncomputable def xQ := @List.getElem_of_mem
noncomputable def xR := @List.length_append
noncomputable def xS := @Bool.false_ne_true
noncomputable def xT := @List.mem_cons_self
noncomputable def xU := @Nat.lt_of_lt_of_le
noncomputable def xV := @Nat.lt_of_le_of_lt
noncomputable def xW := @Nat.add_right_comm
noncomputable def xX := @Int.natCast_nonneg
noncomputable def xY := @of_decide_eq_false
noncomputable def xZ := @List.filter_append
noncomputable def ya := @Bool.false_eq_true
noncomputable def yb := @List.mem_singleton
noncomputable def yc := @Nat.lt_of_le_of_ne
noncomputable def yd {α : Type _} {a : α} {s t : List α} (h : a ∈ s ++ t) : a ∈ s ∨ a ∈ t := List.mem_append.mp h
noncomputable def ye := @List.getElem?_map
noncomputable def yf := @List.append_assoc
noncomputable def yg := @of_decide_eq_true
noncomputable def yh := @decide_eq_true_eq
noncomputable def yi := @Nat.le_of_lt_succ
noncomputable def yj := @Nat.lt_succ_of_le
noncomputable def yk := @Nat.le_succ_of_le
noncomputable def yl := @Nat.lt_succ_of_lt
noncomputable def ym := @List.length_cons
noncomputable def yn := @List.length_take
noncomputable def yo := @Nat.min_le_right
noncomputable def yp := @Nat.le_add_right
noncomputable def yq := @Nat.lt_succ_self
noncomputable def yr := @List.length_drop
noncomputable def yt := @Nat.succ_le_succ
noncomputable def yu := @Bool.and_eq_true
noncomputable def yv := @List.take_length
noncomputable def yw := @List.getElem_mem
noncomputable def yx := @List.prefix_refl
noncomputable def yy {α : Type _} {a b : α} {l : List α} (h : a ∈ b :: l) : a = b ∨ a ∈ l := List.mem_cons.mp h
noncomputable def yz {a b : Nat} (h : a < b) : (a : Int) < b := Int.ofNat_lt.mpr h
noncomputable def yA := @List.length_map
noncomputable def yB := @List.length_set
noncomputable def yC := @List.map_append
noncomputable def yD := @List.mem_append
noncomputable def yE := @Nat.le_antisymm
noncomputable def yF := @Nat.le_add_left
noncomputable def yG := @List.append_nil
noncomputable def yH := @Bool.eq_iff_iff
noncomputable def yI := @Nat.min_eq_left
noncomputable def yJ := @List.mem_filter
noncomputable def yK {α β : Type _} {f : α → β} {b : β} {l : List α} (h : b ∈ l.map f) : ∃ a, a ∈ l ∧ f a = b := List.mem_map.mp h
noncomputable def yL := @List.take_zero
noncomputable def yM := @Heap.size_push
noncomputable def yN := @Nat.add_le_add
noncomputable def yO {a b : Nat} (h : b ≤ a) : ¬a < b := Nat.not_lt.mpr h
noncomputable def yP := @wpAny_holding
noncomputable def yQ := @Nat.lt_irrefl
noncomputable def yR := @List.map_cons
noncomputable def yS {a b : Nat} (h : ¬a < b) : b ≤ a := Nat.not_lt.mp h
noncomputable def yT := @Nat.le_trans
noncomputable def yU := @Nat.le_of_lt
noncomputable def yV := @Nat.le_of_eq
noncomputable def yW := @Nat.lt_trans
noncomputable def yX := @Nat.add_comm
noncomputable def yY := @Nat.ne_of_gt
noncomputable def yZ := @Nat.ne_of_lt
noncomputable def z0 := @Nat.lt_or_ge
noncomputable def z4 := @List.map_map
noncomputable def z5 := @Nat.sub_self
noncomputable def z6 := @Nat.le_refl
noncomputable def z7 := @Nat.zero_le
noncomputable def z8 := @Nat.le_succ
noncomputable def z9 := @wpAny_of_eq
noncomputable def za := @wpAny_bind
noncomputable def zb := @wpAny_pure
noncomputable def zj := @wpAny_mono
noncomputable def zk := @beq_iff_eq
variable {M : Model} {B : nr} {m : String} {b : Bool}
structure TS where
 T : BT
 n : Nat
 tk : Nat
 g : List GenState
inductive Out where
 | done (r : Result) (σ : TS)
 | hole (Γ : Ctx) (p : Pos) (σ : TS) (k : Result → TS → Out)
 | stop (why : String)
noncomputable abbrev Sm := Ctx → Sem Fin → Pos → TS → (End → TS → Out) → Out
noncomputable def uR (k : Result → TS → Out) : End → TS → Out := fun e σ => match e with
 | .ret r => k r σ
 | .susp .. => .stop "susp"
noncomputable def mN : End → TS → Out := uR fun r σ => .done r σ
noncomputable def ec : Resume → Bool
 | .send .none => true
 | _ => false
theorem jX {r : Resume} (h : ec r = true) : r = .send .none := by
 unfold ec at h;split at h
 ·rfl
 cases h
noncomputable def u3 (D : Code → Sem Fin) (P : Program) (w : Params) (cm : Code → Bool) (ih : Sm) : Sm := fun Γ t p σ kr => match t with
 | .pure fin => match fin with
  | .done f => kr (.ret (.ok f)) σ
  | .again c => cond c.quiet (cond (cm c) (.hole (Γ.goto c) p σ fun r σ' => kr (.ret r) σ') (ih (Γ.goto c) (D c) p σ kr)) (.stop "quiet")
 | .raise e => kr (.ret (.error e)) σ
 | .rule _ k => ih Γ (k ()) p σ kr
 | .at q k => ih Γ (k ()) q σ kr
 | .point _ k => ih Γ (k ()) p σ kr
 | .ask k => ih Γ (k ⟨P, w⟩) p σ kr
 | .load a _ k => (σ.T.get a).elim (.stop "load") fun o => ih Γ (k o) p σ kr
 | .loadIfAlive a k => (σ.T.get a).elim (.stop "alive") fun o => ih Γ (k (some o)) p σ kr
 | .alloc o k => cond o.isFreed (.stop "freed") (((σ.T.ins σ.n o).get σ.n).elim (.stop "alloc") fun _ => ih Γ (k σ.n) p ⟨σ.T.ins σ.n o, σ.n + 1, σ.tk, σ.g⟩ kr)
 | .update a _ f k => (σ.T.get a).elim (.stop "update") fun o => cond (f o).isFreed (.stop "freed") (ih Γ (k ()) p ⟨σ.T.set a f, σ.n, σ.tk, σ.g⟩ kr)
 | .fresh k => ih Γ (k σ.tk) p ⟨σ.T, σ.n, σ.tk + 1, σ.g⟩ kr
 | .handled own k => cond own (ih Γ (k Γ.own) p σ kr) (ih Γ (k Γ.handled) p σ kr)
 | .stack k => ih Γ (k ((Γ.code, p) :: Γ.below)) p σ kr
 | .thread k => ih Γ (k 0) p σ kr
 | .newGen c k => ih Γ (k σ.g.length) p ⟨σ.T, σ.n, σ.tk, σ.g ++ [.fresh c]⟩ kr
 | .genState g k => (σ.g[g]?).elim (.stop "genState") fun gs => ih Γ (k gs.seen) p σ kr
 | .resume g r _ k => (σ.g[g]?).elim (.stop "resume") fun gs => match gs with
  | .fresh c => cond (ec r) (ih (Γ.wake c p) (D c) p ⟨σ.T, σ.n, σ.tk, σ.g.set g .running⟩ fun e σ' => cond e.quiet (ih Γ (k e.result) p ⟨σ'.T, σ'.n, σ'.tk, σ'.g.set g e.genState⟩ kr) (.stop "quiet")) (.stop "resume")
  | .suspended k₀ _ c₀ p₀ fs _ => cond fs.isEmpty (ih (Γ.wake c₀ p) (k₀ r) p₀ ⟨σ.T, σ.n, σ.tk, σ.g.set g .running⟩ fun e σ' => cond e.quiet (ih Γ (k e.result) p ⟨σ'.T, σ'.n, σ'.tk, σ'.g.set g e.genState⟩ kr) (.stop "quiet")) (.stop "frames")
  | _ => .stop "resume"
 | .yield v gd l k => kr (.susp v gd l k Γ.code p []) σ
 | .call c h _ _ k => cond (cm c) (.hole (Γ.enter c h p) p σ fun r σ' => ih Γ (k r) p σ' kr) (ih (Γ.enter c h p) (D c) p σ (uR fun r σ' => ih Γ (k r) p σ' kr))
 | .unsupported m => .stop m
 | _ => .stop "op"
noncomputable def sim (D : Code → Sem Fin) (P : Program) (w : Params) (cm : Code → Bool) : Nat → Sm
 | 0 => fun _ _ _ _ _ => .stop "fuel"
 | n + 1 => u3 D P w cm (sim D P w cm n)
structure nr where
 d : Drawn
 os : OsState
structure Rep (B : nr) (σ : TS) (s : Shared) : Prop where
 size : s.heap.objs.size = σ.n
 own : ∀ i o, σ.T.get i = some o → s.heap.get? i = some o
 toks : s.toks = σ.tk
 gens : s.gens = ⟨σ.g⟩
 drawn : s.drawn = B.d
 os : s.os = B.os
noncomputable def Out.good (M : Model) (B : nr) (K : Result → Shared → Prop) : Out → Prop
 | .done r σ => ∀ s, Rep B σ s → K r s
 | .hole Γ p σ k => ∀ s, Rep B σ s → wpCode M Γ (fun r s' => ∃ σ', Rep B σ' s' ∧ (k r σ').good M B K) p s
 | .stop _ => False
theorem Rep.alloc {σ : TS} {s : Shared} (R : Rep B σ s) {o : Obj} (hf : o.isFreed = false) (hg : ((σ.T.ins σ.n o).get σ.n).isSome = true) :
  Rep B ⟨σ.T.ins σ.n o, σ.n + 1, σ.tk, σ.g⟩ { s with heap := s.heap.push o } := by
 refine ⟨by rw [yM, R.size], fun i o' e => ?_, R.toks, R.gens, R.drawn, R.os⟩;have e' : (σ.T.ins σ.n o).get i = some o' := e;rw [BT.get_ins o σ.T σ.n hg] at e';by_cases hi : i = σ.n
 ·subst hi;rw [if_pos rfl] at e';cases e';rw [← R.size]; exact xL _ hf
 rw [if_neg hi] at e';exact xo _ (R.own i o' e')
theorem Rep.update {σ : TS} {s : Shared} (R : Rep B σ s) {a : Addr} {o : Obj} {f : Obj → Obj} (e : σ.T.get a = some o) (hf : (f o).isFreed = false) :
  Rep B ⟨σ.T.set a f, σ.n, σ.tk, σ.g⟩ { s with heap := s.heap.update a f } := by
 have hs : Heap.SameBut a s.heap (s.heap.update a f) := Heap.SameBut.update ..
 refine ⟨by rw [hs.1, R.size], fun i o' e' => ?_, R.toks, R.gens, R.drawn, R.os⟩;have e' : (σ.T.set a f).get i = some o' := e';rw [BT.get_set] at e';by_cases hi : i = a
 ·subst hi;rw [if_pos rfl, e] at e';cases e';exact xv f (R.own _ _ e) hf
 rw [if_neg hi] at e';exact (hs.2 i hi).trans (R.own i o' e')
theorem Rep.setGen {σ : TS} {s : Shared} (R : Rep B σ s) (g : Nat) (x : GenState) : Rep B ⟨σ.T, σ.n, σ.tk, σ.g.set g x⟩ (s.setGen g x) := by
 refine ⟨R.size, R.own, R.toks, ?_, R.drawn, R.os⟩;show s.gens.setIfInBounds g x = _;rw [R.gens]; simp
section
variable {D : Code → Sem Fin} {P : Program} {w : World} {cm : Code → Bool} {B : nr} {K : Result → Shared → Prop}
theorem cY {α : Type} {x : Option α} {f : α → Out} (h : (x.elim (.stop m) f).good M B K) : ∃ o, x = some o ∧ (f o).good M B K := by
 cases x with
 | none => exact h.elim
 | some o => exact ⟨o, rfl, h⟩
theorem eH {x : Out} (h : (cond b x (.stop m)).good M B K) : b = true ∧ x.good M B K := by
 cases b with
 | false => exact h.elim
 | true => exact ⟨rfl, h⟩
theorem pA {x : Out} (h : (cond b (.stop m) x).good M B K) : b = false ∧ x.good M B K := by
 cases b with
 | true => exact h.elim
 | false => exact ⟨rfl, h⟩
theorem pz {x y : Out} (h : (cond b x y).good M B K) : (b = true ∧ x.good M B K) ∨ (b = false ∧ y.good M B K) := by
 cases b with
 | true => exact .inl ⟨rfl, h⟩
 | false => exact .inr ⟨rfl, h⟩
inductive RT (P : Program) (w : World) (Γ : Ctx) (p : Pos) (t : Sem Fin) (s : Shared) (R : End → Shared → Prop) : Prop
 | mk (e : End) (s' : Shared) (x : Runs (model P w) Γ p t [] s e s') (y : R e s')
theorem RT.map {Γ Γ' : Ctx} {p p' : Pos} {t t' : Sem Fin} {s s1 : Shared} {R : End → Shared → Prop} (h : RT P w Γ p t s R) (f : ∀ e s', Runs (model P w) Γ p t [] s e s' → Runs (model P w) Γ' p' t' [] s1 e s') : RT P w Γ' p' t' s1 R := by
 cases h with
 | mk e s' x y => exact ⟨e, s', f _ _ x, y⟩
theorem mj (hD : D = denote table) : ∀ (n : Nat) (Γ : Ctx) (t : Sem Fin) (p : Pos) (σ : TS) (kr : End → TS → Out) (R : End → Shared → Prop) (s : Shared),
  (∀ e σ' s', (kr e σ').good (model P w) B K → Rep B σ' s' → R e s') → (sim D P w.params cm n Γ t p σ kr).good (model P w) B K → Rep B σ s →
  RT P w Γ p t s R := by
 have hden : ∀ c, (model P w).den c = D c := fun c => by rw [hD]; rfl
 intro n
 induction n with
 | zero => intro Γ t p σ kr R s _ h _; exact h.elim
 | succ n ih =>
  intro Γ t p σ kr R s hk h hr;have back : ∀ {g : Nat} {k : GenResult → Sem Fin} (e₁ : End) (σ' : TS) (s' : Shared), (cond e₁.quiet (sim D P w.params cm n Γ (k e₁.result) p ⟨σ'.T, σ'.n, σ'.tk, σ'.g.set g e₁.genState⟩ kr) (.stop "quiet")).good (model P w) B K → Rep B σ' s' → e₁.quiet = true ∧ RT P w Γ p (k e₁.result) (s'.setGen g e₁.genState) R := fun e₁ σ' s' hg' hr' =>
   ⟨(eH hg').1, ih _ _ _ _ _ _ _ hk (eH hg').2 (hr'.setGen _ _)⟩
  cases t with
  | pure fin =>
   cases fin with
   | done f => exact ⟨_, _, .done, hk _ _ _ h hr⟩
   | again c =>
    obtain ⟨q, h⟩ := eH (b := c.quiet) h;rcases pz (b := cm c) h with ⟨_, h⟩ | ⟨_, h⟩
    ·obtain ⟨r, s', hr', σ', hR, hg⟩ := h s hr;exact ⟨_, _, .again q hr', hk _ _ _ hg hR⟩
    obtain ⟨e, s', hr', hR⟩ := ih (Γ.goto c) (D c) p σ kr R s hk h hr;exact ⟨e, s', .again q (by rw [hden]; exact hr'), hR⟩
  | raise e => exact ⟨_, _, .raise, hk _ _ _ h hr⟩
  | rule _ k => exact (ih _ _ _ _ _ _ _ hk h hr).map fun _ _ x => .rule x
  | «at» q k => exact (ih _ _ _ _ _ _ _ hk h hr).map fun _ _ x => .at x
  | point _ k => exact (ih _ _ _ _ _ _ _ hk h hr).map fun _ _ x => .point x
  | ask k => exact (ih _ _ _ _ _ _ _ hk h hr).map fun _ _ x => .ask x
  | load a q k =>
   obtain ⟨o, e, h⟩ := cY (x := σ.T.get a) h;exact (ih _ _ _ _ _ _ _ hk h hr).map fun _ _ x => .load (hr.own a o e) x
  | loadIfAlive a k =>
   obtain ⟨o, e, h⟩ := cY (x := σ.T.get a) h;exact (ih _ _ _ _ _ _ _ hk h hr).map fun _ _ x => .loadIfAlive (by rw [hr.own a o e]; exact x)
  | alloc o k =>
   obtain ⟨hf, h⟩ := pA (b := o.isFreed) h;obtain ⟨o', e, h⟩ := cY (x := (σ.T.ins σ.n o).get σ.n) h;exact (ih _ _ _ _ _ _ _ hk h (hr.alloc hf (by rw [e]; rfl))).map fun _ _ x => .alloc (by rw [hr.size]; exact x)
  | update a q f k =>
   obtain ⟨o, e, h⟩ := cY (x := σ.T.get a) h;obtain ⟨hf, h⟩ := pA (b := (f o).isFreed) h;exact (ih _ _ _ _ _ _ _ hk h (hr.update e hf)).map fun _ _ x => .update (by rw [hr.own a o e]; rfl) x
  | fresh k =>
   exact (ih _ _ _ _ _ _ { s with toks := s.toks + 1 } hk h ⟨hr.size, hr.own, by rw [← hr.toks], hr.gens, hr.drawn, hr.os⟩).map fun _ _ x => .fresh (by rw [hr.toks] at x ⊢; exact x)
  | handled own k =>
   cases own with
   | true => exact (ih _ _ _ _ _ _ _ hk h hr).map fun _ _ x => .handled x
   | false => exact (ih _ _ _ _ _ _ _ hk h hr).map fun _ _ x => .handled x
  | stack k => exact (ih _ _ _ _ _ _ _ hk h hr).map fun _ _ x => .stack x
  | thread k => exact (ih _ _ _ _ _ _ _ hk h hr).map fun _ _ x => .thread x
  | newGen c k =>
   have e : s.gens.size = σ.g.length := by rw [hr.gens]; rfl
   exact (ih _ _ _ _ _ _ { s with gens := s.gens.push (.fresh c) } hk h ⟨hr.size, hr.own, hr.toks, by show s.gens.push _ = _; rw [hr.gens]; simp, hr.drawn, hr.os⟩).map fun _ _ x => .newGen (by rw [e]; exact x)
  | genState g k =>
   obtain ⟨gs, e, h⟩ := cY (x := σ.g[g]?) h;exact (ih _ _ _ _ _ _ _ hk h hr).map fun _ _ x => .genState (by rw [hr.gens]; simpa using e) x
  | resume g r l k =>
   obtain ⟨gs, e, h⟩ := cY (x := σ.g[g]?) h;have hg : s.gens[g]? = some gs := by rw [hr.gens]; simpa using e
   cases gs with
   | fresh c =>
    obtain ⟨q, h⟩ := eH (b := ec r) h;have q := jX q;subst q;obtain ⟨e₁, s₁, x₁, hq, e', s', x, y⟩ := ih (Γ.wake c p) (D c) p _ _ (fun e₁ s₁ => e₁.quiet = true ∧ RT P w Γ p (k e₁.result) (s₁.setGen g e₁.genState) R) _ back h (hr.setGen g .running);exact ⟨e', s', .resumeFresh hg (by rw [hden]; exact x₁) hq x, y⟩
   | suspended k₀ l₀ c₀ p₀ fs cl =>
    obtain ⟨q, h⟩ := eH (b := fs.isEmpty) h;have q := List.isEmpty_iff.mp q;subst q;obtain ⟨e₁, s₁, x₁, hq, e', s', x, y⟩ := ih (Γ.wake c₀ p) (k₀ r) p₀ _ _ (fun e₁ s₁ => e₁.quiet = true ∧ RT P w Γ p (k e₁.result) (s₁.setGen g e₁.genState) R) _ back h (hr.setGen g .running);exact ⟨e', s', .resumeSuspended hg x₁ hq x, y⟩
   | running => exact h.elim
   | finished => exact h.elim
  | yield v gd l k => exact ⟨_, _, .yield, hk _ _ _ h hr⟩
  | call c hd g l k =>
   rcases pz (b := cm c) h with ⟨_, h⟩ | ⟨_, h⟩
   ·obtain ⟨r, s', hr', σ', hR, hg⟩ := h s hr;obtain ⟨e', s'', x, y⟩ := ih _ _ _ _ _ _ _ hk hg hR;exact ⟨e', s'', .call hr' x, y⟩
   obtain ⟨e₁, s₁, x₁, r, rfl, e', s', x, y⟩ := ih (Γ.enter c hd p) (D c) p σ _ (fun e₁ s₁ => ∃ r, e₁ = .ret r ∧ RT P w Γ p (k r) s₁ R) s (fun e₁ σ' s' hg' hr' => by
    cases e₁ with
    | ret r => exact ⟨r, rfl, ih _ _ _ _ _ _ _ hk hg' hr'⟩
    | susp => exact hg'.elim) h hr
   exact ⟨e', s', .call (by rw [hden]; exact x₁) x, y⟩
  | _ => exact h.elim
end
end Mine
end
section
namespace Mine
open PySem PySem.W
noncomputable def cm : Code → Bool
 | .builtin id _ => id == "set.update.loop" || id == "frozenset.__or__" || id == "frozenset.__sub__"
 | _ => false
noncomputable abbrev pw := PySem.Challenge.pw_ik0129_01
noncomputable def qZ : Sem Fin := (topStub pw).cur
noncomputable def Γ0 : Ctx := ⟨.builtin "claim.caller" {}, none, none, [], none⟩
noncomputable def btOf : List Obj → BT := fun l => (l.zipIdx).foldl (fun t (o, i) => t.ins i o) .nil
noncomputable abbrev DQ : Code → Sem Fin := Fast.tw11892475500146522536 Fast.tw14364793385576792824
noncomputable def T0 (w : World) : TS := ⟨btOf (boot_heap w.params).objs.toList, 11, boot_toks, []⟩
noncomputable def fz (d : Data) : Obj := { cls := .type "frozenset", data := d }
noncomputable def Out.fill (os : Nat → Obj) (dt : Nat → Data) (tk : Nat) (v : TS → Value) (sets olds : List Nat) (news : Nat) : Out → Out
 | .hole _ _ σ k => k (.ok (.ret (v σ))) ⟨(List.range news).foldl (fun T i => T.ins (σ.n + i) (os (σ.n + i))) (olds.foldl (fun T a => T.set a fun _ => os a) (sets.foldl (fun T a => T.set a fun _ => fz (dt a)) σ.T)), σ.n + news, tk, [.finished]⟩
 | o => o
noncomputable def Out.fillN (dt : Nat → Data) (tk : Nat) : Out → Out
 | .hole _ _ σ k => k (.ok (.ret (.ref σ.n))) ⟨σ.T.ins σ.n (fz (dt σ.n)), σ.n + 1, tk, [.finished]⟩
 | o => o
noncomputable def r0 (w : World) : Out := sim DQ pw w.params cm 100000 Γ0 qZ default (T0 w) mN
section
variable (w : World) (os : Nat → Obj) (dt : Nat → Data) (tk : Nat → Nat)
noncomputable def r1 : Out := (r0 w).fill os dt (tk 1) (fun _ => .none) [58] [53, 54, 55, 56, 57] 4
noncomputable def r2 : Out := (r1 w os dt tk).fill os dt (tk 2) (fun _ => .none) [63] [64] 2
noncomputable def r3 : Out := (r2 w os dt tk).fillN dt (tk 3)
noncomputable def r4 : Out := (r3 w os dt tk).fill os dt (tk 4) (fun _ => .none) [68] [69] 2
noncomputable def r5 : Out := (r4 w os dt tk).fillN dt (tk 5)
noncomputable def r6 : Out := (r5 w os dt tk).fill os dt (tk 6) (fun _ => .none) [73] [74] 2
noncomputable def r7 : Out := (r6 w os dt tk).fillN dt (tk 7)
noncomputable def r8 : Out := (r7 w os dt tk).fill os dt (tk 8) (fun _ => .none) [78] [79] 2
noncomputable def r9 : Out := (r8 w os dt tk).fill os dt (tk 9) (fun _ => .none) [82] [83] 2
noncomputable def r10 : Out := (r9 w os dt tk).fillN dt (tk 10)
noncomputable def r11 : Out := (r10 w os dt tk).fill os dt (tk 11) (fun _ => .none) [87] [88] 2
noncomputable def r12 : Out := (r11 w os dt tk).fill os dt (tk 12) (fun _ => .none) [91] [92] 2
end
noncomputable def Out.ob : Out → Option (String × List Value × Nat)
 | .done _ σ => some ("done", [], σ.n)
 | .hole Γ _ σ _ => match Γ.code with
  | .builtin id a => some (id, a.pos, σ.n)
  | _ => none
 | .stop m => some (m, [], 0)
noncomputable def wb (w : World) (a b : Bool) : World := (w.withFollow "comprehension-iter-twice" a).withFollow "special-get-raises" b
end Mine
end
section
namespace Mine
open PySem PySem.W PySem.Calls
section
variable {prog : Program} {w : World} {A : Around} {E : Value → Shared → Prop} {s : Shared}
variable {a : Addr} {S : Str → Bool} {n : Nat}
def cR (prog : Program) (w : World) (h : Heap) (a : Addr) (S : Str → Bool) (n : Nat) : Prop :=
 ∃ es ep t, h.get? a = some (fz (.set es ep t)) ∧ ElemsOf (strKind prog w) es.toList ∧
  (∀ k, S k = true ↔ ∃ e ∈ es.toList, (strKind prog w).is k e.2 = true) ∧ es.size < scanBound ∧ t.fits es.size = true ∧ es.size = n
theorem cR.at {h h' : Heap} (F : cR prog w h a S n) (k : ∀ o, h.get? a = some o → h'.get? a = some o) : cR prog w h' a S n := by
 obtain ⟨es, ep, t, ho, r⟩ := F;exact ⟨es, ep, t, k _ ho, r⟩
theorem cR.congr {h : Heap} {S' : Str → Bool} {n' : Nat} (F : cR prog w h a S n) (e : ∀ k, S k = S' k) (en : n = n') : cR prog w h a S' n' := by
 have : S = S' := funext e;subst this en; exact F
theorem fz_put (es es' : Array (Int × Value)) (ep : Nat) (t t' : SetTable) : Obj.putSet es' t' (fz (.set es ep t)) = fz (.set es' (ep + 1) t') := rfl
theorem dO {es es' : Array (Int × Value)} {ep : Nat} {t t' : SetTable} {Q : Unit → Shared → Prop} (ho : s.heap.get? a = some (fz (.set es ep t))) (hb : es'.size < scanBound)
  (h : ∀ h', Heap.SameBut a s.heap h' → h'.get? a = some (fz (.set es' (ep + 1) t')) → Q () { s with heap := h' }) : wpAny (model prog w) A (storeSet a es' t') Q E s := by
 refine wpAny_storeSet_of ho rfl (h _ (Heap.SameBut.update ..) ?_) (fits_of_scanBound hb);have := xv (Obj.putSet es' t') ho rfl;exact this
theorem jC {g : Bool → Sem Unit} (hg : ∀ (b : Bool) (s₁ : Shared) (Q' : Unit → Shared → Prop), Q' () s₁ → wpAny (model prog w) A (g b) Q' E s₁)
  {a : Addr} {es es1 : Array (Int × Value)} {ep : Nat} {t t2 : SetTable} (ho : s.heap.get? a = some (fz (.set es ep t)))
  (hel1 : ElemsOf (strKind prog w) es1.toList) {S' : Str → Bool} (hmem1 : ∀ k', S' k' = true ↔ ∃ e ∈ es1.toList, (strKind prog w).is k' e.2 = true)
  (hb1 : es1.size < scanBound) (hf2 : t2.fits es1.size = true) {wasDummy : Bool} {R : Option Bool → Shared → Prop}
  (h : ∀ h', Heap.SameBut a s.heap h' → cR prog w h' a S' es1.size → R (some true) { s with heap := h' }) :
  wpAny (model prog w) A (do
    storeSet a es1 t2
    if (!wasDummy && t2.tooFull) = true then do
        g (relayAll t2 es1 (SetTable.grown es1.size)).2.2
        storeSet a (relayAll t2 es1 (SetTable.grown es1.size)).1 (relayAll t2 es1 (SetTable.grown es1.size)).2.1
        pure (some true)
     else pure (some true)) R E s := by
 refine za (dO ho hb1 fun h1 hs1 ho1 => ?_);split
 ·have hp := relayAll_perm t2 es1 (SetTable.grown es1.size);have hfr := relayAll_fits t2 es1 (SetTable.grown es1.size);generalize hRl : relayAll t2 es1 (SetTable.grown es1.size) = Rl at hp hfr ⊢;obtain ⟨es2, t3, gave2⟩ := Rl;dsimp only at hp hfr ⊢;have hsz : es2.size = es1.size := by rw [← xK, hp.length_eq, xK]
  refine za (hg _ _ _ ?_);refine za (dO ho1 (by rw [hsz]; exact hb1) fun h2 hs2 ho2 => ?_);refine zb (h _ (hs1.trans hs2) ⟨es2, _, t3, ho2, hel1.perm hp, fun k' => (hmem1 k').trans ⟨fun ⟨e, he, q⟩ => ⟨e, hp.mem_iff.mpr he, q⟩, fun ⟨e, he, q⟩ => ⟨e, hp.mem_iff.mp he, q⟩⟩, by rw [hsz]; exact hb1, hfr, hsz⟩)
 exact zb (h _ hs1 ⟨es1, _, t2, ho1, hel1, hmem1, hb1, hf2, rfl⟩)
theorem gx {k : Str} {x : Value} {Q : Bool → Shared → Prop} (hkey : (strKind prog w).is k x = true) (hsc : x.scannable = true) (hS : cR prog w s.heap a S n)
  (hroom : n + 1 < scanBound)
  (h : ∀ h', Heap.SameBut a s.heap h' → cR prog w h' a (fun k' => S k' || decide (k' = k)) (if S k then n else n + 1) → Q (!S k) { s with heap := h' }) :
  wpAny (model prog w) A (setAddHashed a x ((strKind prog w).hash k)) Q E s := by
 obtain ⟨es, ep, t, ho, hel, hmem, hb, hf, hn⟩ := hS;have hb1 : es.size + 1 < scanBound := by rw [hn]; exact hroom
 unfold setAddHashed setAddHashedIn;refine yP (za (wpAny_setState_of ho rfl hf ?_));dsimp only;rw [byScan_of hsc hb hel];refine wpAny_ite_true rfl ?_;unfold setAddByScan;refine za ?_;refine za (wpAny_rule ?_);refine za (wpAny_setScan_of hkey ho rfl hf hel ?_);cases hr : List.findIdx? (fun e => (strKind prog w).is k e.2) es.toList with
 | some j =>
  dsimp only;obtain ⟨hj, hpj, _⟩ := List.findIdx?_eq_some_iff_getElem.mp hr;have hSk : S k = true := (hmem k).mpr ⟨es.toList[j], yw hj, hpj⟩;refine zb (zb ?_);have e : s = { s with heap := s.heap } := by cases s; rfl
  have := h s.heap (Heap.SameBut.refl a s.heap) ⟨es, ep, t, ho, hel, fun k' => by
   rw [Bool.or_eq_true, yh, ← hmem k'];exact ⟨fun hk => hk.elim id (fun e => e ▸ hSk), .inl⟩, hb, hf, by rw [hSk]; exact hn⟩
  rw [hSk] at this; rw [e]; exact this
 | none =>
  dsimp only;have hSk : S k = false := by
   cases hk : S k with
   | false => rfl
   | true => obtain ⟨e, he, hp⟩ := (hmem k).mp hk; have := List.findIdx?_eq_none_iff.mp hr e he; rw [hp] at this; exact Bool.noConfusion this
  have hgw : ∀ (b : Bool) {s₁ : Shared} {Q' : Unit → Shared → Prop}, Q' () s₁ → wpAny (model prog w) A (match b with | true => rule "set.scan.the-table-gave-way" | false => pure ()) Q' E s₁ :=
   fun b s₁ Q' hq => by cases b <;> first | exact zb hq | exact wpAny_rule hq
  have hperm := layNew_perm t es ((strKind prog w).hash k) x;have hfits := layNew_fits t es ((strKind prog w).hash k) x;generalize hL : layNew t es ((strKind prog w).hash k) x = L at hperm hfits ⊢;obtain ⟨es1, t1, wasDummy, gave⟩ := L;dsimp only at hperm hfits ⊢;rw [Array.toList_push] at hperm;have hel1 : ElemsOf (strKind prog w) es1.toList := (hel.push hkey hsc).perm hperm;have hmem1 : ∀ k', (S k' || decide (k' = k)) = true ↔ ∃ e ∈ es1.toList, (strKind prog w).is k' e.2 = true := mem_push_iff hkey hmem hperm;have hsz1 : es1.size = n + 1 := by rw [← xK, hperm.length_eq, xR, xK, hn]; rfl
  have hb1' : es1.size < scanBound := by rw [hsz1]; exact hroom
  refine za (hgw _ ?_);have hend : ∀ h', Heap.SameBut a s.heap h' → cR prog w h' a (fun k' => S k' || decide (k' = k)) es1.size → Q true { s with heap := h' } := by
   intro h' hsb hS'; have := h h' hsb; rw [hSk] at this; rw [hsz1] at hS'; exact this hS'
  split
  ·refine za ?_;rw [hashByValue_scannable 8 hsc];refine zb ?_;refine jC ?_ ho hel1 hmem1 hb1' ?_ ?_
   ·intro b s₁ Q' hq; cases b <;> first | exact zb hq | exact wpAny_rule hq
   ·split
    ·exact hfits
    exact SetTable.fits_plain_off hfits
   intro h' hsb hS'; dsimp only; exact zb (hend h' hsb hS')
  refine za (zb ?_);simp only [↓reduceIte];refine jC ?_ ho hel1 hmem1 hb1' hfits ?_
  ·intro b s₁ Q' hq; cases b <;> first | exact zb hq | exact wpAny_rule hq
  intro h' hsb hS'; dsimp only; exact zb (hend h' hsb hS')
theorem kO {x : Str} {t : Tok} {Q : Bool → Shared → Prop} (hS : cR prog w s.heap a S n) (hroom : n + 1 < scanBound)
  (h : ∀ h', Heap.SameBut a s.heap h' → cR prog w h' a (fun k' => S k' || decide (k' = x)) (if S x then n else n + 1) → Q (!S x) { s with heap := h', toks := s.toks + 1 }) :
  wpAny (model prog w) A (setAdd a (.str x t)) Q E s := by
 unfold setAdd;refine yP (za ((strKind prog w).pyHash (k := x) (strKind_is _ _ _ _) ?_));exact gx (s := { s with toks := s.toks + 1 }) (strKind_is _ _ _ _) rfl hS hroom fun h' a b => h h' a b
theorem tO (h : Heap) (o1 o2 : Obj) (f1 : o1.isFreed = false) (f2 : o2.isFreed = false) (b : Nat) (h1 : h.objs.size ≤ b) (h2 : b < h.objs.size + 2) : ∃ o, ((h.push o1).push o2).get? b = some o := by
 rcases z0 b (h.objs.size + 1) with q | q
 ·obtain rfl : b = h.objs.size := by exact yE (yi q) h1
  exact ⟨_, xo _ (xL _ f1)⟩
 obtain rfl : b = h.objs.size + 1 := by exact yE (yi h2) q
 refine ⟨o2, ?_⟩;have := xL (h.push o1) f2;rw [yM] at this;exact this
theorem gQ {it : Addr} {x : Str} {t : Tok} {i : Nat} {Q : Option Value → Shared → Prop} (hh : A.handled = none)
  (hit : s.heap.IsStrIter it "str_ascii_iterator" x t i) (hx : x.cps[i]? = none)
  (hQ : ∀ h', Heap.ExtBut it s.heap h' → h'.objs.size = s.heap.objs.size + 2 → (∃ o, h'.get? it = some o) → (∀ b, s.heap.objs.size ≤ b → b < s.heap.objs.size + 2 → ∃ o, h'.get? b = some o) → Q none { s with heap := h' }) : wpAny (model prog w) A (pyNext (.ref it)) Q E s := by
 obtain ⟨o, ho, hc, hd⟩ := id hit;unfold pyNext;refine za (wpAny_attempt (wpAny_callSpecial?_slot (name := Str.ofString "__next__") hit.typeIs F.slot_str_ascii_iterator_next (wpAny_call_entry F.slot_str_ascii_iterator_next hit.typeIs F.entry_str_ascii_iterator_next ?_ (F.args_str_ascii_iterator_next_1 _))));show wpAny _ _ (field (.ref it) 0 >>= _) _ _ s;refine za (wpAny_field ho hd (x := .str x t) rfl ?_);show wpAny _ _ (field (.ref it) 1 >>= _) _ _ s;refine za (wpAny_field ho hd (x := .int i 0) rfl ?_);simp only [Int.toNat_natCast, hx];refine za (wpAny_rule (za (wpAny_setField ho hd (by simp) (za (wpAny_letGo ?_)))));show wpAny _ _ (newExc (.type "StopIteration") [] >>= _) _ _ _;refine za ?_;unfold newExc newTuple;refine za (wpAny_newObj_type ?_ (by size_fits));refine za (m := firstArgMember _ _) (z9 (a := Value.none) (by first | rfl | (simp only [firstArgMember]; rfl)) ?_);refine wpAny_newObj_type ?_ (by size_fits);simp only [raiseNew];refine za (wpAny_handled ?_);rw [show A.in1.handled = none from hh];refine za (zb (wpAny_throw ?_));refine za (wpAny_isInstance (T := "StopIteration") (b := true) ⟨_, xL _ rfl, rfl⟩ isSubtype_stop ?_);refine zb (hQ _ (((Heap.SameBut.update ..).extBut.push _).push _) ?_ ?_ ?_)
 ·rw [yM, yM, Heap.size_after_update]
 ·exact ⟨_, xo _ (xo _ (xv _ ho (Obj.isFreed_of_fields (Obj.data_mapFields hd _))))⟩
 intro b hb hb2;exact tO _ _ _ rfl rfl b (by rw [Heap.size_after_update]; exact hb) (by rw [Heap.size_after_update]; exact hb2)
theorem nY {l : List Nat} (h : l.Nodup) {i : Nat} (hi : i < l.length) : ((l.take i).any fun c => decide ((⟨#[l[i]]⟩ : Str) = ⟨#[c]⟩)) = false := by
 rw [List.any_eq_false];intro c hc e;have e := yg e;injection e with e
 have e : l[i] = c := by simpa using e
 rw [← List.take_append_drop i l] at h;have := (List.nodup_append.mp h).2.2 c hc l[i] (by rw [xd hi]; exact xT ..);exact this e.symm
theorem oe (hh : A.handled = none) {S I : Addr} (hSI : S ≠ I) {x : Str} {t : Tok} (hb : x.cps.size + 1 < scanBound) (hnd : x.cps.toList.Nodup) {R : Result → Shared → Prop} :
  ∀ (k i : Nat) (s : Shared), x.cps.size - i = k → i ≤ x.cps.size → s.heap.IsStrIter I "str_ascii_iterator" x t i →
   cR prog w s.heap S (fun y => (x.cps.toList.take i).any fun c => decide (y = ⟨#[c]⟩)) i →
   (∀ h' tk, h'.objs.size = s.heap.objs.size + 2 → (∀ b o, b ≠ S → b ≠ I → s.heap.get? b = some o → h'.get? b = some o) → (∃ o, h'.get? I = some o) →
    (∀ b, s.heap.objs.size ≤ b → b < s.heap.objs.size + 2 → ∃ o, h'.get? b = some o) →
    cR prog w h' S (fun y => x.cps.toList.any fun c => decide (y = ⟨#[c]⟩)) x.cps.size → R (.ok (.ret .none)) { s with heap := h', toks := tk }) →
   codeAny (model prog w) A (.builtin "set.update.loop" ⟨[.ref S, .ref I], []⟩) R s := by
 intro k
 induction k with
 | zero =>
  intro i s hk hi hit hS hR;obtain rfl : i = x.cps.size := by exact sD hk hi
  refine codeAny_builtin PyProof.Rows.F.entry_set_update_loop ?_;rw [xD PyProof.Rows.F.plain_set_update_loop _];show wpAny _ A.in1 (pyNext (.ref I) >>= _) _ _ s;refine za (gQ (A := A.in1) hh hit (by simp) fun h' hs hz hI hnw => ?_);show wpAny _ A.in1 (ret Value.none) _ _ _;refine zb ?_;have e : ({ s with heap := h' } : Shared) = { s with heap := h', toks := s.toks } := rfl;rw [e];refine hR h' s.toks hz (fun b o _ h2 e => hs b o h2 e) hI hnw ?_;refine (hS.at fun o e => hs S o hSI e).congr (fun y => ?_) rfl;rw [xp (by simp)]
 | succ k ih =>
  intro i s hk hi hit hS hR;have hlt : i < x.cps.size := by exact sC hk
  refine codeAny_builtin PyProof.Rows.F.entry_set_update_loop ?_;rw [xD PyProof.Rows.F.plain_set_update_loop _];show wpAny _ A.in1 (pyNext (.ref I) >>= _) _ _ s;refine za (wpAny_pyNext_ascii_item hit (c := x.cps[i]) (by simp [hlt]) fun h1 hit1 hs1 => ?_);show wpAny _ A.in1 (holding [Value.str ⟨#[x.cps[i]]⟩ s.toks] (setAdd S (.str ⟨#[x.cps[i]]⟩ s.toks)) >>= _) _ _ _;refine za (yP ?_);have hS1 : cR prog w h1 S (fun y => (x.cps.toList.take i).any fun c => decide (y = ⟨#[c]⟩)) i := hS.at fun o e => (hs1.2 S hSI).trans e
  refine kO (s := { s with heap := h1, toks := s.toks + 1 }) hS1 (xV (yk hlt) hb) fun h2 hs2 hS2 => ?_
  refine zb ⟨plainId_quiet PyProof.Rows.F.plain_set_update_loop _, ?_⟩;have nb := nY hnd (i := i) (by simpa using hlt);simp only [Array.getElem_toList] at nb;refine ih (i + 1) _ (sB hk) hlt (by obtain ⟨o, ho, r⟩ := hit1; exact ⟨o, (hs2.2 I (Ne.symm hSI)).trans ho, r⟩) (hS2.congr (fun y => ?_) (by rw [nb]; rfl)) ?_
  ·rw [List.take_add_one, List.any_append];simp [hlt]
  intro h' tk a b c d e;have z1 : h1.objs.size = s.heap.objs.size := hs1.1;have z2 : h2.objs.size = s.heap.objs.size := hs2.1.trans z1;have a' : h'.objs.size = h2.objs.size + 2 := a;have d' : ∀ b, h2.objs.size ≤ b → b < h2.objs.size + 2 → ∃ o, h'.get? b = some o := d;rw [z2] at a' d';exact hR h' tk a' (fun y o y1 y2 ey => b y o y1 y2 ((hs2.2 y y1).trans ((hs1.2 y y2).trans ey))) c d' e
end
end Mine
end
section
set_option tactic.hygienic true
namespace Mine
open PySem PySem.W
variable {mask : Nat}
noncomputable def rh (mask : Nat) : Nat → Nat → Nat → Nat
 | 0, i, _ => i
 | t + 1, i, p => rh mask t (SetTable.leap mask i p).1 (SetTable.leap mask i p).2
theorem kS {mask : Nat} {owner : Array (Option Nat)} : ∀ (fuel i p : Nat), SetTable.layClean.free mask owner fuel i p = none → ∀ t < fuel, (owner.getD (rh mask t i p) (some 0)).isNone = false
 | 0, _, _, _, t, ht => absurd ht (Nat.not_lt_zero _)
 | fuel + 1, i, p, h, t, ht => by
  have h : (match (List.range (SetTable.runEnd mask i + 1 - i)).find? fun k => (owner.getD (i + k) (some 0)).isNone with | some k => some (i + k) | none => SetTable.layClean.free mask owner fuel (SetTable.leap mask i p).1 (SetTable.leap mask i p).2) = none := h;split at h
  ·cases h
  rename_i hf;cases t with
  | zero =>
   have := List.find?_eq_none.mp hf 0 (List.mem_range.mpr (by unfold SetTable.runEnd; split; exact Nat.sub_pos_of_lt (yj (yp i 9)); exact Nat.sub_pos_of_lt (yq _)));simp only [Nat.add_zero] at this;show (owner.getD i (some 0)).isNone = false;cases q : (owner.getD i (some 0)).isNone with
   | false => rfl
   | true => exact absurd q this
  | succ t => exact kS fuel _ _ h t (Nat.lt_of_succ_lt_succ ‹_›)
theorem kR {mask : Nat} {owner : Array (Option Nat)} : ∀ (fuel i p j : Nat), SetTable.layClean.free mask owner fuel i p = some j → owner[j]? = some none
 | 0, _, _, _, h => by cases h
 | fuel + 1, i, p, j, h => by
  have h : (match (List.range (SetTable.runEnd mask i + 1 - i)).find? fun k => (owner.getD (i + k) (some 0)).isNone with | some k => some (i + k) | none => SetTable.layClean.free mask owner fuel (SetTable.leap mask i p).1 (SetTable.leap mask i p).2) = some j := h;split at h
  ·rename_i k hf;cases h;have := List.find?_some hf;simp only [Array.getD_eq_getD_getElem?] at this;cases hq : owner[i + k]? with
   | none => rw [hq] at this; simp at this
   | some v => rw [hq] at this; cases v with
    | none => rfl
    | some v => simp at this
  exact kR fuel _ _ j h
noncomputable def it5 (mask : Nat) : Nat → Nat → Nat
 | 0, i => i
 | t + 1, i => it5 mask t ((i * 5 + 1) % (mask + 1))
theorem ko (mask : Nat) : ∀ t i, rh mask t i 0 = it5 mask t i
 | 0, _ => rfl
 | t + 1, i => by
  show rh mask t ((i * 5 + 1 + 0 / 32) % (mask + 1)) (0 / 32) = it5 mask t ((i * 5 + 1) % (mask + 1));rw [Nat.zero_div, Nat.add_zero]; exact ko mask t _
theorem kq (mask : Nat) : ∀ k i p, p < 32 ^ k → i ≤ mask → ∃ i', i' ≤ mask ∧ ∀ t, rh mask (k + t) i p = it5 mask t i'
 | 0, i, p, hp, hi => by
  obtain rfl : p = 0 := by simpa using hp
  exact ⟨i, hi, fun t => by rw [Nat.zero_add]; exact ko mask t i⟩
 | k + 1, i, p, hp, hi => by
  obtain ⟨i', h1, h2⟩ := kq mask k ((i * 5 + 1 + p / 32) % (mask + 1)) (p / 32) (by rw [Nat.pow_succ] at hp; exact Nat.div_lt_of_lt_mul (Nat.mul_comm (32 ^ k) 32 ▸ hp)) (yi (Nat.mod_lt _ (Nat.succ_pos _)));refine ⟨i', h1, fun t => ?_⟩;rw [show k + 1 + t = (k + t) + 1 by lia];exact h2 t
def cG (mask : Nat) : Prop := ∀ i ≤ mask, ∀ j ≤ mask, ∃ t ≤ mask, it5 mask t i = j
noncomputable def ms (mask : Nat) : Nat → Nat → Nat → Nat
 | 0, _, acc => acc
 | t + 1, i, acc => ms mask t ((i * 5 + 1) % (mask + 1)) (acc ||| 2 ^ i)
theorem jg (mask : Nat) : ∀ n i acc j, (ms mask n i acc).testBit j = true → acc.testBit j = true ∨ ∃ t < n, it5 mask t i = j
 | 0, _, _, _, h => .inl h
 | n + 1, i, acc, j, h => by
  rcases jg mask n _ _ j h with h | ⟨t, ht, e⟩
  ·rw [Nat.testBit_or, Bool.or_eq_true] at h;rcases h with h | h
   ·exact .inl h
   rw [Nat.testBit_two_pow] at h;exact .inr ⟨0, Nat.succ_pos _, yg h⟩
  exact .inr ⟨t + 1, by exact Nat.succ_lt_succ ‹_›, e⟩
noncomputable def uE (mask : Nat) : Bool := (List.range (mask + 1)).all fun i => ms mask (mask + 1) i 0 == 2 ^ (mask + 1) - 1
theorem kW (h : uE mask = true) : cG mask := by
 intro i hi j hj;have := List.all_eq_true.mp h i (List.mem_range.mpr (yj ‹_›));have e : ms mask (mask + 1) i 0 = 2 ^ (mask + 1) - 1 := by simpa using this
 have b : (ms mask (mask + 1) i 0).testBit j = true := by
  rw [e, Nat.testBit_two_pow_sub_one]; simp; exact yj hj
 rcases jg mask _ _ _ _ b with b | ⟨t, ht, e⟩
 ·simp at b
 exact ⟨t, by exact yi ‹_›, e⟩
theorem ta : cG 7 := kW (by decide +kernel)
theorem fT : cG 127 := kW (by decide +kernel)
theorem oD (C : cG mask) {owner : Array (Option Nat)} (h : Int) (hfree : ∃ j, j ≤ mask ∧ owner[j]? = some none) :
  ∃ j, SetTable.layClean.free mask owner (SetTable.turns mask) (SetTable.bits h % (mask + 1)) (SetTable.bits h) = some j ∧ owner[j]? = some none := by
 cases hr : SetTable.layClean.free mask owner (SetTable.turns mask) (SetTable.bits h % (mask + 1)) (SetTable.bits h) with
 | some j => exact ⟨j, rfl, kR _ _ _ _ hr⟩
 | none =>
  exfalso;have hb : SetTable.bits h < 32 ^ 13 := by
   unfold SetTable.bits;have h1 := Int.emod_lt_of_pos h (show (0 : Int) < 2 ^ 64 by decide);have h0 := Int.emod_nonneg h (show (2 ^ 64 : Int) ≠ 0 by decide);have : (32 : Nat) ^ 13 = 36893488147419103232 := by decide
   rw [this];have e64 : (2 ^ 64 : Int) = 18446744073709551616 := by decide
   rw [e64] at h1 h0 ⊢;exact (Int.toNat_lt (Int.emod_nonneg h (by decide))).mpr (Int.lt_trans h1 (by decide))
  obtain ⟨i', hi', ht⟩ := kq mask 13 (SetTable.bits h % (mask + 1)) (SetTable.bits h) hb (yi (Nat.mod_lt _ (Nat.succ_pos _)));obtain ⟨j, hj, hjn⟩ := hfree;obtain ⟨t, htl, e⟩ := C i' hi' j hj;have := kS _ _ _ hr (13 + t) (by unfold SetTable.turns; lia);rw [ht t, e] at this;simp [Array.getD_eq_getD_getElem?, hjn] at this
noncomputable def dh (owner : Array (Option Nat)) : List Nat := owner.toList.filterMap id
theorem mi {α : Type} {l : List α} {j : Nat} {x : α} (h : l[j]? = some x) : ∃ l1 l2, l = l1 ++ x :: l2 ∧ l1.length = j := by
 obtain ⟨hj, he⟩ := x7 h;exact ⟨l.take j, l.drop (j + 1), by rw [← he, ← xd hj, List.take_append_drop], by rw [yn]; exact yI (yU hj)⟩
theorem om {owner : Array (Option Nat)} {j k : Nat} (h : owner[j]? = some none) : (dh (owner.setIfInBounds j (some k))).Perm (k :: dh owner) := by
 obtain ⟨l1, l2, e, hl⟩ := mi (l := owner.toList) (j := j) (x := none) (by simpa using h);unfold dh;rw [Array.toList_setIfInBounds, e, ← hl, List.set_append_right _ _ (z6 _), z5];simp only [List.set_cons_zero, List.filterMap_append, List.filterMap_cons, id_eq];exact List.perm_middle
noncomputable def lL (mask : Nat) (acc : Option (Array (Option Nat) × Nat)) (h : Int) : Option (Array (Option Nat) × Nat) := do
 let (owner, k) ← acc;let j ← SetTable.layClean.free mask owner (SetTable.turns mask) (SetTable.bits h % (mask + 1)) (SetTable.bits h)
 pure (owner.setIfInBounds j (some k), k + 1)
theorem mJ {mask : Nat} (C : cG mask) : ∀ (hs : List Int) (owner : Array (Option Nat)) (k : Nat), owner.size = mask + 1 → (dh owner).Perm (List.range k) → k + hs.length ≤ mask + 1 →
  ∃ owner', hs.foldl (lL mask) (some (owner, k)) = some (owner', k + hs.length) ∧ owner'.size = mask + 1 ∧ (dh owner').Perm (List.range (k + hs.length))
 | [], owner, k, h1, h2, _ => ⟨owner, rfl, h1, h2⟩
 | h :: hs, owner, k, h1, h2, h3 => by
  have hlen : (dh owner).length = k := by rw [h2.length_eq, List.length_range]
  have hfree : ∃ j, j ≤ mask ∧ owner[j]? = some none := by
   apply Classical.byContradiction;intro hn;have all : ∀ x ∈ owner.toList, x.isSome = true := by
    intro x hx;cases x with
    | some v => rfl
    | none =>
     obtain ⟨j, hj, e⟩ := xQ hx;exact absurd ⟨j, by simp at hj; lia, by simp at hj; simp [hj]; simpa using e⟩ hn
   have : (dh owner).length = owner.toList.length := by
    unfold dh;generalize owner.toList = l at all
    induction l with
    | nil => rfl
    | cons x l ih =>
     have hx := all x (xT ..);cases x with
     | none => cases hx
     | some v => simp only [List.filterMap_cons, id_eq, ym]; rw [ih fun y hy => all y (xC _ hy)]
   rw [hlen, xK, h1] at this;simp only [ym] at h3;exact yQ k (xU (Nat.lt_add_of_pos_right (Nat.succ_pos _)) (yT h3 (yV this.symm)))
  obtain ⟨j, hj, hjn⟩ := oD C h hfree;have e : lL mask (some (owner, k)) h = some (owner.setIfInBounds j (some k), k + 1) := by
   show (SetTable.layClean.free mask owner _ _ _).bind _ = _;rw [hj]; rfl
  rw [List.foldl_cons, e];obtain ⟨o', x, y, z⟩ := mJ C hs (owner.setIfInBounds j (some k)) (k + 1) (by simpa using h1)
   ((om hjn).trans ((List.Perm.cons k h2).trans (by rw [List.range_succ]; exact List.perm_append_singleton k _ |>.symm))) (by simp only [ym] at h3; exact yT (yV (xW k 1 _)) h3)
  refine ⟨o', ?_, y, ?_⟩
  ·rw [x, ym]; congr 2; exact xW ..
  rw [ym, show k + (hs.length + 1) = k + 1 + hs.length by lia]; exact z
theorem mK (C : cG mask) {hashes : Array Int} (hn : hashes.size ≤ mask + 1) :
  ∃ owner, SetTable.layClean mask hashes = some owner ∧ owner.size = mask + 1 ∧ (dh owner).Perm (List.range hashes.size) := by
 obtain ⟨o, x, y, z⟩ := mJ C hashes.toList (Array.replicate (mask + 1) none) 0 (by simp) (by
  unfold dh;rw [Array.toList_replicate];have : (List.replicate (mask + 1) (none : Option Nat)).filterMap id = [] := by
   rw [List.filterMap_eq_nil_iff]; intro a ha; rw [List.eq_of_mem_replicate ha]; rfl
  rw [this]; exact .nil) (by simpa using hn)
 refine ⟨o, ?_, y, by simpa using z⟩;have : SetTable.layClean mask hashes = (hashes.toList.foldl (lL mask) (some (Array.replicate (mask + 1) none, 0))).map (·.1) := by
  unfold SetTable.layClean;rw [← Array.foldl_toList];rfl
 rw [this, x]; rfl
end Mine
end
section
namespace Mine
open PySem PySem.W
variable {a : Addr} {d : Data}
theorem gy {α β : Type} {f g : α → Option β} : ∀ {l : List α}, (∀ x ∈ l, f x = g x) → l.filterMap f = l.filterMap g
 | [], _ => rfl
 | x :: l, h => by
  rw [List.filterMap_cons, List.filterMap_cons, h x (xT ..), gy fun y hy => h y (xC _ hy)]
theorem n0 {α : Type} : ∀ (n : Nat) (l : List α), l.length = n → (List.range n).filterMap (l[·]?) = l
 | 0, l, h => by rw [List.length_eq_zero_iff.mp h]; rfl
 | n + 1, l, h => by
  have hne : l ≠ [] := by intro e; rw [e] at h; cases h
  have e := List.dropLast_concat_getLast hne;have hl : l.dropLast.length = n := by rw [List.length_dropLast, h]; rfl
  rw [List.range_succ, List.filterMap_append];have a : (List.range n).filterMap (l[·]?) = l.dropLast := by
   refine (gy fun j hj => ?_).trans (n0 n l.dropLast hl);have hj := List.mem_range.mp hj;have : l[j]? = l.dropLast[j]? := by
    conv => lhs; rw [← e]
    rw [xc (by exact hl ▸ hj)]
   exact this
  have b : [n].filterMap (l[·]?) = [l.getLast hne] := by
   have : l[n]? = some (l.getLast hne) := by
    conv => lhs; rw [← e]
    rw [x9 (yV ‹_›), hl, z5]; rfl
   simp [this]
  rw [a, b, e]
theorem mI (owner : Array (Option Nat)) : ∀ n, ((List.range n).filterMap fun j => (owner.getD j none).map (j, ·)).map (·.2) = ((List.range n).map fun j => owner.getD j none).filterMap id := by
 intro n;rw [List.map_filterMap, List.filterMap_map];refine gy fun j _ => ?_
 show (((owner.getD j none).map (j, ·)).map (·.2)) = id (owner.getD j none);cases owner.getD j none <;> rfl
theorem ij (owner : Array (Option Nat)) : (List.range owner.size).map (fun j => owner.getD j none) = owner.toList := by
 apply List.ext_getElem
 ·simp
 intro i h1 h2;simp at h1;simp [Array.getD_eq_getD_getElem?, h1]
theorem ut {mask f mv : Nat} {led pl : Bool} (C : cG mask) {hashes : Array Int} (hn : hashes.size ≤ mask) :
  ∃ t order, SetTable.laid mask f mv led pl hashes = some (t, order) ∧ t.mask = mask ∧ t.dummies = #[] ∧ t.place.size = hashes.size ∧ order.toList.Perm (List.range hashes.size) := by
 obtain ⟨owner, x, y, z⟩ := mK C (hashes := hashes) (yk ‹_›);refine ⟨_, _, by unfold SetTable.laid; rw [x]; rfl, rfl, rfl, ?_, ?_⟩
 ·have e := mI owner (mask + 1);rw [← y, ij] at e;have e2 := congrArg List.length e;rw [yA] at e2;show (((List.range (mask + 1)).filterMap fun j => (owner.getD j none).map (j, ·)).map (·.1)).toArray.size = _;rw [List.size_toArray, yA, ← y, e2];show (dh owner).length = _;rw [z.length_eq, List.length_range]
 show (((List.range (mask + 1)).filterMap fun j => (owner.getD j none).map (j, ·)).map (·.2)).toArray.toList.Perm _;rw [List.toList_toArray, ← y, mI, ij];exact z
theorem ln {α : Type} {es : Array α} {order : Array Nat} (h : order.toList.Perm (List.range es.size)) : (order.filterMap (es[·]?)).toList.Perm es.toList := by
 rw [Array.toList_filterMap];refine (h.filterMap _).trans ?_;have : (List.range es.size).filterMap (es[·]?) = es.toList := by
  have := n0 es.size es.toList (by simp);rw [← this];refine gy fun j _ => ?_
  exact (xu ..).symm
 rw [this]
section
variable {prog : Program} {w : World} {A : Around} {E : Value → Shared → Prop} {s : Shared}
theorem kE : isSubtype (.type "frozenset") (.type "set") = pure false := by rw [isSubtype_type]; kernel_rfl
theorem nn : isSubtype (.type "frozenset") (.type "frozenset") = pure true := by rw [isSubtype_type]; kernel_rfl
theorem lO (h : s.heap.get? a = some (fz d)) : s.TypeIs (.ref a) "frozenset" := ⟨_, h, rfl⟩
theorem cC {Q : Bool → Shared → Prop} (h : s.heap.get? a = some (fz d)) (hQ : Q true s) : wpAny (model prog w) A (Builtin.Frozenset.isAnySet (.ref a)) Q E s := by
 delta Builtin.Frozenset.isAnySet
 refine za (wpAny_isInstance (lO h) kE ?_);exact wpAny_isInstance (lO h) nn hQ
theorem qr {Q : Value → Shared → Prop} (h : s.heap.get? a = some (fz d)) (hQ : Q (.type "frozenset") s) : wpAny (model prog w) A (Builtin.Frozenset.baseOf a) Q E s := by
 delta Builtin.Frozenset.baseOf
 exact za (wpAny_isInstance (lO h) kE (zb hQ))
theorem vF {Q : Value → Shared → Prop}
  (h : ∀ led : Bool, Q (.ref s.heap.objs.size) { s with heap := s.heap.push (fz (.set #[] 0 (.fresh 0 0 led))) }) :
  wpAny (model prog w) A (newSet (.type "frozenset")) Q E s := by
 delta newSet setsByText
 refine za (za (wpAny_askSetting (zb ?_)));dsimp only;unfold newObj;exact za (wpAny_alloc (zb (h _)))
noncomputable def aw (n : Nat) : Nat := if n * 5 ≥ 21 then SetTable.sizeAbove (n * 2) - 1 else 7
noncomputable def dV (es : Array (Int × Value)) (laid : Option (SetTable × Array Nat)) : Sem (Array (Int × Value) × SetTable) := do
 let some (t, order) := laid | unsupported "internal:set-table-without-room"
 let es' := order.filterMap (es[·]?)
 if es'.size != es.size then unsupported "internal:set-table-lost-an-element"
 pure (es', t)
theorem mq (a : Addr) (wanted : Nat) : setRelay a wanted = (do
  let (es, _, t) ← setState a
  if SetTable.sizeAbove wanted > sizeLine then unsupported "set:memory"
  let (es, t) ← dV es (t.relaid (es.map (·.1)) wanted)
  storeSet a es t) := rfl
theorem ek {es : Array (Int × Value)} {t : SetTable} {order : Array Nat} {Q : Array (Int × Value) × SetTable → Shared → Prop} (hp : order.toList.Perm (List.range es.size))
  (h : ∀ es' : Array (Int × Value), es'.toList.Perm es.toList → es'.size = es.size → Q (es', t) s) : wpAny (model prog w) A (dV es (some (t, order))) Q E s := by
 have p := ln hp;have hz : (order.filterMap (es[·]?)).size = es.size := by rw [← xK, p.length_eq, xK]
 delta dV
 dsimp only;rw [if_neg (by simp [hz])];exact zb (h _ p hz)
theorem nR {led : Bool} {n : Nat} {Q : Unit → Shared → Prop} (hn : n ≤ 1000) (ha : s.heap.get? a = some (fz (.set #[] 0 (.fresh 0 0 led))))
  (h : ∀ h' ep t, Heap.SameBut a s.heap h' → h'.get? a = some (fz (.set #[] ep t)) → t.mask = aw n → t.place = #[] → t.dummies = #[] → Q () { s with heap := h' }) :
  wpAny (model prog w) A (setRoomFor a n) Q E s := by
 delta setRoomFor
 refine za (wpAny_setState_of ha rfl (by rfl) ?_);dsimp only
 delta SetTable.roomFor
 have e1 : ((SetTable.fresh 0 0 led).fill + n) * 5 ≥ (SetTable.fresh 0 0 led).mask * 3 ↔ n * 5 ≥ 21 := by
  show (0 + 0 + n) * 5 ≥ 7 * 3 ↔ _;lia
 by_cases hq : n * 5 ≥ 21
 ·rw [if_pos (e1.mpr hq)];dsimp only;rw [mq];refine za (wpAny_setState_of ha rfl (by rfl) ?_);dsimp only;have hw : ((SetTable.fresh 0 0 led).place.size + n) * 2 = n * 2 := by show (0 + n) * 2 = _; lia
  rw [hw];rw [if_neg (by
   have : SetTable.sizeAbove (n * 2) ≤ sizeLine := by
    have key : ∀ fuel size, size ≤ 4096 → SetTable.sizeAbove.go (n * 2) fuel size ≤ 4096 := by
     intro fuel
     induction fuel with
     | zero => intro size hs; exact hs
     | succ f ih =>
      intro size hs;show (if size ≤ n * 2 then SetTable.sizeAbove.go (n * 2) f (size * 2) else size) ≤ 4096;split
      ·exact ih _ (yT (xH 2 (yT ‹_› (xH 2 hn))) (by decide))
      exact hs
    have := key 64 8 (yF _ _);have e : sizeLine = 16777216 := by decide
    delta SetTable.sizeAbove
    exact yT ‹_› (by decide)
   exact yO ‹_›)]
  have : ∃ t, (SetTable.fresh 0 0 led).relaid ((#[] : Array (Int × Value)).map (·.1)) (n * 2) = some (t, #[]) ∧ t.mask = SetTable.sizeAbove (n * 2) - 1 ∧ t.place = #[] ∧ t.dummies = #[] := by
   refine ⟨{ mask := SetTable.sizeAbove (n * 2) - 1, place := #[], dummies := #[], finger := 0, led := led, moves := (SetTable.fresh 0 0 led).movedTo (SetTable.sizeAbove (n * 2) - 1), plain := true }, ?_, rfl, rfl, rfl⟩
   delta SetTable.relaid SetTable.laid
   have hl : SetTable.layClean (SetTable.sizeAbove (n * 2) - 1) ((#[] : Array (Int × Value)).map (·.1)) = some (Array.replicate (SetTable.sizeAbove (n * 2) - 1 + 1) none) := by unfold SetTable.layClean; simp
   rw [hl];have hv : (List.range (SetTable.sizeAbove (n * 2) - 1 + 1)).filterMap (fun j => ((Array.replicate (SetTable.sizeAbove (n * 2) - 1 + 1) (none : Option Nat)).getD j none).map (j, ·)) = [] := by
    rw [List.filterMap_eq_nil_iff];intro j _;simp only [Array.getD_eq_getD_getElem?, Array.getElem?_replicate];split <;> rfl
   show (some (_, _) : Option (SetTable × Array Nat)) = _;rw [hv];rfl
  obtain ⟨t, e, m1, m2, m3⟩ := this;rw [e];refine za (ek (by simp) fun es' p hz => ?_);obtain rfl : es' = #[] := Array.eq_empty_of_size_eq_zero (by simpa using hz);dsimp only;refine dO ha (by decide) fun h' hs ho => ?_
  exact h h' _ t hs ho (by rw [m1]; unfold aw; rw [if_pos hq]) m2 m3
 rw [if_neg (fun q => hq (e1.mp q))];dsimp only;have e : s = { s with heap := s.heap } := by cases s; rfl
 refine zb ?_;rw [e];exact h s.heap 0 _ (Heap.SameBut.refl ..) ha (by unfold aw; rw [if_neg hq]; rfl) rfl rfl
end
end Mine
end
section
namespace Mine
open PySem PySem.W
variable {a : Addr} {es : Array (Int × Value)} {ep : Nat} {t : SetTable} {Q : Array (Int × Value) → Shared → Prop}
theorem ph {α : Type} (next : Nat → Nat) : ∀ (fuel k : Nat) (left : List α) (out : Array α), left.length ≤ fuel → (pickOrder.go next fuel k left out).toList.Perm (out.toList ++ left)
 | 0, k, left, out, h => by
  obtain rfl : left = [] := List.length_eq_zero_iff.mp (Nat.eq_zero_of_le_zero h);rw [yG];exact List.Perm.refl _
 | fuel + 1, k, left, out, h => by
  show (Array.toList (match left[next k % left.length]? with | some x => pickOrder.go next fuel (k + 1) (left.eraseIdx (next k % left.length)) (out.push x) | none => out)).Perm _;cases left with
  | nil =>
   simp only [List.length_nil, Nat.mod_zero, List.getElem?_nil, yG]; exact .rfl
  | cons y l =>
   have hlt : next k % (y :: l).length < (y :: l).length := Nat.mod_lt _ (by simp)
   obtain ⟨x, hx⟩ : ∃ x, (y :: l)[next k % (y :: l).length]? = some x := ⟨_, xg hlt⟩
   rw [hx];dsimp only;have hz : ((y :: l).eraseIdx (next k % (y :: l).length)).length ≤ fuel := by
    rw [List.length_eraseIdx_of_lt hlt]; exact yi ‹_›
   refine (ph next fuel (k + 1) _ _ hz).trans ?_;rw [Array.toList_push, yf];refine List.Perm.append_left _ ?_;generalize next k % (y :: l).length = j at *
   obtain ⟨l1, l2, e, hl⟩ := mi hx;rw [e, ← hl, List.eraseIdx_append_of_length_le (z6 _), z5];simp only [List.eraseIdx_cons_zero];show (x :: (l1 ++ l2)).Perm _;exact List.perm_middle.symm
theorem q8 {α : Type} (next : Nat → Nat) (xs : Array α) : (pickOrder next xs).toList.Perm xs.toList := by
 delta pickOrder
 have := ph next xs.size 0 xs.toList #[] (by simp)
 simpa using this
section
variable {prog : Program} {w : World} {A : Around} {E : Value → Shared → Prop} {s : Shared}
structure FAt (prog : Program) (w : World) (h : Heap) (a : Addr) (es : Array (Int × Value)) (ep : Nat) (t : SetTable) : Prop where
 ob : h.get? a = some (fz (.set es ep t))
 el : ElemsOf (strKind prog w) es.toList
 fits : t.fits es.size = true
theorem FAt.keep {h h' : Heap} (F : FAt prog w h a es ep t) (k : ∀ o, h.get? a = some o → h'.get? a = some o) : FAt prog w h' a es ep t := ⟨k _ F.ob, F.el, F.fits⟩
theorem FAt.state {Q : (Array (Int × Value) × Nat × SetTable) → Shared → Prop} (F : FAt prog w s.heap a es ep t) (h : Q (es, ep, t) s) :
  wpAny (model prog w) A (setState a) Q E s := wpAny_setState_of F.ob rfl F.fits h
theorem FAt.entries (F : FAt prog w s.heap a es ep t) (h : Q es s) :
  wpAny (model prog w) A (setEntries a) Q E s := wpAny_setEntries_of F.ob rfl F.fits h
theorem FAt.epoch {Q : Nat → Shared → Prop} (F : FAt prog w s.heap a es ep t) (h : Q ep s) :
  wpAny (model prog w) A (setEpoch a) Q E s := wpAny_setEpoch_of F.ob rfl F.fits h
theorem sa {k : Str} {v : Value} (h : (strKind prog w).is k v = true) : ∃ t, v = .str k t := by
 cases v <;> simp [strKind, Value.isStrOf] at h;subst h; exact ⟨_, rfl⟩
theorem nM {Q : Bool → Shared → Prop} (sets : List Addr) (hs : ∀ a ∈ sets, ∃ es ep t, FAt prog w s.heap a es ep t) (h : Q true s) : wpAny (model prog w) A (setsQuiet sets) Q E s := by
 delta setsQuiet
 refine za (wpAny_forIn_list _ (fun rest b s' => b = (none, ()) ∧ s' = s ∧ ∀ a ∈ rest, a ∈ sets) _ ?_ ?_ sets _ ⟨rfl, rfl, fun _ h => h⟩)
 ·rintro a rest b s' ⟨rfl, rfl, hm⟩;obtain ⟨es, ep, t, F⟩ := hs a (hm a (xT ..));refine za (F.entries ?_);refine za (wpAny_forIn_array' _ (fun rest b s'' => b = (none, ()) ∧ s'' = s' ∧ ∀ e ∈ rest, e ∈ es.toList) _ ?_ ?_ es _ ⟨rfl, rfl, fun _ h => h⟩)
  ·rintro e rest' b s'' ⟨rfl, rfl, hm'⟩;obtain ⟨⟨k, hk, _⟩, _⟩ := F.el e (hm' e (xT ..));obtain ⟨h0, v⟩ := e;obtain ⟨tk, rfl⟩ := sa hk;dsimp only;exact zb ⟨rfl, rfl, fun e he => hm' e (xC _ he)⟩
  rintro b s'' ⟨rfl, rfl, _⟩;dsimp only;exact zb ⟨rfl, rfl, fun x hx => hm x (xC _ hx)⟩
 rintro b s' ⟨rfl, rfl, _⟩;dsimp only;exact zb h
theorem mn (F : FAt prog w s.heap a es ep t)
  (hq : w.params.followText "set-order" = true ∨ (t.led = true ∧ t.plain = true) ∨ es.size ≤ 1)
  (h : ∀ es' : Array (Int × Value), es'.toList.Perm es.toList → Q es' s) : wpAny (model prog w) A (setWalk a) Q E s := by
 delta setWalk
 refine za (F.state ?_);dsimp only
 delta setsByText
 refine za (za (wpAny_askSetting (zb ?_)));show wpAny _ _ (if w.params.followText "set-order" = true then _ else _) _ _ _;cases hb : w.params.followText "set-order" with
 | true =>
  refine wpAny_ite_true rfl ?_;refine za (wpAny_askSetting ?_);exact zb (h _ (q8 _ _))
 | false =>
  rw [hb] at hq;simp only [ya, if_false, false_or] at hq ⊢;show wpAny _ _ (if (!t.plain && decide (es.size > 1)) = true then _ else _) _ _ _;have e1 : (!t.plain && decide (es.size > 1)) = false := by
   rcases hq with ⟨_, hp⟩ | hz
   ·rw [hp]; rfl
   rw [show decide (es.size > 1) = false from decide_eq_false (yO ‹_›), Bool.and_false]
  rw [e1];refine wpAny_ite_false rfl ?_;have e2 : (!t.led && decide (es.size > 1)) = false := by
   rcases hq with ⟨hl, _⟩ | hz
   ·rw [hl]; rfl
   rw [show decide (es.size > 1) = false from decide_eq_false (yO ‹_›), Bool.and_false]
  refine za ?_;show wpAny _ _ (if (!t.led && decide (es.size > 1)) = true then _ else _) _ _ _;rw [e2];refine wpAny_ite_false rfl ?_;exact zb (zb (h es .rfl))
theorem m6 {others : List Addr} (F : FAt prog w s.heap a es ep t)
  (ho : ∀ b ∈ others, ∃ es ep t, FAt prog w s.heap b es ep t)
  (h : ∀ es' : Array (Int × Value), es'.toList.Perm es.toList → Q es' s) : wpAny (model prog w) A (setWalkUnseen a others none) Q E s := by
 delta setWalkUnseen
 refine za (F.state ?_);dsimp only
 delta setsByText
 refine za (za (wpAny_askSetting (zb ?_)));show wpAny _ _ (if (w.params.followText "set-order" || t.led && t.plain || decide (es.size ≤ 1)) = true then _ else _) _ _ _;split
 ·rename_i hq;refine mn F ?_ h;simp only [Bool.or_eq_true, yu, yh] at hq;rcases hq with (hq | hq) | hq
  ·exact .inl hq
  ·exact .inr (.inl hq)
  exact .inr (.inr hq)
 refine za (nM (a :: others) (fun b hb => ?_) ?_)
 ·rcases yy hb with rfl | hb
  ·exact ⟨_, _, _, F⟩
  exact ho b hb
 refine wpAny_ite_false rfl ?_;exact za (wpAny_rule (zb (h es .rfl)))
theorem qI {others : List Addr} {f : Option Addr} (F : FAt prog w s.heap a es ep t) (hz : es.size ≤ 1)
  (h : ∀ es' : Array (Int × Value), es'.toList.Perm es.toList → Q es' s) : wpAny (model prog w) A (setWalkUnseen a others f) Q E s := by
 delta setWalkUnseen
 refine za (F.state ?_);dsimp only
 delta setsByText
 refine za (za (wpAny_askSetting (zb ?_)));show wpAny _ _ (if (w.params.followText "set-order" || t.led && t.plain || decide (es.size ≤ 1)) = true then _ else _) _ _ _;rw [if_pos (by rw [decide_eq_true hz, Bool.or_true])];exact mn F (.inr (.inr hz)) h
theorem iq (a b : Addr) (each : Sem Unit) : setMerge a b each = (if (a == b) = true then pure () else do
  let (eo, epoch, to) ← setState b
  if eo.isEmpty = true then pure () else do
   setRoomFor a eo.size
   let (_, _, ts) ← setState a
   match ts.road to with
   | .slotForSlot => storeSet a eo { to with finger := ts.finger, led := ts.led && to.led, moves := ts.moves, plain := ts.plain && to.plain }
   | .clean =>
    let (es, t) ← dV eo (SetTable.laid ts.mask ts.finger ts.moves (led := ts.led && to.led) (plain := ts.plain && to.plain) (eo.map (·.1)))
    storeSet a es t
   | .oneByOne =>
    for (h, x) in ← setWalkUnseen b [a] (some a) do
     let _ ← holding [x] (setAddHashed a x h)
     each
     if (← setState b).2.1 != epoch then unsupported "set.changed-during-merge") := rfl
theorem o0 {b : Addr} {led : Bool} {each : Sem Unit} {Q : Unit → Shared → Prop} (hab : a ≠ b)
  (ha : s.heap.get? a = some (fz (.set #[] 0 (.fresh 0 0 led)))) (F : FAt prog w s.heap b es ep t) (h1 : 1 ≤ es.size) (h2 : es.size ≤ 1000)
  (C : cG (aw es.size)) (hM : es.size ≤ aw es.size)
  (h : ∀ h' es' ep' t', Heap.SameBut a s.heap h' → FAt prog w h' a es' ep' t' → es'.toList.Perm es.toList → t'.mask = aw es.size → t'.dummies = #[] → t'.place.size = es.size → Q () { s with heap := h' }) :
  wpAny (model prog w) A (setMerge a b each) Q E s := by
 rw [iq, if_neg (by simpa using hab)];refine za (F.state ?_);dsimp only;rw [if_neg (by rw [Array.isEmpty_iff]; rintro rfl; simp at h1)];refine za (nR h2 ha fun h1' ep1 t1 hs1 ho1 hm hp hd => ?_);have F1 : FAt prog w h1' b es ep t := F.keep fun o e => (hs1.2 b (Ne.symm hab)).trans e
 have hf1 : t1.fits 0 = true := by
  delta SetTable.fits SetTable.fill
  rw [hp, hd]; simp
 refine za (wpAny_setState_of (s := { s with heap := h1' }) ho1 rfl hf1 ?_);dsimp only;have hscan : es.size < scanBound := by have : scanBound = 4096 := rfl; exact this ▸ xV h2 (by decide)
 have hfill : t1.fill = 0 := by unfold SetTable.fill; rw [hp, hd]; rfl
 delta SetTable.road
 rw [hfill];simp only [bne_self_eq_false, ya, if_false];have tfits : t.place.size = es.size := by
  have := F.fits;unfold SetTable.fits at this;simp only [yu, zk] at this;exact this.1
 cases hq : (t1.mask == t.mask && t.dummies.isEmpty) with
 | true =>
  simp only [if_true];simp only [yu, zk] at hq;obtain ⟨q1, q2⟩ := hq;have hdum : t.dummies = #[] := by simpa using q2
  refine dO (s := { s with heap := h1' }) ho1 hscan fun h' hs ho => ?_
  exact h h' es _ _ (hs1.trans hs) ⟨ho, F.el, F.fits⟩ .rfl (by show t.mask = _; rw [← q1]; exact hm) hdum tfits
 | false =>
  simp only [ya, if_false];rw [hm];obtain ⟨t', order, e, m1, m2, m3, m4⟩ := ut (f := t1.finger) (mv := t1.moves) (led := t1.led && t.led) (pl := t1.plain && t.plain) C (hashes := es.map (·.1)) (by simpa using hM);rw [e];refine za (ek (by simpa using m4) fun es' p hz => ?_);dsimp only;refine dO (s := { s with heap := h1' }) ho1 (by rw [hz]; exact hscan) fun h' hs ho => ?_
  have hp' : t'.place.size = es.size := by simpa using m3
  refine h h' es' _ t' (hs1.trans hs) ⟨ho, F.el.perm p, ?_⟩ p m1 m2 hp'
  delta SetTable.fits SetTable.fill
  rw [hz, hp', m2, m1];simp;exact hM
end
end Mine
end
section
namespace Mine
open PySem PySem.W PySem.Calls
section
variable {prog : Program} {w : World} {A : Around} {E : Value → Shared → Prop} {s : Shared}
variable {a b : Addr} {es es' : Array (Int × Value)} {t t' : SetTable} {ep ep' : Nat} {h : Heap} {Q : Unit → Shared → Prop}
noncomputable def ck (es : Array (Int × Value)) : Str → Bool := fun k => es.toList.any fun e => e.2.isStrOf k
theorem is_eq (k : Str) (v : Value) : (strKind prog w).is k v = v.isStrOf k := rfl
theorem gU (es : Array (Int × Value)) (k : Str) : ck es k = true ↔ ∃ e ∈ es.toList, (strKind prog w).is k e.2 = true := by
 unfold ck; rw [List.any_eq_true]; rfl
theorem FAt.set (F : FAt prog w h a es ep t) (hb : es.size < scanBound) : cR prog w h a (ck es) es.size :=
 ⟨es, ep, t, F.ob, F.el, gU es, hb, F.fits, rfl⟩
theorem cR.fat {S : Str → Bool} {n : Nat} (F : cR prog w h a S n) : ∃ es ep t, FAt prog w h a es ep t ∧ es.size = n ∧ ∀ k, ck es k = S k := by
 obtain ⟨es, ep, t, ho, hel, hm, hb, hf, hn⟩ := F;refine ⟨es, ep, t, ⟨ho, hel, hf⟩, hn, fun k => ?_⟩;rw [yH, hm k]; exact gU es k
theorem fN (p : es'.toList.Perm es.toList) (k : Str) : ck es' k = ck es k := by
 unfold ck; rw [yH, List.any_eq_true, List.any_eq_true];exact ⟨fun ⟨e, he, q⟩ => ⟨e, p.mem_iff.mp he, q⟩, fun ⟨e, he, q⟩ => ⟨e, p.mem_iff.mpr he, q⟩⟩
theorem al {o : Obj} (e : h.get? a = some o) : a < h.objs.size := by
 rcases z0 a h.objs.size with q | q
 ·exact q
 have : h.objs[a]? = none := Array.getElem?_eq_none q;simp [Heap.get?, this] at e
theorem rE {α : Type} {l : List α} (h : l.length = 1) : ∃ x, l = [x] := List.length_eq_one_iff.mp h
theorem qk {each : Sem Unit} {x : Str} (hab : a ≠ b)
  (Fa : FAt prog w s.heap a es ep t) (Fb : FAt prog w s.heap b es' ep' t') (hz : es'.size = 1) (hx : ck es' x = true) (hroom : (t.fill + 1) * 5 < t.mask * 3) (hfill : t.fill ≠ 0) (hb : es.size + 1 < scanBound)
  (heach : ∀ (s1 : Shared) (Q' : Unit → Shared → Prop), s1.heap.get? b = s.heap.get? b → Q' () s1 → wpAny (model prog w) A each Q' E s1)
  (h : ∀ h', Heap.SameBut a s.heap h' → cR prog w h' a (fun k => ck es k || decide (k = x)) (if ck es x then es.size else es.size + 1) → Q () { s with heap := h' }) :
  wpAny (model prog w) A (setMerge a b each) Q E s := by
 rw [iq, if_neg (by simpa using hab)];refine za (Fb.state ?_);dsimp only;rw [if_neg (by rw [Array.isEmpty_iff]; rintro rfl; simp at hz)];refine za ?_
 delta setRoomFor
 refine za (Fa.state ?_);dsimp only
 delta SetTable.roomFor
 rw [hz, if_neg (Nat.not_le.mpr ‹_›)];dsimp only;refine zb ?_;refine za (Fa.state ?_);dsimp only
 delta SetTable.road
 rw [if_pos (by simpa using hfill)];dsimp only;refine za (qI Fb (yV ‹_›) fun es2 p => ?_);obtain ⟨⟨h0, v⟩, e0⟩ := rE (l := es'.toList) (by simpa using hz);have e2 : es2.toList = [(h0, v)] := by rw [e0] at p; exact List.perm_singleton.mp p
 obtain ⟨⟨k, hk, hh⟩, hsc⟩ := Fb.el (h0, v) (by rw [e0]; exact List.mem_singleton.mpr rfl);have hkx : k = x := by
  unfold ck at hx; rw [e0] at hx;simp only [List.any_cons, List.any_nil, Bool.or_false] at hx;obtain ⟨tk, ev⟩ := sa hk;cases ev;have := hk; rw [is_eq] at this;simp [Value.isStrOf] at hx;exact hx
 subst hkx;refine za (wpAny_forIn_array' _ (fun rest _ s' => (rest = [(h0, v)] ∧ s' = s) ∨ (rest = [] ∧ ∃ h', s' = { s with heap := h' } ∧ Heap.SameBut a s.heap h' ∧ cR prog w h' a (fun k' => ck es k' || decide (k' = k)) (if ck es k then es.size else es.size + 1))) _ ?_ ?_ es2 _ (.inl ⟨e2, rfl⟩))
 ·rintro ⟨h1, v1⟩ rest u s' (⟨e, rfl⟩ | ⟨e, _⟩)
  ·cases e;dsimp only at hh hsc hk ⊢;rw [hh];refine za (yP (gx hk hsc (Fa.set (yU ‹_›)) hb fun h' hs F => ?_));refine za (heach _ _ (hs.2 b (Ne.symm hab)) ?_);have Fb' : FAt prog w h' b es' ep' t' := Fb.keep fun o e => (hs.2 b (Ne.symm hab)).trans e
   refine za (Fb'.state (s := { s' with heap := h' }) ?_);dsimp only;rw [if_neg (by simp)];exact zb (.inr ⟨rfl, h', rfl, hs, F⟩)
  cases e
 rintro u s' (⟨e, _⟩ | ⟨_, h', rfl, hs, F⟩)
 ·cases e
 exact zb (h h' hs F)
theorem pH {Q : Value → Shared → Prop} (F : FAt prog w s.heap a es ep t) (h1 : 1 ≤ es.size) (h2 : es.size ≤ 1000)
  (C : cG (aw es.size)) (hM : es.size ≤ aw es.size)
  (h : ∀ h' es' ep' t', h'.objs.size = s.heap.objs.size + 1 → (∀ b o, s.heap.get? b = some o → h'.get? b = some o) → FAt prog w h' s.heap.objs.size es' ep' t' → es'.toList.Perm es.toList →
   t'.mask = aw es.size → t'.dummies = #[] → t'.place.size = es.size → Q (.ref s.heap.objs.size) { s with heap := h' }) :
  wpAny (model prog w) A (Builtin.Frozenset.copyOf a) Q E s := by
 delta Builtin.Frozenset.copyOf
 refine za (qr F.ob ?_);refine za (vF fun led => ?_);refine za (zb ?_);have hlt := al F.ob;have keep : ∀ b o, s.heap.get? b = some o → (s.heap.push (fz (.set #[] 0 (.fresh 0 0 led)))).get? b = some o := fun b o e => xo _ e
 refine za (o0 (led := led) (s := { s with heap := s.heap.push _ }) (yY hlt) (xL _ rfl) (F.keep fun o e => keep a o e) h1 h2 C hM fun h' es' ep' t' hs F' p m1 m2 m3 => ?_);refine zb (h h' es' ep' t' (by rw [hs.1, yM]) (fun b o e => ?_) F' p m1 m2 m3);exact (hs.2 b (yZ (al e))).trans (keep b o e)
theorem g8 {id : String} (F : FAt prog w s.heap b es ep t) (h : Q () s) :
  wpAny (model prog w) A (Builtin.Frozenset.unchanged id b ep) Q E s := by
 delta Builtin.Frozenset.unchanged
 refine za (F.epoch ?_);rw [if_neg (by simp)];exact zb h
theorem fR : entryFor table "frozenset.__or__" = some Builtin.«frozenset.__or__» := entryFor_of_tree (by kernel_rfl)
theorem fp : entryFor table "frozenset.__sub__" = some Builtin.«frozenset.__sub__» := entryFor_of_tree (by kernel_rfl)
theorem fH : plainId "frozenset.__or__" = true := by decide +kernel
theorem fj : plainId "frozenset.__sub__" = true := by decide +kernel
theorem or_eq (a b : Addr) : Builtin.«frozenset.__or__» ⟨[.ref a, .ref b], []⟩ = (do
  if !(← (Builtin.Frozenset.isAnySet (.ref a) <&&> Builtin.Frozenset.isAnySet (.ref b))) then rule s!"frozenset.{"__or__"}.declined"; return ← ret .notImplemented
  let x ← (do
   let result ← Builtin.Frozenset.copyOf a
   if (Value.ref b) != .ref a then holding [result] (Builtin.Frozenset.updateFrom s!"frozenset.{"__or__"}" (← Builtin.Frozenset.addrOf result) (.ref b))
   return result)
  ret x) := rfl
theorem vc (a b : Addr) : Builtin.«frozenset.__sub__» ⟨[.ref a, .ref b], []⟩ = (do
  if !(← (Builtin.Frozenset.isAnySet (.ref a) <&&> Builtin.Frozenset.isAnySet (.ref b))) then rule s!"frozenset.{"__sub__"}.declined"; return ← ret .notImplemented
  ret (← Builtin.Frozenset.difference s!"frozenset.{"__sub__"}" a (.ref b))) := rfl
theorem uc (h : a ≠ b) : (Value.ref b != Value.ref a) = true := by
 simpa using Ne.symm h
theorem fz_or {x : Str} {R : Result → Shared → Prop} (hab : a ≠ b)
  (Fa : FAt prog w s.heap a es ep t) (Fb : FAt prog w s.heap b es' ep' t') (h1 : 1 ≤ es.size) (h2 : es.size ≤ 1000)
  (C : cG (aw es.size)) (hM : es.size ≤ aw es.size) (hroom : (es.size + 1) * 5 < aw es.size * 3) (hz : es'.size = 1) (hx : ck es' x = true)
  (h : ∀ h', h'.objs.size = s.heap.objs.size + 1 → (∀ b o, s.heap.get? b = some o → h'.get? b = some o) → cR prog w h' s.heap.objs.size (fun k => ck es k || decide (k = x)) (if ck es x then es.size else es.size + 1) →
   R (.ok (.ret (.ref s.heap.objs.size))) { s with heap := h' }) :
  codeAny (model prog w) A (.builtin "frozenset.__or__" ⟨[.ref a, .ref b], []⟩) R s := by
 refine codeAny_builtin fR ?_;rw [xD fH _, or_eq];refine za (za (cC Fa.ob ?_));show wpAny _ _ (Builtin.Frozenset.isAnySet (.ref b)) _ _ _;refine cC Fb.ob ?_;refine wpAny_ite_false rfl ?_;refine za (za (pH Fa h1 h2 C hM fun h1' es1 ep1 t1 hs1 k1 F1 p1 m1 m2 m3 => ?_));have hlb := al Fb.ob;have hla := al Fa.ob;rw [if_pos (uc hab)];refine za (zb ?_);refine za (yP ?_)
 delta Builtin.Frozenset.updateFrom
 have Fb1 : FAt prog w h1' b es' ep' t' := Fb.keep fun o e => k1 b o e
 refine za (cC (s := { s with heap := h1' }) Fb1.ob ?_);refine wpAny_ite_true rfl ?_;refine za (za (zb ?_));refine zb ?_
 delta Builtin.Frozenset.merge
 refine za (Fb1.epoch (s := { s with heap := h1' }) ?_);have hz1 : es1.size = es.size := by rw [← xK, p1.length_eq, xK]
 have hf1 : t1.fill = es.size := by unfold SetTable.fill; rw [m2, m3]; rfl
 refine qk (s := { s with heap := h1' }) (yY hlb) F1 Fb1 hz hx (by rw [hf1, m1]; exact hroom) (by exact hf1 ▸ yY h1) (by rw [hz1]; have : scanBound = 4096 := rfl; exact this ▸ xV (yt h2) (by decide)) (fun s1 Q' e hq => g8 (es := es') (t := t') ⟨e.trans Fb1.ob, Fb1.el, Fb1.fits⟩ hq) fun h' hs F => ?_
 refine zb (zb ?_);refine h h' (by rw [hs.1]; exact hs1) (fun c o e => ?_) (F.congr (fun k => by rw [fN p1]) (by rw [fN p1, hz1]));exact (hs.2 c (yZ (al e))).trans (k1 c o e)
theorem qu {i : Nat} (hf : t.fits es.size = true) : (t.drop i).fits (SetTable.eraseAt es i).size = true ∧ (t.drop i).mask = t.mask ∧ (t.drop i).dummies.size ≤ t.dummies.size + 1 := by
 delta SetTable.fits SetTable.fill at *
 simp only [yu, zk, yh] at hf ⊢;obtain ⟨h1, h2⟩ := hf
 delta SetTable.drop
 cases hp : t.place[i]? with
 | none =>
  have : t.place.size ≤ i := Array.getElem?_eq_none_iff.mp hp;dsimp only;refine ⟨⟨?_, h2⟩, rfl, z8 _⟩
  delta SetTable.eraseAt
  simp only [Array.size_append, Array.size_extract]; exact h1.trans (sO (h1 ▸ this))
 | some j =>
  have : i < t.place.size := by
   rcases z0 i t.place.size with q | q
   ·exact q
   rw [Array.getElem?_eq_none q] at hp; cases hp
  dsimp only;have e : (SetTable.insertAt t.dummies (SetTable.below t.dummies j) j).size = t.dummies.size + 1 := by
   rw [← xK, (SetTable.insertAt_perm _ _ _).length_eq]; simp
  rw [e]
  delta SetTable.eraseAt
  simp only [Array.size_append, Array.size_extract];refine ⟨⟨by exact h1 ▸ rfl, by exact sW h2 this⟩, trivial, by exact yq _⟩
theorem qx (es : Array (Int × Value)) (i : Nat) : ∀ e ∈ (SetTable.eraseAt es i).toList, e ∈ es.toList := by
 intro e he
 delta SetTable.eraseAt at he
 rw [xO, yD, Array.toList_extract, Array.toList_extract, List.extract_eq_take_drop, List.extract_eq_take_drop] at he;rcases he with he | he
 ·exact List.mem_of_mem_drop (xG he)
 exact List.mem_of_mem_drop (xG he)
theorem oG (es : Array (Int × Value)) (i : Nat) : (SetTable.eraseAt es i).size ≤ es.size := by
 delta SetTable.eraseAt
 simp only [Array.size_append, Array.size_extract]; exact sN
theorem oC {k : Str} {x : Value} {Q : Bool → Shared → Prop} (hkey : (strKind prog w).is k x = true) (hsc : x.scannable = true)
  (F : FAt prog w s.heap a es ep t) (hb : es.size < scanBound)
  (h : ∀ h' r es' ep' t', Heap.SameBut a s.heap h' → FAt prog w h' a es' ep' t' → (∀ e ∈ es'.toList, e ∈ es.toList) → es'.size ≤ es.size → t'.mask = t.mask → t'.dummies.size ≤ t.dummies.size + 1 → Q r { s with heap := h' }) :
  wpAny (model prog w) A (setDiscardHashed a x ((strKind prog w).hash k)) Q E s := by
 delta setDiscardHashed
 refine za (setFind_any hkey hsc F.ob rfl F.el (gU es) hb F.fits fun r _ => ?_);cases r with
 | none =>
  have e : s = { s with heap := s.heap } := by cases s; rfl
  refine zb ?_;rw [e];exact h s.heap _ es ep t (Heap.SameBut.refl ..) F (fun _ h => h) (z6 _) rfl (z8 _)
 | some i =>
  dsimp only;refine za (F.state ?_);dsimp only;obtain ⟨q1, q2, q3⟩ := qu (i := i) F.fits;have q4 := qx es i;have q5 := oG es i;refine za (dO F.ob (xV ‹_› ‹_›) fun h' hs ho => ?_);refine za (wpAny_point (zb ?_));exact h h' _ _ _ _ hs ⟨ho, fun e he => F.el e (q4 e he), q1⟩ q4 q5 q2 q3
theorem ud (h : a ≠ b) : (Value.ref b == Value.ref a) = false := by
 simpa using Ne.symm h
inductive DuJ (prog : Program) (w : World) (s : Shared) (a : Addr) (es es' : Array (Int × Value)) (t : SetTable) (rest : List (Int × Value)) (s' : Shared) : Prop
 | mk (h1 : Heap) (es1 : Array (Int × Value)) (ep1 : Nat) (t1 : SetTable) (e : s' = { s with heap := h1 }) (hs : Heap.SameBut a s.heap h1) (F : FAt prog w h1 a es1 ep1 t1) (sub : ∀ e ∈ es1.toList, e ∈ es.toList) (z : es1.size ≤ es.size) (m : t1.mask = t.mask) (d : t1.dummies.size + rest.length ≤ es'.size) (r : ∀ e ∈ rest, e ∈ es'.toList)
theorem jY {id : String} (hab : a ≠ b)
  (Fa : FAt prog w s.heap a es ep t) (Fb : FAt prog w s.heap b es' ep' t') (hd : t.dummies = #[]) (hm : es'.size ≤ t.mask / 4) (hb : es.size < scanBound) (hz : es'.size / 8 ≤ es.size)
  (h : ∀ h' es2 ep2 t2, Heap.SameBut a s.heap h' → FAt prog w h' a es2 ep2 t2 → (∀ e ∈ es2.toList, e ∈ es.toList) → es2.size ≤ es.size → Q () { s with heap := h' }) :
  wpAny (model prog w) A (Builtin.Frozenset.differenceUpdate id a (.ref b)) Q E s := by
 delta Builtin.Frozenset.differenceUpdate
 refine wpAny_ite_false (decide_eq_false fun h => xS ((ud hab).symm.trans h)) ?_;refine za (cC Fb.ob ?_);refine wpAny_ite_true rfl ?_;refine za (zb ?_);refine za (za (Fb.entries (zb ?_)));refine za (za (Fa.entries (zb ?_)));rw [if_neg (yO ‹_›)];refine za (Fb.epoch ?_);refine za (yP ?_);refine za (m6 (others := [a]) Fb (fun c hc => ?_) fun es3 p => ?_)
 ·cases List.mem_singleton.mp hc; exact ⟨_, _, _, Fa⟩
 refine za (wpAny_forIn_array' _ (fun rest _ s' => DuJ prog w s a es es' t rest s') _ ?_ ?_ es3 _
  ⟨s.heap, es, ep, t, rfl, Heap.SameBut.refl .., Fa, fun _ h => h, z6 _, rfl, by rw [hd, p.length_eq]; simp, fun e he => p.mem_iff.mp he⟩)
 ·rintro ⟨h0, v⟩ rest u s' ⟨h1, es1, ep1, t1, rfl, hs1, F1, sub1, z1, m1, d1, r1⟩;obtain ⟨⟨k, hk, hh⟩, hsc⟩ := Fb.el (h0, v) (r1 _ (xT ..));dsimp only at hk hh hsc ⊢;rw [hh];refine za (yP (oC (s := { s with heap := h1 }) hk hsc F1 (xV ‹_› ‹_›) fun h2 r es2 ep2 t2 hs2 F2 sub2 z2 m2 d2 => ?_));have Fb2 : FAt prog w h2 b es' ep' t' := Fb.keep fun o e => (hs2.2 b (Ne.symm hab)).trans ((hs1.2 b (Ne.symm hab)).trans e)
  refine za (g8 (s := { s with heap := h2 }) Fb2 (zb ?_));rw [ym] at d1;exact ⟨h2, es2, ep2, t2, rfl, hs1.trans hs2, F2, fun e he => sub1 e (sub2 e he), by exact yT ‹_› ‹_›, m2.trans m1, by exact yT (Nat.add_le_add_right d2 _) (yT (yV (xW _ 1 _)) d1), fun e he => r1 e (xC _ he)⟩
 rintro u s' ⟨h1, es1, ep1, t1, rfl, hs1, F1, sub1, z1, m1, d1, _⟩;refine zb ?_
 delta setTidy
 refine za (F1.state (s := { s with heap := h1 }) ?_);dsimp only
 delta SetTable.tooManyDummies
 rw [if_neg (by rw [m1]; simp at d1 ⊢; exact yT ‹_› ‹_›)];exact zb (h h1 es1 ep1 t1 hs1 F1 sub1 z1)
theorem vE {R : Result → Shared → Prop}
  (Fa : FAt prog w s.heap a es ep t) (Fb : FAt prog w s.heap b es' ep' t') (h1 : 1 ≤ es.size) (h2 : es.size ≤ 1000)
  (C : cG (aw es.size)) (hM : es.size ≤ aw es.size) (hz : es'.size < es.size / 4) (hm : es'.size ≤ aw es.size / 4)
  (h : ∀ h' S n, h'.objs.size = s.heap.objs.size + 1 → (∀ b o, s.heap.get? b = some o → h'.get? b = some o) → cR prog w h' s.heap.objs.size S n → n ≤ es.size → (∀ k, S k = true → ck es k = true) →
   R (.ok (.ret (.ref s.heap.objs.size))) { s with heap := h' }) :
  codeAny (model prog w) A (.builtin "frozenset.__sub__" ⟨[.ref a, .ref b], []⟩) R s := by
 refine codeAny_builtin fp ?_;rw [xD fj _, vc];refine za (za (cC Fa.ob ?_));show wpAny _ _ (Builtin.Frozenset.isAnySet (.ref b)) _ _ _;refine cC Fb.ob ?_;refine wpAny_ite_false rfl ?_;have hlb := al Fb.ob;have sb : scanBound = 4096 := rfl
 delta Builtin.Frozenset.difference
 refine za ?_;refine za (cC Fb.ob ?_);refine wpAny_ite_false rfl ?_;refine za (zb ?_);simp only [if_true];refine za (za (Fb.entries (zb ?_)));refine za (za (Fa.entries (zb ?_)));rw [if_pos ‹_›];refine za (wpAny_rule ?_);refine za (pH Fa h1 h2 C hM fun h1' es1 ep1 t1 hs1 k1 F1 p1 m1 m2 m3 => ?_);have Fb1 : FAt prog w h1' b es' ep' t' := Fb.keep fun o e => k1 b o e
 have hz1 : es1.size = es.size := by rw [← xK, p1.length_eq, xK]
 refine za (zb ?_);refine za (yP ?_);refine jY (s := { s with heap := h1' }) (yY hlb) F1 Fb1 m2 (by rw [m1]; exact hm) (by exact sb ▸ xV (hz1 ▸ h2) (by decide)) (yT (Nat.div_le_self ..) (yU (xU hz (yT (Nat.div_le_self ..) (yV hz1.symm))))) fun h' es2 ep2 t2 hs F2 sub2 z2 => ?_
 refine zb (zb ?_);refine h h' _ _ (by rw [hs.1]; exact hs1) (fun c o e => (hs.2 c (yZ (al e))).trans (k1 c o e)) (F2.set (by exact sb ▸ xV (yT z2 (hz1 ▸ h2)) (by decide))) (by exact hz1 ▸ z2) fun k hk => ?_
 rw [← fN p1];unfold ck at hk ⊢;rw [List.any_eq_true] at hk ⊢;obtain ⟨e, he, q⟩ := hk;exact ⟨e, sub2 e he, q⟩
end
end Mine
end
section
namespace Mine
open PySem PySem.W
structure Fl where
 d : Data
 dt : Nat → Data × Pos
 os : Nat → Obj
 tk : Nat
inductive HS where
 | gen
 | loop (S I : Nat)
 | bin (a b : Nat)
noncomputable def t0 : Option Value → Flow
 | none => .next
 | some v => .ret v
noncomputable def kL (w : World) (Γ : Ctx) (p : Pos) (σ : TS) : Out :=
 sim DQ pw w.params cm 100000 Γ (pyNext (.ref 57) >>= fun o => pure (Fin.done (t0 o))) p σ mN
noncomputable def eI (w : World) (Γ : Ctx) : Pos → List (Data × Pos) → TS → List (Option (List Nat) × Option Obj) × TS
 | p, [], σ => match kL w Γ p σ with
  | .done (.ok .next) σ' => ([(none, σ'.T.get 58)], σ')
  | _ => ([], σ)
 | p, (d, p') :: ds, σ => match kL w Γ p σ with
  | .done (.ok (.ret (.str x _))) σ' =>
   ((some x.cps.toList, σ'.T.get 58) :: (eI w Γ p' ds ⟨σ'.T.set 58 fun _ => fz d, σ'.n, σ'.tk + 1, σ'.g⟩).1, (eI w Γ p' ds ⟨σ'.T.set 58 fun _ => fz d, σ'.n, σ'.tk + 1, σ'.g⟩).2)
  | _ => ([], σ)
noncomputable def iN : Nat → Data → List (Data × Pos) → List (Option (List Nat) × Option Obj)
 | _, d, [] => [(none, some (fz d))]
 | i, d, (d', _) :: ds => (some [i], some (fz d)) :: iN (i + 1) d' ds
noncomputable def HS.fill (w : World) (Γ : Ctx) (p : Pos) (f : Fl) (σ : TS) : HS → TS
 | .gen => (eI w Γ p ((List.range 32).map f.dt) σ).2
 | .loop S I => ⟨(((σ.T.set S fun _ => fz f.d).set I fun _ => f.os I).ins σ.n (f.os σ.n)).ins (σ.n + 1) (f.os (σ.n + 1)), σ.n + 2, f.tk, σ.g⟩
 | .bin _ _ => ⟨σ.T.ins σ.n (fz f.d), σ.n + 1, f.tk, σ.g⟩
noncomputable def HS.res (σ : TS) : HS → Result
 | .bin _ _ => .ok (.ret (.ref σ.n))
 | _ => .ok (.ret .none)
structure Ob where
 code : Code
 hnd : Option Value
 n : Nat
 x : Option Obj
 y : Option Obj
 it : Option (Value × List Nat × Int)
 l : List (Option (List Nat) × Option Obj)
 ok : Bool
noncomputable def gu (T : BT) (a : Nat) (o : Obj) : Bool := ((T.ins a o).get a).isSome
noncomputable def ou : List Value → Option (List Nat × Int)
 | [.str x _, .int i t] => match t with
  | 0 => some (x.cps.toList, i)
  | _ => none
 | _ => none
noncomputable def lM : Option Obj → Option (Value × List Nat × Int)
 | some o => match o.data with
  | .fields vs => (ou vs.toList).map fun (x, i) => (o.cls, x, i)
  | _ => none
 | none => none
noncomputable def HS.ob (w : World) (Γ : Ctx) (p : Pos) (f : Fl) (σ : TS) : HS → Ob
 | .gen => ⟨Γ.code, Γ.handled, σ.n, σ.T.get 58, (eI w Γ p ((List.range 32).map f.dt) σ).2.T.get 58, none, (eI w Γ p ((List.range 32).map f.dt) σ).1, true⟩
 | .loop S I => ⟨Γ.code, Γ.handled, σ.n, σ.T.get S, none, lM (σ.T.get I), [],
   gu ((σ.T.set S fun _ => fz f.d).set I fun _ => f.os I) σ.n (f.os σ.n) && gu (((σ.T.set S fun _ => fz f.d).set I fun _ => f.os I).ins σ.n (f.os σ.n)) (σ.n + 1) (f.os (σ.n + 1))⟩
 | .bin a b => ⟨Γ.code, Γ.handled, σ.n, σ.T.get a, σ.T.get b, none, [], gu σ.T σ.n (fz f.d)⟩
inductive k7 (β : Type) where
 | cons (o : Ob) (r : k7 β)
 | done (b : β)
 | bad
noncomputable def dQ {β : Type} (w : World) (fin : Result → TS → β) : List (HS × Fl) → Out → k7 β
 | [], .done r σ => .done (fin r σ)
 | (h, f) :: l, .hole Γ p σ k => .cons (h.ob w Γ p f σ) (dQ w fin l (k (HS.res σ h) (h.fill w Γ p f σ)))
 | _, _ => .bad
noncomputable def Code.arg2 : Nat → Nat → String → Code := fun a b id => .builtin id ⟨[.ref a, .ref b], []⟩
noncomputable def specs : List HS := [.gen, .loop 63 64, .bin 58 63, .loop 68 69, .bin 67 68, .loop 73 74, .bin 67 73, .loop 78 79, .loop 82 83, .bin 78 82, .loop 87 88, .loop 91 92]
noncomputable def obL (S I n : Nat) (led : Bool) (x : List Nat) : Ob := ⟨Code.arg2 S I "set.update.loop", none, n, some (fz (.set #[] 0 (.fresh 0 0 led))), none, some (.type "str_ascii_iterator", x, 0), [], true⟩
noncomputable def obB (a b n : Nat) (id : String) (x y : Data) : Ob := ⟨Code.arg2 a b id, none, n, some (fz x), some (fz y), none, [], true⟩
noncomputable def obG (led : Bool) (f : Fl) : Ob := ⟨Code.arg2 58 57 "set.update.loop", none, 59, some (fz (.set #[] 0 (.fresh 0 0 led))), some (fz (f.dt 31).1), none, iN 0 (.set #[] 0 (.fresh 0 0 led)) ((List.range 32).map f.dt), true⟩
noncomputable def ef : List Nat := ("abcdefghijklmnopqrstuvwxyzABCDEFGHIJKLMNOPQRSTUVWXYZ0123456789-_".toList.map Char.toNat)
noncomputable def jA : List Nat := ("0123456789abcdefABCDEF".toList.map Char.toNat)
noncomputable def cn {β : Type} (led : Bool) (f : Nat → Fl) (b : β) : k7 β :=
 .cons (obG led (f 0)) <| .cons (obL 63 64 65 led [127]) <| .cons (obB 58 63 67 "frozenset.__or__" ((f 0).dt 31).1 (f 1).d) <| .cons (obL 68 69 70 led [9]) <|
 .cons (obB 67 68 72 "frozenset.__sub__" (f 2).d (f 3).d) <| .cons (obL 73 74 75 led [9, 10]) <| .cons (obB 67 73 77 "frozenset.__sub__" (f 2).d (f 5).d) <|
 .cons (obL 78 79 80 led [32, 9]) <| .cons (obL 82 83 84 led [10]) <| .cons (obB 78 82 86 "frozenset.__or__" (f 7).d (f 8).d) <|
 .cons (obL 87 88 89 led ef) <| .cons (obL 91 92 93 led jA) <| .done b
noncomputable def r0' (w : World) : Out := sim DQ pw w.params cm 100000 Γ0 qZ default (T0 w) mN
noncomputable def fls (f : Nat → Fl) : List (HS × Fl) := specs.zipIdx.map fun (h, i) => (h, f i)
end Mine
end
section
set_option tactic.hygienic true
namespace Mine
open PySem PySem.W PySem.Calls
variable {h : Heap} {n : Nat} {a : Addr} {S : Str → Bool}
theorem uX : DQ = denote table := by
 show Fast.tw11892475500146522536 Fast.tw14364793385576792824 = denote table;rw [← Fast.te11892475500146522536, ← Fast.te14364793385576792824, table_eq_tree]
def bv (w : World) (d : Data) (S : Str → Bool) (n : Nat) : Prop :=
 ∃ es ep t, d = .set es ep t ∧ ElemsOf (strKind pw w) es.toList ∧ (∀ k, S k = true ↔ ∃ e ∈ es.toList, (strKind pw w).is k e.2 = true) ∧ es.size < scanBound ∧ t.fits es.size = true ∧ es.size = n
section
variable {w : World} {B : nr} {K : Result → Shared → Prop}
theorem eL (F : cR pw w h a S n) : ∃ d, h.get? a = some (fz d) ∧ bv w d S n := by
 obtain ⟨es, ep, t, ho, r⟩ := F;exact ⟨_, ho, es, ep, t, rfl, r⟩
theorem bv.fset {d : Data} (F : bv w d S n) (ho : h.get? a = some (fz d)) : cR pw w h a S n := by
 obtain ⟨es, ep, t, rfl, r⟩ := F;exact ⟨es, ep, t, ho, r⟩
theorem bv.congr {d : Data} {S' : Str → Bool} {n' : Nat} (F : bv w d S n) (e : ∀ k, S k = S' k) (en : n = n') : bv w d S' n' := by
 have : S = S' := funext e;subst this en; exact F
noncomputable def d0 : Data := .fields #[]
theorem pI {M : Model} {Γ : Ctx} {c : Code} {R : Result → Shared → Prop} {p : Pos} {s : Shared} (hc : Γ.code = c) (hh : Γ.handled = none) (h : ∀ A : Around, A.handled = none → codeAny M A c R s) : wpCode M Γ R p s :=
 h ⟨none, frameCount Γ.below, none, none, unitsOf Γ.below⟩ rfl Γ p hc ⟨hh, z6 _, nofun, nofun, z6 _⟩
theorem kQ {led : Bool} (e : h.get? a = some (fz (.set #[] 0 (.fresh 0 0 led)))) : cR pw w h a (fun _ => false) 0 :=
 ⟨#[], 0, _, e, fun e he => by simp at he, fun k => by simp, by decide, rfl, rfl⟩
theorem mR {l : List Value} {x : List Nat} {i : Int} (h : ou l = some (x, i)) : ∃ y t, l = [.str y t, .int i 0] ∧ y.cps.toList = x := by
 unfold ou at h;split at h
 ·rename_i y t i' t';split at h
  ·simp only [Option.some.injEq, Prod.mk.injEq] at h;obtain ⟨h2, h3⟩ := h;subst h3;exact ⟨y, t, rfl, h2⟩
  cases h
 cases h
theorem mQ {o : Option Obj} {c : Value} {x : List Nat} {i : Int} (h : lM o = some (c, x, i)) : ∃ ob y t, o = some ob ∧ ob.cls = c ∧ ob.data = .fields #[.str y t, .int i 0] ∧ y.cps.toList = x := by
 unfold lM at h;split at h
 ·rename_i ob;split at h
  ·rename_i vs hd;obtain ⟨⟨x', i'⟩, h1, h2⟩ := xf h;simp only [Prod.mk.injEq] at h2;obtain ⟨h2, rfl, rfl⟩ := h2;obtain ⟨y, t, h3, h4⟩ := mR h1;refine ⟨ob, y, t, rfl, h2, ?_, h4⟩;rw [hd, ← h3]
  cases h
 cases h
theorem iS {T : BT} {a : Nat} {o : Obj} (hok : gu T a o = true) (hT : ∀ i x, T.get i = some x → h.get? i = some x) (ho : h.get? a = some o) : ∀ i x, (T.ins a o).get i = some x → h.get? i = some x := by
 intro i x e;rw [BT.get_ins o T a hok] at e;by_cases hi : i = a
 ·subst hi; rw [if_pos rfl] at e; cases e; exact ho
 rw [if_neg hi] at e; exact hT i x e
def i7 (T : BT) (h : Heap) (N : List Nat) : Prop := ∀ i x, i ∉ N → T.get i = some x → h.get? i = some x
theorem pk {T : BT} {a : Nat} {o : Obj} {N : List Nat} (hT : i7 T h (a :: N)) (ho : h.get? a = some o) : i7 (T.set a fun _ => o) h N := by
 intro i x hi e;rw [BT.get_set] at e;by_cases hia : i = a
 ·subst hia; rw [if_pos rfl] at e;cases hq : T.get i with
  | none => rw [hq] at e; cases e
  | some y => rw [hq] at e; cases e; exact ho
 rw [if_neg hia] at e;exact hT i x (by simp [hia, hi]) e
theorem cB {o : Out} {S I : Nat} {led : Bool} {x : List Nat} {C : Fl → Out → Prop} (hSI : S ≠ I) (hx : x.Nodup) (hb : x.length + 1 < 4096)
  (H : ∀ f, ∃ Γ p σ k, o = .hole Γ p σ k ∧ HS.ob w Γ p f σ (.loop S I) = obL S I n led x ∧ C f (k (HS.res σ (.loop S I)) (HS.fill w Γ p f σ (.loop S I))))
  (next : ∀ f o', bv w f.d (fun y => x.any fun c => decide (y = ⟨#[c]⟩)) x.length → C f o' → o'.good (model pw w) B K) : o.good (model pw w) B K := by
 obtain ⟨Γ, p, σ, k, e0, ho, _⟩ := H ⟨d0, fun _ => (d0, default), fun _ => default, 0⟩;subst e0;intro s R;have e1 : Γ.code = Code.arg2 S I "set.update.loop" := congrArg Ob.code ho;have e2 : Γ.handled = none := congrArg Ob.hnd ho;have e4 : σ.T.get S = some (fz (.set #[] 0 (.fresh 0 0 led))) := congrArg Ob.x ho;have e5 : lM (σ.T.get I) = some (.type "str_ascii_iterator", x, 0) := congrArg Ob.it ho;obtain ⟨ob, y, t, hI, hc, hd, hy⟩ := mQ e5;have hysz : y.cps.size = x.length := by rw [← hy, xK]
 refine pI e1 e2 fun A hA => ?_
 refine oe hA hSI (x := y) (t := t) (by rw [hysz]; exact hb) (by rw [hy]; exact hx) _ 0 s rfl (z7 _) ⟨ob, R.own _ _ hI, hc, hd⟩ ((kQ (R.own _ _ e4)).congr (fun _ => rfl) rfl) fun h' tk hz hk ⟨oI, hoI⟩ hnew F => ?_
 rw [hy, hysz] at F;obtain ⟨d, hd', FD⟩ := eL F;let f : Fl := ⟨d, fun _ => (d0, default), fun b => if b = I then oI else (h'.get? b).getD default, tk⟩
 obtain ⟨Γ', p', σ', k', e0', ho', hC⟩ := H f;cases e0';refine ⟨_, ?_, next f _ FD hC⟩;have hok := congrArg Ob.ok ho';have hok : (gu ((σ.T.set S fun _ => fz f.d).set I fun _ => f.os I) σ.n (f.os σ.n) && gu (((σ.T.set S fun _ => fz f.d).set I fun _ => f.os I).ins σ.n (f.os σ.n)) (σ.n + 1) (f.os (σ.n + 1))) = true := hok;obtain ⟨ok1, ok2⟩ := Bool.and_eq_true_iff.mp hok;have hn : s.heap.objs.size = σ.n := R.size;have hIlt : I < σ.n := hn ▸ al (R.own _ _ hI);have fI : f.os I = oI := if_pos rfl;have fnew : ∀ b, σ.n ≤ b → b < σ.n + 2 → h'.get? b = some (f.os b) := by
  intro b h1 h2;obtain ⟨o, ho⟩ := hnew b (by exact hn ▸ h1) (by exact hn ▸ h2);show _ = some (if b = I then oI else (h'.get? b).getD default);rw [if_neg (yY (xU hIlt h1)), ho]; rfl
 have o1 : i7 σ.T h' [I, S] := fun i x hi e => by
  simp only [List.mem_cons, List.not_mem_nil, or_false, not_or] at hi;exact hk i x hi.2 hi.1 (R.own i x e)
 have o1' : i7 σ.T h' [S, I] := fun i x hi e => o1 i x (by simp at hi ⊢; exact ⟨hi.2, hi.1⟩) e
 have o2 : i7 (σ.T.set S fun _ => fz f.d) h' [I] := pk o1' hd';have o3 : i7 ((σ.T.set S fun _ => fz f.d).set I fun _ => f.os I) h' [] := pk o2 (by rw [fI]; exact hoI);have o4 := iS ok1 (fun i x => o3 i x (by simp)) (fnew σ.n (z6 _) (z8 _));have o5 := iS ok2 o4 (fnew (σ.n + 1) (z8 _) (yq _));exact ⟨by show h'.objs.size = σ.n + 2; rw [hz, hn], o5, rfl, R.gens, R.drawn, R.os⟩
theorem gv {o : Out} {a b : Nat} {id : String} {x y : Data} {S : Data → Prop} {C : Fl → Out → Prop}
  (H : ∀ f, ∃ Γ p σ k, o = .hole Γ p σ k ∧ HS.ob w Γ p f σ (.bin a b) = obB a b n id x y ∧ C f (k (HS.res σ (.bin a b)) (HS.fill w Γ p f σ (.bin a b))))
  (run : ∀ (A : Around) (s : Shared) (R : Result → Shared → Prop), s.heap.get? a = some (fz x) → s.heap.get? b = some (fz y) →
   (∀ h' d, h'.objs.size = s.heap.objs.size + 1 → (∀ b o, s.heap.get? b = some o → h'.get? b = some o) → h'.get? s.heap.objs.size = some (fz d) → S d → R (.ok (.ret (.ref s.heap.objs.size))) { s with heap := h' }) →
   codeAny (model pw w) A (.builtin id ⟨[.ref a, .ref b], []⟩) R s)
  (next : ∀ f o', S f.d → C f o' → o'.good (model pw w) B K) : o.good (model pw w) B K := by
 obtain ⟨Γ, p, σ, k, e0, ho, _⟩ := H ⟨d0, fun _ => (d0, default), fun _ => default, 0⟩;subst e0;intro s R;have e1 : Γ.code = Code.arg2 a b id := congrArg Ob.code ho;have e2 : Γ.handled = none := congrArg Ob.hnd ho;have e3 : σ.T.get a = some (fz x) := congrArg Ob.x ho;have e4 : σ.T.get b = some (fz y) := congrArg Ob.y ho;refine pI e1 e2 fun A hA => ?_
 refine run A s _ (R.own _ _ e3) (R.own _ _ e4) fun h' d hz hk hd hS => ?_
 let f : Fl := ⟨d, fun _ => (d0, default), fun _ => default, s.toks⟩
 obtain ⟨Γ', p', σ', k', e0', ho', hC⟩ := H f;cases e0';have hn : s.heap.objs.size = σ.n := R.size;rw [hn] at hd hz ⊢;refine ⟨_, ?_, next f _ hS hC⟩;have hok : gu σ.T σ.n (fz f.d) = true := congrArg Ob.ok ho';exact ⟨hz, iS hok (fun i x e => hk i x (R.own i x e)) hd, rfl, R.gens, R.drawn, R.os⟩
end
end Mine
end
section
set_option tactic.hygienic true
namespace Mine
open PySem PySem.W PySem.Calls
noncomputable def rN (v : Value) : Option Value → Sem Fin
 | some x => holding [x] (setAdd 58 x) >>= fun _ => again (.builtin "set.update.loop" ⟨[.ref 58, v], []⟩)
 | none => ret .none
theorem ur (v : Value) : Builtin.«set.update.loop» ⟨[.ref 58, v], []⟩ = (pyNext v >>= rN v) := by
 show (pyNext v >>= _) = _;refine congrArg (bind (pyNext v)) (funext fun o => ?_);cases o with
 | none => rfl
 | some x => rfl
theorem vM {w : World} {id : String} {args : Args} {b : Builtin} (hb : entryFor table id = some b) : (model pw w).den (.builtin id args) = b args := by
 show (match entryFor table id with | some b => b args | none => unsupported ((withoutEnding? id "#data").getD id)) = _;rw [hb]
theorem n6 (w : World) (v : Value) : (model pw w).den (.builtin "set.update.loop" ⟨[.ref 58, v], []⟩) = (pyNext v >>= rN v) :=
 (vM PyProof.Rows.F.entry_set_update_loop).trans (ur v)
section
variable {w : World} {B : nr} {K : Result → Shared → Prop}
theorem mU {Γ : Ctx} {p : Pos} {σ σ' : TS} {v : Flow} {s : Shared} (h : kL w Γ p σ = .done (.ok v) σ') (hr : Rep B σ s) :
  Sem.wp (model pw w) Γ (pyNext (.ref 57)) (fun o _ s' => t0 o = v ∧ Rep B σ' s') (fun _ _ _ => False) p s := by
 have hg : (kL w Γ p σ).good (model pw w) B (fun r s' => r = .ok v ∧ Rep B σ' s') := by
  rw [h]; exact fun s' hs => ⟨rfl, hs⟩
 obtain ⟨e, s', hx, hy⟩ := mj uX 100000 Γ (pyNext (.ref 57) >>= fun o => pure (Fin.done (t0 o))) p σ mN
  (fun e s' => ∃ r, e = .ret r ∧ r = .ok v ∧ Rep B σ' s') s (fun e σ₁ s₁ hg' hr' => by
   cases e with
   | ret r => exact ⟨r, rfl, hg' s₁ hr'⟩
   | susp => cases hg') hg hr
 obtain ⟨r, rfl, hq⟩ := hy;have := (Sem.wp_iff_runs (model pw w) Γ (pyNext (.ref 57) >>= fun o => pure (Fin.done (t0 o))) (fun r s' => r = .ok v ∧ Rep B σ' s') p s).mpr ⟨r, s', hx, hq⟩;rw [Sem.wp_bind'] at this;refine Sem.wp_mono _ _ _ (fun o p' s' hs => ?_) (fun e p' s' he => ?_) _ _ this
 ·have hs : (Except.ok (t0 o) : Result) = .ok v ∧ Rep B σ' s' := hs;obtain ⟨h1, h2⟩ := hs;exact ⟨by injection h1, h2⟩
 obtain ⟨h1, _⟩ := he;cases h1
noncomputable def dm (k : Nat) : Str → Bool := fun y => (List.range k).any fun c => decide (y = ⟨#[c]⟩)
theorem t9 (i : Nat) : dm i ⟨#[i]⟩ = false := by
 unfold dm;rw [List.any_eq_false];intro c hc e;have e := yg e;injection e with e
 have e : i = c := by simpa using e
 have := List.mem_range.mp hc;lia
theorem qz (i : Nat) (y : Str) : (dm i y || decide (y = ⟨#[i]⟩)) = dm (i + 1) y := by
 unfold dm;rw [List.range_succ, List.any_append];simp
theorem sq {Γ : Ctx} (hc : Γ.code = .builtin "set.update.loop" ⟨[.ref 58, .ref 57], []⟩) {R : Result → Shared → Prop} : ∀ (k i : Nat) (p : Pos) (σ : TS) (s : Shared) (d : Data), i + k = 32 →
  (∀ ds : List (Data × Pos), ds.length = k → (eI w Γ p ds σ).1 = iN i d ds) → Rep B σ s → bv w d (dm i) i →
  (∀ (ds : List (Data × Pos)) s' d', ds.length = k → Rep B (eI w Γ p ds σ).2 s' → (iN i d ds).getLast? = some (none, some (fz d')) → bv w d' (dm 32) 32 → R (.ok (.ret .none)) s') →
  wpCode (model pw w) Γ R p s := by
 intro k
 induction k with
 | zero =>
  intro i p σ s d hi H hr hS hR;obtain rfl : i = 32 := by assumption
  have h := H [] rfl;have hq : ∃ σ', kL w Γ p σ = .done (.ok .next) σ' ∧ (eI w Γ p [] σ).2 = σ' := by
   unfold eI at h ⊢;revert h; split
   ·rename_i σ' e; intro _; exact ⟨σ', e, rfl⟩
   intro h; cases h
  obtain ⟨σ', e, e2⟩ := hq;rw [wpCode_iff_wp, hc, n6, Sem.wp_bind'];refine Sem.wp_mono _ _ _ (fun o p' s' hs => ?_) (fun _ _ _ he => he.elim) _ _ (mU e hr);obtain ⟨h1, h2⟩ := hs;cases o with
  | some v => cases h1
  | none =>
   show R (.ok (.ret .none)) s';exact hR [] s' d rfl (by rw [e2]; exact h2) rfl hS
 | succ k ih =>
  intro i p σ s d hi H hr hS hR;have hq : ∃ x t σ', kL w Γ p σ = .done (.ok (.ret (.str x t))) σ' ∧ x.cps.toList = [i] ∧ σ'.T.get 58 = some (fz d) ∧ ∀ d' p' ds, eI w Γ p ((d', p') :: ds) σ = ((some x.cps.toList, σ'.T.get 58) :: (eI w Γ p' ds ⟨σ'.T.set 58 fun _ => fz d', σ'.n, σ'.tk + 1, σ'.g⟩).1, (eI w Γ p' ds ⟨σ'.T.set 58 fun _ => fz d', σ'.n, σ'.tk + 1, σ'.g⟩).2) := by
   have h := H ((d, default) :: List.replicate k (d, default)) (by simp);unfold eI at h;revert h;split
   ·rename_i x t σ' e;intro h;have h : (some x.cps.toList, σ'.T.get 58) :: _ = (some [i], some (fz d)) :: _ := h;injection h with h1 _
    injection h1 with h1 h2
    refine ⟨x, t, σ', e, by injection h1, h2, fun d' p' ds => ?_⟩
    conv => lhs; unfold eI
    rw [e]
   intro h; cases h
  obtain ⟨x, t, σ', e, hx, h58, hrun⟩ := hq;have hx' : x = ⟨#[i]⟩ := by
   cases x; rename_i cps;congr;apply Array.toList_inj.mp;rw [hx]
  subst hx';rw [wpCode_iff_wp, hc, n6, Sem.wp_bind'];refine Sem.wp_mono _ _ _ (fun o p' s' hs => ?_) (fun _ _ _ he => he.elim) _ _ (mU e hr);obtain ⟨h1, h2⟩ := hs;cases o with
  | none => cases h1
  | some v =>
   have hv : v = .str ⟨#[i]⟩ t := by injection h1
   subst hv;have key : wpAny (model pw w) { handled := Γ.handled, depth := frameCount Γ.below + Γ.code.weight, frames := none, guards := none, units := Γ.units } (rN (.ref 57) (some (.str ⟨#[i]⟩ t))) (fun fin s'' => fin = .again (.builtin "set.update.loop" ⟨[.ref 58, .ref 57], []⟩) ∧ ∃ d', Rep B ⟨σ'.T.set 58 fun _ => fz d', σ'.n, σ'.tk + 1, σ'.g⟩ s'' ∧ bv w d' (dm (i + 1)) (i + 1)) (fun _ _ => False) s' := by
    show wpAny _ _ (holding [.str ⟨#[i]⟩ t] (setAdd 58 (.str ⟨#[i]⟩ t)) >>= _) _ _ _;refine za (yP (kO (hS.fset (h2.own _ _ h58)) (by have : scanBound = 4096 := rfl; exact this ▸ xV (yt (yT (yp ..) (yV hi))) (by decide)) fun h' hs F => ?_));obtain ⟨d', hd', FD⟩ := eL F;refine zb ⟨rfl, d', ⟨by show h'.objs.size = σ'.n; rw [hs.1, h2.size], fun a o ho => ?_, by show s'.toks + 1 = σ'.tk + 1; rw [h2.toks], h2.gens, h2.drawn, h2.os⟩, FD.congr (fun y => qz i y) (by rw [t9]; rfl)⟩;have ho : (σ'.T.set 58 fun _ => fz d').get a = some o := ho;rw [BT.get_set] at ho;by_cases ha : a = 58
    ·subst ha; rw [if_pos rfl, h58] at ho; cases ho; exact hd'
    rw [if_neg ha] at ho;exact (hs.2 a ha).trans (h2.own a o ho)
   refine Sem.wp_mono _ _ _ (fun fin p'' s'' hs => ?_) (fun _ _ _ he => he.elim) _ _ (key Γ p' ⟨rfl, z6 _, nofun, nofun, z6 _⟩);obtain ⟨rfl, d', hr', hF⟩ := hs;refine ⟨plainId_quiet PyProof.Rows.F.plain_set_update_loop _, ?_⟩;have eΓ : Γ.goto (.builtin "set.update.loop" ⟨[.ref 58, .ref 57], []⟩) = Γ := by
    rw [← hc]; rfl
   rw [eΓ];refine ih (i + 1) p'' _ s'' d' ((xW ..).trans hi) (fun ds hl => ?_) hr' hF fun ds s3 d3 hl hr3 hg hF3 => ?_
   ·have := H ((d', p'') :: ds) (by simp [hl]);rw [hrun] at this;have this : _ :: _ = (some [i], some (fz d)) :: iN (i + 1) d' ds := this;injection this
   refine hR ((d', p'') :: ds) s3 d3 (by simp [hl]) (by rw [hrun]; exact hr3) ?_ hF3;show ((some [i], some (fz d)) :: iN (i + 1) d' ds).getLast? = _;rw [List.getLast?_cons];rw [hg]; rfl
theorem oh {α : Type} (y : α) {ds : List α} {n : Nat} (h : ds.length = n) : (List.range n).map (fun i => ds.getD i y) = ds := by
 subst h;apply List.ext_getElem
 ·simp
 intro i h1 h2; simp at h1; simp [h1]
theorem sr {d d' : Data} (h : fz d = fz d') : d = d' := congrArg Obj.data h
theorem kN : ∀ (ds : List (Data × Pos)) (i : Nat) (d d' : Data), (iN i d ds).getLast? = some (none, some (fz d')) → d' = (ds.getLast?.map (·.1)).getD d
 | [], i, d, d', h => by
  have h : some ((none : Option (List Nat)), some (fz d)) = some (none, some (fz d')) := h;injection h with h; injection h with _ h; injection h with h
  exact (sr h).symm
 | (x, p) :: ds, i, d, d', h => by
  have h : ((some [i], some (fz d)) :: iN (i + 1) x ds).getLast? = _ := h;rw [List.getLast?_cons] at h;cases hq : (iN (i + 1) x ds).getLast? with
  | none => cases ds <;> simp [iN] at hq
  | some y =>
   rw [hq] at h;have h : some y = _ := h;rw [h] at hq;have := kN ds (i + 1) x d' hq;rw [this, List.getLast?_cons];cases ds.getLast? <;> rfl
theorem si {o : Out} {led : Bool} {C : Fl → Out → Prop}
  (H : ∀ f, ∃ Γ p σ k, o = .hole Γ p σ k ∧ HS.ob w Γ p f σ .gen = obG led f ∧ C f (k (HS.res σ .gen) (HS.fill w Γ p f σ .gen)))
  (next : ∀ f o', bv w (f.dt 31).1 (dm 32) 32 → C f o' → o'.good (model pw w) B K) : o.good (model pw w) B K := by
 obtain ⟨Γ, p, σ, k, e0, ho, _⟩ := H ⟨d0, fun _ => (d0, default), fun _ => default, 0⟩;subst e0;intro s R;have e1 : Γ.code = Code.arg2 58 57 "set.update.loop" := congrArg Ob.code ho;have e4 : σ.T.get 58 = some (fz (.set #[] 0 (.fresh 0 0 led))) := congrArg Ob.x ho;have F0 : bv w (.set #[] 0 (.fresh 0 0 led)) (dm 0) 0 := by
  obtain ⟨d, hd, F⟩ := eL (w := w) ((kQ (w := w) (R.own _ _ e4)).congr (S' := dm 0) (fun _ => rfl) (rfl : 0 = 0));rw [R.own _ _ e4] at hd;injection hd with hd
  rw [sr hd]; exact F
 have atF : ∀ ds : List (Data × Pos), ds.length = 32 → ∃ (f : Fl) (C' : Prop), (List.range 32).map f.dt = ds ∧ f.dt 31 = ds.getD 31 (d0, default) ∧ (eI w Γ p ds σ).1 = iN 0 (.set #[] 0 (.fresh 0 0 led)) ds ∧ C f (k (HS.res σ .gen) (HS.fill w Γ p f σ .gen)) := by
  intro ds hl;let f : Fl := ⟨d0, fun i => ds.getD i (d0, default), fun _ => default, 0⟩
  obtain ⟨Γ', p', σ', k', e0', ho', hC⟩ := H f;cases e0';have e : (List.range 32).map f.dt = ds := oh (d0, default) hl;have hl' : (eI w Γ p ((List.range 32).map f.dt) σ).1 = iN 0 (.set #[] 0 (.fresh 0 0 led)) ((List.range 32).map f.dt) := congrArg Ob.l ho';rw [e] at hl';exact ⟨f, True, e, rfl, hl', hC⟩
 refine sq e1 32 0 p σ s _ rfl (fun ds hl => ?_) R F0 fun ds s' d' hl hr hg hF => ?_
 ·obtain ⟨f, _, _, _, h, _⟩ := atF ds hl;exact h
 obtain ⟨f, _, e, e31, _, hC⟩ := atF ds hl;have hd := kN ds 0 _ d' hg;have : ds.getLast? = some (ds.getD 31 (d0, default)) := by
  rw [List.getLast?_eq_getElem?, hl];simp [hl]
 rw [this] at hd;have hd : d' = (ds.getD 31 (d0, default)).1 := hd;refine ⟨_, ?_, next f _ (by rw [e31, ← hd]; exact hF) hC⟩;show Rep B (eI w Γ p ((List.range 32).map f.dt) σ).2 s';rw [e]; exact hr
end
end Mine
end
section
namespace Mine
open PySem PySem.W PySem.Calls
variable {S : Str → Bool}
noncomputable section
noncomputable def k7.drop {β : Type} : Nat → k7 β → k7 β
 | 0, x => x
 | n + 1, .cons _ r => r.drop n
 | _ + 1, x => x
noncomputable def upd (f : Nat → Fl) (i : Nat) (x : Fl) : Nat → Fl := fun j => if j = i then x else f j
def PP {β : Type} (w : World) (fin : Result → TS → β) (led : Bool) (b : (Nat → Fl) → β) (i : Nat) (f : Nat → Fl) (o : Out) : Prop :=
 ∀ g : Nat → Fl, (∀ j < i, g j = f j) → dQ w fin ((fls g).drop i) o = (cn led g (b g)).drop i
theorem bU {β : Type} {w : World} {fin : Result → TS → β} {led : Bool} {b : (Nat → Fl) → β} {i : Nat} {h : HS} {obf : (Nat → Fl) → Ob}
  (h1 : ∀ g, (fls g).drop i = (h, g i) :: (fls g).drop (i + 1)) (h2 : ∀ g, (cn led g (b g)).drop i = .cons (obf g) ((cn led g (b g)).drop (i + 1))) {f : Nat → Fl} {o : Out} (H : PP w fin led b i f o) :
  ∀ x, ∃ Γ p σ k, o = .hole Γ p σ k ∧ h.ob w Γ p x σ = obf (upd f i x) ∧ PP w fin led b (i + 1) (upd f i x) (k (HS.res σ h) (h.fill w Γ p x σ)) := by
 intro x;have hx : upd f i x i = x := if_pos rfl;have e := H (upd f i x) (fun j hj => if_neg (yZ hj));rw [h1, h2, hx] at e;cases o with
 | done => cases e
 | stop => cases e
 | hole Γ p σ k =>
  have e : k7.cons (h.ob w Γ p x σ) (dQ w fin ((fls (upd f i x)).drop (i + 1)) (k (HS.res σ h) (h.fill w Γ p x σ))) = _ := e;injection e with e1 e2
  refine ⟨Γ, p, σ, k, rfl, e1, fun g hg => ?_⟩;have e := H g (fun j hj => (hg j (yl hj)).trans (if_neg (yZ hj)));have hgi : g i = x := (hg i (yq _)).trans hx;rw [h1, h2, hgi] at e;have e : k7.cons (h.ob w Γ p x σ) (dQ w fin ((fls g).drop (i + 1)) (k (HS.res σ h) (h.fill w Γ p x σ))) = _ := e;injection e with e1 e2
noncomputable def fh (l : List Nat) : Str → Bool := fun y => l.any fun c => decide (y = ⟨#[c]⟩)
theorem mu : aw 32 = 127 := by decide
theorem iz : aw 33 = 127 := by decide
theorem nS : aw 2 = 7 := by decide
section
variable {w : World} {B : nr} {K : Result → Shared → Prop}
theorem bv.fat {h : Heap} {a : Addr} {d : Data} {n : Nat} (F : bv w d S n) (ho : h.get? a = some (fz d)) : ∃ es ep t, FAt pw w h a es ep t ∧ es.size = n ∧ ∀ k, ck es k = S k :=
 (F.fset ho).fat
theorem ro {a b : Nat} {x y : Data} {S' : Str → Bool} {n : Nat} {z : Str} (hab : a ≠ b) (Fx : bv w x S n) (Fy : bv w y S' 1) (hz : S' z = true) (h1 : 1 ≤ n) (h2 : n ≤ 1000)
  (C : cG (aw n)) (hM : n ≤ aw n) (hroom : (n + 1) * 5 < aw n * 3) :
  ∀ (A : Around) (s : Shared) (R : Result → Shared → Prop), s.heap.get? a = some (fz x) → s.heap.get? b = some (fz y) →
   (∀ h' d, h'.objs.size = s.heap.objs.size + 1 → (∀ b o, s.heap.get? b = some o → h'.get? b = some o) → h'.get? s.heap.objs.size = some (fz d) → bv w d (fun k => S k || decide (k = z)) (if S z then n else n + 1) → R (.ok (.ret (.ref s.heap.objs.size))) { s with heap := h' }) →
   codeAny (model pw w) A (.builtin "frozenset.__or__" ⟨[.ref a, .ref b], []⟩) R s := by
 intro A s R ha hb hR;obtain ⟨es, ep, t, Fa, hn, hm⟩ := Fx.fat ha;obtain ⟨es', ep', t', Fb, hn', hm'⟩ := Fy.fat hb;subst hn;refine fz_or hab Fa Fb h1 h2 C hM hroom hn' (x := z) (by rw [hm', hz]) fun h' hs hk F => ?_
 obtain ⟨d, hd, FD⟩ := eL F;exact hR h' d hs hk hd (FD.congr (fun k => by rw [hm]) (by rw [hm]))
theorem pd {a b : Nat} {x y : Data} {S' : Str → Bool} {n m : Nat} (Fx : bv w x S n) (Fy : bv w y S' m) (h1 : 1 ≤ n) (h2 : n ≤ 1000)
  (C : cG (aw n)) (hM : n ≤ aw n) (hz : m < n / 4) (hm : m ≤ aw n / 4) :
  ∀ (A : Around) (s : Shared) (R : Result → Shared → Prop), s.heap.get? a = some (fz x) → s.heap.get? b = some (fz y) →
   (∀ h' d, h'.objs.size = s.heap.objs.size + 1 → (∀ b o, s.heap.get? b = some o → h'.get? b = some o) → h'.get? s.heap.objs.size = some (fz d) → (∃ T k, bv w d T k ∧ k ≤ n ∧ ∀ y, T y = true → S y = true) → R (.ok (.ret (.ref s.heap.objs.size))) { s with heap := h' }) →
   codeAny (model pw w) A (.builtin "frozenset.__sub__" ⟨[.ref a, .ref b], []⟩) R s := by
 intro A s R ha hb hR;obtain ⟨es, ep, t, Fa, hn, hmm⟩ := Fx.fat ha;obtain ⟨es', ep', t', Fb, hn', hm'⟩ := Fy.fat hb;subst hn; subst hn';refine vE Fa Fb h1 h2 C hM hz hm fun h' T k hs hk F hle hsub => ?_
 obtain ⟨d, hd, FD⟩ := eL F;exact hR h' d hs hk hd ⟨T, k, FD, hle, fun y hy => by rw [← hmm]; exact hsub y hy⟩
structure no (w : World) (f : Nat → Fl) : Prop where
 ill : ∃ T k, bv w (f 4).d T k ∧ k ≤ 33 ∧ ∀ y, T y = true → (dm 32 y || decide (y = ⟨#[127]⟩)) = true
 ws : bv w (f 7).d (fh [32, 9]) 2
 bare : bv w (f 10).d (fh ef) 64
 hex : bv w (f 11).d (fh jA) 22
theorem qO {β : Type} {fin : Result → TS → β} {led : Bool} {b : (Nat → Fl) → β} (hch : ∀ f, dQ w fin (fls f) (r0' w) = cn led f (b f))
  (hK : ∀ f, no w f → ∀ r σ, fin r σ = b f → ∀ s, Rep B σ s → K r s) : (r0' w).good (model pw w) B K := by
 have d00 : bv w d0 (fun _ => true) 0 → True := fun _ => trivial
 have P0 : PP w fin led b 0 (fun _ => ⟨d0, fun _ => (d0, default), fun _ => default, 0⟩) (r0' w) := fun g _ => hch g
 refine si (led := led) (bU (obf := fun g => obG led (g 0)) (fun _ => rfl) (fun _ => rfl) P0) fun f0 o1 F0 P1 => ?_
 refine cB (by decide) (by decide) (by decide) (bU (obf := fun g => obL 63 64 65 led [127]) (fun _ => rfl) (fun _ => rfl) P1) fun f1 o2 F1 P2 => ?_
 refine gv (bU (obf := fun g => obB 58 63 67 "frozenset.__or__" ((g 0).dt 31).1 (g 1).d) (fun _ => rfl) (fun _ => rfl) P2)
  (ro (z := ⟨#[127]⟩) (by decide) F0 F1 (by decide) (by decide) (by decide) (by rw [mu]; exact fT) (by decide) (by decide)) fun f2 o3 F2 P3 => ?_
 have F2 : bv w f2.d (fun k => dm 32 k || decide (k = ⟨#[127]⟩)) 33 := F2.congr (fun _ => rfl) (by decide);refine cB (by decide) (by decide) (by decide) (bU (obf := fun g => obL 68 69 70 led [9]) (fun _ => rfl) (fun _ => rfl) P3) fun f3 o4 F3 P4 => ?_
 refine gv (bU (obf := fun g => obB 67 68 72 "frozenset.__sub__" (g 2).d (g 3).d) (fun _ => rfl) (fun _ => rfl) P4)
  (pd F2 F3 (by decide) (by decide) (by rw [iz]; exact fT) (by decide) (by decide) (by decide)) fun f4 o5 F4 P5 => ?_
 refine cB (by decide) (by decide) (by decide) (bU (obf := fun g => obL 73 74 75 led [9, 10]) (fun _ => rfl) (fun _ => rfl) P5) fun f5 o6 F5 P6 => ?_
 refine gv (bU (obf := fun g => obB 67 73 77 "frozenset.__sub__" (g 2).d (g 5).d) (fun _ => rfl) (fun _ => rfl) P6)
  (pd F2 F5 (by decide) (by decide) (by rw [iz]; exact fT) (by decide) (by decide) (by decide)) fun f6 o7 F6 P7 => ?_
 refine cB (by decide) (by decide) (by decide) (bU (obf := fun g => obL 78 79 80 led [32, 9]) (fun _ => rfl) (fun _ => rfl) P7) fun f7 o8 F7 P8 => ?_
 refine cB (by decide) (by decide) (by decide) (bU (obf := fun g => obL 82 83 84 led [10]) (fun _ => rfl) (fun _ => rfl) P8) fun f8 o9 F8 P9 => ?_
 refine gv (bU (obf := fun g => obB 78 82 86 "frozenset.__or__" (g 7).d (g 8).d) (fun _ => rfl) (fun _ => rfl) P9)
  (ro (z := ⟨#[10]⟩) (by decide) F7 F8 (by decide) (by decide) (by decide) (by rw [show aw ([32, 9] : List Nat).length = 7 from nS]; exact ta) (by decide) (by decide)) fun f9 o10 F9 P10 => ?_
 refine cB (by decide) (by decide) (by decide) (bU (obf := fun g => obL 87 88 89 led ef) (fun _ => rfl) (fun _ => rfl) P10) fun f10 o11 F10 P11 => ?_
 refine cB (by decide) (by decide) (by decide) (bU (obf := fun g => obL 91 92 93 led jA) (fun _ => rfl) (fun _ => rfl) P11) fun f11 o12 F11 P12 => ?_
 have e := P12 _ fun _ _ => rfl
 cases o12 with
 | hole => cases e
 | stop => cases e
 | done r σ =>
  have e : k7.done (fin r σ) = k7.done _ := e;injection e with e
  exact fun s hs => hK _ ⟨F4, F7.congr (fun _ => rfl) rfl, F10.congr (fun _ => rfl) (by decide), F11.congr (fun _ => rfl) (by decide)⟩ r σ e s hs
end
end
end Mine
end
section
namespace Mine
open PySem PySem.W PySem.Calls
noncomputable section
noncomputable def q0 : Program := { pw with main := { pw.main with body := pw.main.body.drop 56 } }
noncomputable def dY : List Str := pw.boundNames
noncomputable def po : List Str := importedModules pw.main.body
noncomputable def hp (n : Nat) (life : Life) (σ : TS) : Heap := ⟨((List.range n).map fun i => (σ.T.get i).getD default).toArray, life⟩
noncomputable def sh (w : World) (os : OsState) (σ : TS) : Shared := ⟨hp 453 (boot_heap w.params).life σ, ⟨σ.g⟩, boot_drawn, σ.tk, os⟩
noncomputable def okR : Result → Bool
 | .ok _ => true
 | _ => false
noncomputable def vG (σ : TS) : Bool := Nat.beq σ.n 453 && (List.range 453).all fun i => (σ.T.get i).isSome
noncomputable def kI : List Nat := [0, 1, 4, 5, 6, 7, 8, 9, 10]
noncomputable def base (w : World) (os : OsState) (r : Result) (σ : TS) :=
 (okR r && vG σ && staticsOk po (boot_heap w.params) (sh w os σ).heap && namesBound pw (sh w os σ).heap && laidKept (boot_heap w.params) (sh w os σ).heap, σ.g, kI.map (σ.T.get ·),
  openSeen q0 dY po (fun _ => true) false (sh w os σ))
noncomputable def bK (w : World) := (true, [GenState.finished], kI.map fun i => (boot_heap w.params).objs[i]?, openGood q0 dY)
end
end Mine
end
section
namespace Mine
open PySem PySem.W PySem.Calls
variable {w : World}
theorem kH {den : Code → Sem Fin} {p : Program} {w : World} {o : Outcome} {s' : Shared} : ∀ (n : Nat) (s : Shared) (t : Thread), runN den p w n s t = .halted o s' →
  ∃ k t₁, runN den p w k s t = .running s' t₁ ∧ step den p w s' t₁ = .halt o s'
 | 0, _, _, h => by cases h
 | n + 1, s, t, h => by
  unfold runN at h;cases hs : step den p w s t with
  | go s₂ t₂ =>
   rw [hs] at h;obtain ⟨k, t₁, a, b⟩ := kH n s₂ t₂ h;exact ⟨k + 1, t₁, by unfold runN; rw [hs]; exact a, b⟩
  | halt o₂ s₂ =>
   rw [hs] at h;have h : Run.halted o₂ s₂ = Run.halted o s' := h;injection h with h1 h2
   have := step_halt_same _ _ _ _ _ _ _ hs;subst h1; subst h2; subst this;exact ⟨0, t, rfl, hs⟩
noncomputable def gw : Step → Bool
 | .halt (.done _) _ => true
 | _ => false
theorem fe {c : Prop} [Decidable c] {a b : Step} (h : gw (if c then a else b) = true) (ha : gw a = false) (hb : gw b = false) : False := by
 split at h
 ·rw [ha] at h; exact xS h
 rw [hb] at h; exact xS h
section
variable {den : Code → Sem Fin} {p : Program} {w : World} {hp : Heap} {gs : Array GenState} {dr : Drawn} {tk : Nat} {os : OsState} {code : Code} {pos : Pos} {stack : List Frame}
abbrev thG (den : Code → Sem Fin) (p : Program) (w : World) (hp : Heap) (gs : Array GenState) (dr : Drawn) (tk : Nat) (os : OsState) (code : Code) (pos : Pos) (stack : List Frame) (c : Sem Fin) : Prop :=
 gw (step den p w ⟨hp, gs, dr, tk, os⟩ ⟨c, code, pos, stack⟩) = true → through ⟨c, code, pos, stack⟩ = true
theorem tU : ∀ x stack, thG den p w hp gs dr tk os code pos stack (.pure x)
 | .again _, _, h => (xS h).elim
 | .done _, [], _ => rfl
 | .done _, .ret .. :: _, h => (xS h).elim
 | .done _, .gen .. :: _, h => (xS h).elim
theorem qT (e) : ∀ stack, thG den p w hp gs dr tk os code pos stack (.raise e)
 | [], h => (fe h rfl rfl).elim
 | .ret .. :: _, h => (xS h).elim
 | .gen .. :: _, h => (xS h).elim
theorem pR (g r l k) : thG den p w hp gs dr tk os code pos stack (.resume g r l k) := fun h => by
 have h : gw (match gs[g]? with | none => _ | some (.fresh c) => _ | some (.suspended kk _ c p frames _) => _ | some .running => _ | some .finished => _) = true := h;generalize gs[g]? = x at h;rcases x with _ | ⟨c⟩ | _ | _ | _
 ·exact (xS h).elim
 ·rcases r with v | _
  ·cases v <;> exact (xS h).elim
  exact (xS h).elim
 all_goals exact (xS h).elim
theorem qS (v g l k) : thG den p w hp gs dr tk os code pos stack (.yield v g l k) := fun h => by
 have h : gw (match splitAtGen stack with | some (_, (_, _, _, _), _) => _ | none => _) = true := h;generalize splitAtGen stack = x at h;cases x <;> exact (xS h).elim
theorem tV (a q k) : thG den p w hp gs dr tk os code pos stack (.load a q k) := fun h => by
 have h : gw (match hp.get? a with | some o => _ | none => _) = true := h;generalize hp.get? a = x at h;cases x <;> exact (xS h).elim
theorem uZ (g k) : thG den p w hp gs dr tk os code pos stack (.genState g k) := fun h => by
 have h : gw (match gs[g]? with | none => _ | some o => _) = true := h;generalize gs[g]? = x at h;cases x <;> exact (xS h).elim
theorem v8 (cur : Sem Fin) : thG den p w hp gs dr tk os code pos stack cur :=
 @Sem.casesOn Fin (thG den p w hp gs dr tk os code pos stack) cur
  (fun x => tU x _) (fun e => qT e _) (fun _ h => (xS h).elim) (fun _ h => (fe h rfl rfl).elim) (fun _ _ h => (xS h).elim) (fun _ _ h => (xS h).elim)
  tV (fun _ _ _ _ h => (fe h rfl rfl).elim) (fun _ _ h => (xS h).elim) (fun _ _ h => (xS h).elim) (fun _ _ h => (xS h).elim) (fun _ _ h => (xS h).elim)
  (fun _ h => (xS h).elim) (fun _ h => (xS h).elim) (fun _ _ _ h => (fe h rfl rfl).elim) (fun _ _ _ h => (xS h).elim) (fun _ _ _ _ _ h => (xS h).elim) (fun _ _ h => (xS h).elim)
  (fun _ _ h => (xS h).elim) uZ pR qS (fun _ h => (xS h).elim) (fun _ _ h => (xS h).elim) (fun _ h => (xS h).elim) (fun _ _ _ _ _ h => (xS h).elim)
end
theorem iK {den : Code → Sem Fin} {p : Program} {f : Flow} {s s' : Shared} {t : Thread} (h : step den p w s t = .halt (.done f) s') : through t = true :=
 v8 (den := den) (p := p) (w := w) (hp := s.heap) (gs := s.gens) (dr := s.drawn) (tk := s.toks) (os := s.os) t.cur (congrArg gw h)
theorem mt {s s' : Shared} {f : Flow} {t : Sem Fin} {c : Code} (hz : s.asleep) (h : Runs (model pw w) ⟨c, none, none, [], none⟩ default t [] s (.ret (.ok f)) s') (hl : leftWithCleanup s'.gens = false) (hn : s'.NoSusp) :
  (∃ n t', schedN (denote table) pw w n (.single s ⟨t, c, default, []⟩) = .running (.single s' t') ∧ through t' = true) ∧ s'.heap.life = s.heap.life := by
 obtain ⟨n, hr⟩ := halts_iff.mpr ⟨h, hl⟩;obtain ⟨s'', h1, h2, hc⟩ := runNI_real _ _ _ hr (outcomeOf_ends (.ok f));obtain rfl : s'' = s' := Shared.eq_of_forget_eq' h2 hn;have hlife := runN_life _ _ _ h1;obtain ⟨k, t₁, a, b⟩ := kH n _ _ h1;refine ⟨⟨k, t₁, ?_, iK b⟩, hlife⟩;have hseq : Sequential (denote table) pw w s ⟨t, c, default, []⟩ := ⟨hc, fun k s₂ hk => by
  have a := runN_mono _ _ _ n k s _ _ _ h1;have b := runN_mono _ _ _ k n s _ _ _ hk;rw [yX] at b;have a : Run.halted _ s'' = Run.halted _ s₂ := a.symm.trans b;injection a with a1 _
  cases a1⟩
 rw [schedN_eq_runN _ _ _ _ _ hz hseq, show runN (denote table) pw w k s ⟨t, c, default, []⟩ = _ from a];rfl
noncomputable def lQ : List (Obj × Nat) → BT → Bool
 | [], _ => true
 | (o, i) :: l, T => gu T i o && lQ l (T.ins i o)
theorem mE {h : Heap} : ∀ (l : List (Obj × Nat)) (T : BT), (∀ i o, T.get i = some o → h.get? i = some o) → lQ l T = true → (∀ p ∈ l, h.get? p.2 = some p.1) →
  ∀ i o, (l.foldl (fun t (o, i) => t.ins i o) T).get i = some o → h.get? i = some o
 | [], _, hT, _, _ => hT
 | (o, i) :: l, T, hT, hok, hl => by
  obtain ⟨h1, h2⟩ := Bool.and_eq_true_iff.mp (show (gu T i o && lQ l (T.ins i o)) = true from hok);exact mE l (T.ins i o) (iS h1 hT (hl _ (xT ..))) h2 fun p hp => hl p (xC _ hp)
theorem qB (w : World) : lQ ((boot_heap w.params).objs.toList.zipIdx) .nil = true := by kernel_rfl
theorem qC (w : World) : ((boot_heap w.params).objs.toList.all fun o => !o.isFreed) = true := by kernel_rfl
theorem kZ (w : World) : (boot_heap w.params).objs.size = 11 := by kernel_rfl
theorem tv {i : Nat} {o : Obj} (e : (boot_heap w.params).objs[i]? = some o) : (boot_heap w.params).get? i = some o := by
 have hb := List.all_eq_true.mp (qC w) o (by rw [← xu] at e; exact xB e);unfold Heap.get?;rw [e];obtain ⟨c, d, data, sl⟩ := o;cases data <;> first | rfl | cases hb
theorem rp {s : Shared} (h1 : s.heap = boot_heap w.params) (h2 : s.gens = #[]) (h4 : s.toks = boot_toks) : Rep ⟨s.drawn, s.os⟩ (T0 w) s := by
 refine ⟨by rw [h1]; exact kZ w, ?_, h4, h2, rfl, rfl⟩;rw [h1];refine mE _ .nil (fun i o e => by cases e) (qB w) fun p hp => ?_
 obtain ⟨o, i⟩ := p;have := List.mem_zipIdx_iff_getElem?.mp hp;refine tv ?_;rw [← xu];simpa using this
theorem ux {B : nr} {σ : TS} {s : Shared} (R : Rep B σ s) (h : vG σ = true) : s.heap = hp 453 s.heap.life σ := by
 obtain ⟨h1, h2⟩ := Bool.and_eq_true_iff.mp h;have hn : σ.n = 453 := Nat.eq_of_beq_eq_true h1;have hsz : s.heap.objs.size = 453 := R.size.trans hn;have hown := R.own;generalize s.heap = hh at hsz hown ⊢;obtain ⟨objs, life⟩ := hh;unfold hp;congr 1;apply Array.ext
 ·rw [hsz]; simp
 intro i hi1 hi2;have hi : i < 453 := by rw [← hsz]; exact hi1
 obtain ⟨o, ho⟩ := Option.isSome_iff_exists.mp (List.all_eq_true.mp h2 i (List.mem_range.mpr hi));have hg := hown i o ho;have hg' : objs[i]? = some o := by
  unfold Heap.get? at hg;dsimp only at hg;split at hg
  ·cases hg
  exact hg
 rw [xe hi1] at hg';injection hg' with hg'
 rw [hg'];simp [ho]
end Mine
end
section
namespace Mine
open PySem PySem.W PySem.Calls
theorem jT : opening pw = plainProg pw.main.scope.names := by kernel_rfl
theorem oF (s : Shared) : fenceModules? pw s = some s := by kernel_rfl
theorem tA {β : Type} {X : TS → β} {b : (Nat → Fl) → β} {led : Bool} {w : World}
  (hch : ∀ os f, dQ w (fun r σ => (base w os r σ, X σ)) (fls f) (r0' w) = cn led f (bK w, b f)) :
  (∃ s, AfterRun (opening pw) w s) ∧ ∀ s', AfterRun (opening pw) w s' → ∃ s₀, fenceModules? pw s' = some s₀ ∧ s₀.gens = #[] ∧ ∃ s, TopRan pw w s₀ s ∧ s.asleep ∧ leftWithCleanup s.gens = false ∧ s.heap.isNs mainGlobals = true ∧
   Ground q0 dY [] (fun _ _ => True) w s (s.heap.nsMap mainGlobals) (s.heap.nsMap builtinsNs) s.heap ∧ ∃ f σ, no w f ∧ X σ = b f ∧ (∀ i o, σ.T.get i = some o → s.heap.get? i = some o) ∧ ∃ life, s.heap = hp 453 life σ := by
 obtain ⟨s₀, h1, h2⟩ := xf (boot_open (p := pw) (N := 600) jT (by decide) oF w);rw [← table_eq_tree] at h1;obtain ⟨s, h4, h5⟩ := Option.bind_eq_some_iff.mp h1;have A := AfterImport.of_importEnds h4;refine ⟨⟨s, A⟩, fun s' hs' => ?_⟩;obtain rfl : s' = s := AfterImport.unique hs' A;have z : s₀.asleep := Shared.asleep_of_life (fence_lifeW h5) A.life;have e1 : s₀.heap = boot_heap w.params := congrArg Prod.fst h2;have e2 : s₀.gens = #[] := congrArg (fun x => x.2.1) h2;have e3 : s₀.drawn = boot_drawn := congrArg (fun x => x.2.2.1) h2;have e4 : s₀.toks = boot_toks := congrArg (fun x => x.2.2.2) h2;have good := qO (B := ⟨s₀.drawn, s₀.os⟩) (K := fun r s => ∃ f σ, no w f ∧ Rep ⟨s₀.drawn, s₀.os⟩ σ s ∧ (base w s₀.os r σ, X σ) = (bK w, b f)) (hch s₀.os)
  (fun f hf r σ e s hr => ⟨f, σ, hf, hr, e⟩)
 obtain ⟨e, s₁, hrun, r, rfl, f, σ, hF, hR, hX⟩ := mj uX 100000 Γ0 qZ default (T0 w) mN (fun e s => ∃ r, e = .ret r ∧ ∃ f σ, no w f ∧ Rep ⟨s₀.drawn, s₀.os⟩ σ s ∧ (base w s₀.os r σ, X σ) = (bK w, b f)) s₀
  (fun e σ' s' hg hr => by
   cases e with
   | ret r => exact ⟨r, rfl, hg s' hr⟩
   | susp => cases hg) good (rp e1 e2 e4)
 have hb : base w s₀.os r σ = bK w := congrArg Prod.fst hX;have b1 : (okR r && vG σ && staticsOk po (boot_heap w.params) (sh w s₀.os σ).heap && namesBound pw (sh w s₀.os σ).heap && laidKept (boot_heap w.params) (sh w s₀.os σ).heap) = true := congrArg Prod.fst hb;have b2 : σ.g = [GenState.finished] := congrArg (fun x => x.2.1) hb;have b3 : kI.map (σ.T.get ·) = kI.map fun i => (boot_heap w.params).objs[i]? := congrArg (fun x => x.2.2.1) hb
 have b4 : openSeen q0 dY po (fun _ => true) false (sh w s₀.os σ) = openGood q0 dY := congrArg (fun x => x.2.2.2) hb;simp only [yu] at b1;obtain ⟨⟨⟨⟨c1, c2⟩, c3⟩, c4⟩, c5⟩ := b1;obtain ⟨f', rfl⟩ : ∃ f', r = .ok f' := by
  cases r with
  | ok f' => exact ⟨f', rfl⟩
  | error => cases c1
 have hg1 : s₁.gens = #[GenState.finished] := by rw [hR.gens, b2]
 have hn : s₁.NoSusp := by intro x hx; rw [hg1] at hx; simp at hx; subst hx; rfl
 have hl : leftWithCleanup s₁.gens = false := hn.noCleanup;obtain ⟨hthr, hlife⟩ := mt z hrun hl hn;have hheap : s₁.heap = hp 453 (boot_heap w.params).life σ := by rw [ux hR c2, hlife, e1]
 have hs1 : s₁ = sh w s₀.os σ := by
  have h3 : s₁.drawn = boot_drawn := hR.drawn.trans e3;have h5 : s₁.os = s₀.os := hR.os;have h6 := hR.toks;have h7 := hR.gens;cases s₁;unfold sh;simp only at hheap h3 h5 h6 h7;rw [hheap, h3, h5, h6, h7]
 rw [← hs1] at b4 c3 c4 c5;rw [← e1] at c3 c5;obtain ⟨G, g0, g1, g2, g3, g4, g5⟩ := ground_of_open (w := w) (XP := fun _ _ => True) (fun _ _ => trivial) (by decide +kernel) b4;have kept : ∀ b o, s₀.heap.get? b = some o → b ≠ mainNs → b ≠ cStatics → s₁.heap.get? b = some o := by
  intro b o ho n1 n2;have hlt := al ho;rw [e1, kZ] at hlt;have hm : b ∈ kI := by
   have n1 : b ≠ 3 := n1;have n2 : b ≠ 2 := n2;have : ∀ b < 11, b ≠ 3 → b ≠ 2 → b ∈ kI := by decide
   exact this b hlt n1 n2
  have hT : σ.T.get b = (boot_heap w.params).objs[b]? := List.map_inj_left.mp b3 b hm;have hob : (boot_heap w.params).objs[b]? = some o := by
   rw [e1] at ho;unfold Heap.get? at ho;split at ho
   ·cases ho
   exact ho
  exact hR.own b o (hT.trans hob)
 refine ⟨s₀, h5, e2, s₁, ⟨hthr, hlife, Shared.rest_eq hR.os, fun b o hb hn => kept b o hb (fun q => hn (.inl q)) (fun q => hn (.inr (.inl q))), g2, statics_of_ok c3, g3, g4, g5, ?_, names_of_bound c4, laid_of_kept c5⟩, Shared.asleep_of_life hlife z, hl, g1, G, f, σ, hF, congrArg Prod.snd hX, hR.own, _, hheap⟩;intro g hg;rw [hg1] at hg;simp at hg;subst hg; decide
end Mine
end
section
namespace Mine
open PySem PySem.W PySem.Calls PyProof.Rows
noncomputable abbrev cv : OpenRow := PySem.Challenge.rw_ik0129_01.row
def tH {β : Type} (X : TS → β) (b : (Nat → Fl) → β) (w : World) (h : Heap) : Prop :=
 ∃ f σ, no w f ∧ X σ = b f ∧ ∀ i o, σ.T.get i = some o → h.get? i = some o
theorem tM (w : World) : wb w (w.params.followText "comprehension-iter-twice") ((w.withFollow "comprehension-iter-twice" (w.params.followText "comprehension-iter-twice")).params.followText "special-get-raises") = w := by
 unfold wb;rw [World.withFollow_self, World.withFollow_self]
theorem holds_mine {β : Type} {X : TS → β} {b : (Nat → Fl) → β} {d : DefRec} {kwd : List (Str × Expr)}
  (hch : ∀ w os f, dQ w (fun r σ => (base w os r σ, X σ)) (fls f) (r0' w) = cn (!(w.params.followText "set-order")) f (bK w, b f))
  (hdef : defOf q0 cv.name = some (d, kwd)) (hp : pw.theDef cv.name = some (d.params, d.body, d.scope)) (hk : kwWritten? d.params.kwonlyargs d.params.kw_defaults = some kwd)
  (k1 : cv.wellSaid = true) (hw : cv.toRowW.promised)
  (call : ∀ (w : World) (s₀ s₁ : Shared) (mg mb : Str → Option Value), Ground q0 dY [] (fun _ _ => True) w s₀ mg mb s₁.heap → tH X b w s₁.heap → ∀ (args : List WData) (vs : List Value) (as : List Addr),
   cv.toRowW.claim.pre args = true → WData.layableAll args = true → s₁.gens = #[] → ReadsAllW [] (classAt s₀.heap) s₁.heap vs args as → ∃ f, mg cv.name = some f ∧
    wpAny (model pw w) callerA (PySem.call f vs) (fun v s' => GoodW cv.toRowW.claim (classAt s₀.heap) (ExcName.means s₀.heap) args s₁ (.ok (.ret v)) s')
     (fun e s' => GoodW cv.toRowW.claim (classAt s₀.heap) (ExcName.means s₀.heap) args s₁ (.error e) s') s₁) : cv.Holds := by
 have ok : (chainsOk q0 && opensWell pw && (frees cv.toRowW && cv.toRowW.within.isEmpty)) = true := by decide +kernel
 obtain ⟨ok, k5⟩ := Bool.and_eq_true_iff.mp ok;obtain ⟨hchn, o1⟩ := Bool.and_eq_true_iff.mp ok;obtain ⟨k5, k6⟩ := Bool.and_eq_true_iff.mp k5;obtain ⟨hsame, hu, ha, hap, hm⟩ := frees_parts k5;refine ⟨k1, hw, ⟨⟨rfl, rfl, rfl, rfl, rfl, by decide +kernel⟩, o1, rfl⟩, hw.witness, fun w => ⟨(tA (hch w)).1, fun s' hs' => ?_⟩⟩;obtain ⟨s₀, hf, hg0, s, hT, hz, hgens, hg, G, f, σ, hF, hX, hown, _⟩ := (tA (hch w)).2 s' hs';have hT' := hT;refine ⟨s₀, hf, hg0, s, hT, fun n hn => ?_, (fun x hx => nomatch hx), (fun x hx => nomatch hx), ?_⟩
 ·obtain rfl : n = cv.name := by
   have hn : n ∈ [cv.name] := hn;exact List.mem_singleton.mp hn
  exact pinned_of_view hg G hdef hp hk
 refine ClaimW.callFrom_of_specN (c := cv.toRowW.claim) hz hgens fun args hpre hlay ord hord => ?_
 obtain ⟨⟨vs, s₁⟩, hlaid⟩ := Option.isSome_iff_exists.mp (layAllW_isSome (P := w.params) (ord := ord) G.has args cv.toRowW.args s (pre_splitW hpre).1);have keeps := layAllW_keeps _ _ _ hlaid;have hal := layAllW_rest _ _ _ hlaid;obtain ⟨as, hrd, hin, hold⟩ := reads_layAllW hord _ _ _ hlaid hlay s₁.heap (fun _ _ e => e);have G₁ := G.keeps (fun _ _ _ _ _ => trivial) keeps;obtain ⟨f, hf, h⟩ := call w s { s₁ with gens := #[] } _ _ G₁ ⟨f, σ, hF, hX, fun i o e => keeps _ _ (hown i o e)⟩ args vs as hpre hlay rfl hrd;have hi := ident_freeW hu ha hap;have hwi : cv.toRowW.claim.within = [] := List.isEmpty_iff.mp k6;refine ⟨vs, s₁, hlaid, ?_⟩;refine za (wpAny_nsGet (s := { s₁ with gens := #[] }) G₁.T.g ?_);rw [hf];refine za (zj h (fun v s' g => zb ⟨_, rfl, ?_⟩) fun e s' g => ?_)
 ·have z := g.endsN (c := cv.toRowW.claim) hsame hwi hi hrd hold hal.2.2.1;exact ⟨z.1, z.2.1, z.2.2, fun q => ⟨namesKept_of hT' hg _ keeps fun b o e => .inl (g.2.1 b o e), fun x hx => nomatch hx⟩⟩
 have z := g.endsN (c := cv.toRowW.claim) hsame hwi hi hrd hold hal.2.2.1;exact ⟨z.1, z.2.1, z.2.2, fun q => ⟨namesKept_of hT' hg _ keeps fun b o e => .inl (g.2.1 b o e), fun x hx => nomatch hx⟩⟩
end Mine
end
section
namespace Mine
open PySem PySem.W PySem.Calls PyProof.Rows
variable {φ φ' : List Addr} {a : Addr} {s' : Shared} {o : Obj} {σ : a8} {h' h : Heap}
inductive Val where
 | none
 | bool (b : Bool)
 | int (i : Int)
 | str (x : Str)
 | tup (l : List Val)
 | nt (l : List Val)
 | ref (k : Nat)
 | glob (v : Value)
inductive TupC (h : Heap) (V : Value) (c : Value) (q : List Value → Prop) : Prop
 | mk (a : Addr) (o : Obj) (n : Nat) (xs : Array Value) (e : V = .ref a) (ho : h.get? a = some o) (hc : o.cls = c) (hd : o.data = .seq xs n) (r : q xs.toList)
inductive RefC (φ : List Addr) (k : Nat) (V : Value) : Prop
 | mk (a : Addr) (h : φ[k]? = some a) (e : V = .ref a)
inductive ConsC (p : Value → Prop) (q : List Value → Prop) (Vs : List Value) : Prop
 | mk (V : Value) (Ws : List Value) (e : Vs = V :: Ws) (h1 : p V) (h2 : q Ws)
mutual
noncomputable def RV (φ : List Addr) (h : Heap) : Val → Value → Prop
 | .none, V => V = .none
 | .bool b, V => V = .bool b
 | .int i, V => ∃ t, V = .int i t
 | .str x, V => ∃ t, V = .str x t
 | .tup l, V => TupC h V (.type "tuple") (RL φ h l)
 | .nt l, V => TupC h V (.ref 387) (RL φ h l)
 | .ref k, V => RefC φ k V
 | .glob v, V => V = v
noncomputable def RL (φ : List Addr) (h : Heap) : List Val → List Value → Prop
 | [], Vs => Vs = []
 | v :: l, Vs => ConsC (RV φ h v) (RL φ h l) Vs
end
inductive ag where
 | list (l : List Val)
 | dict (l : List (Str × Val))
 | inst (k : Nat)
 | ns (d : Nat)
 | ns0
 | obj
noncomputable def RD (φ : List Addr) (h : Heap) : List (Str × Val) → List DictEntry → Prop
 | [], es => es = []
 | (x, v) :: l, es => ∃ e r, es = e :: r ∧ (∃ t, e.key = .str x t) ∧ RV φ h v e.val ∧ RD φ h l r
inductive LiC (φ : List Addr) (h : Heap) (a : Addr) (l : List Val) : Prop
 | mk (o : Obj) (xs : Array Value) (n : Nat) (e : h.get? a = some o) (hc : o.cls = .type "list" ∧ o.dict = none ∧ o.slots = #[]) (hd : o.data = .seq xs n) (r : RL φ h l xs.toList)
inductive DiC (w : World) (φ : List Addr) (h : Heap) (a : Addr) (l : List (Str × Val)) : Prop
 | mk (o : Obj) (es : Array DictEntry) (n : Nat) (e : h.get? a = some o) (hc : o.ExactDict) (hd : o.data = .dict es n) (hk : KeysOf (strKind pw w) es ∧ n = l.length) (r : RD φ h l es.toList)
inductive InC (φ : List Addr) (h : Heap) (a : Addr) (k : Nat) : Prop
 | mk (o : Obj) (dx : Addr) (e : h.get? a = some o) (hc : o.cls = .ref 142) (hx : o.dict = some dx) (hd : o.data = .plain) (r : φ[k]? = some dx)
inductive NsC (φ : List Addr) (h : Heap) (a : Addr) (d : Nat) : Prop
 | mk (o : Obj) (en : DictEntry) (n : Nat) (t : Tok) (e : h.get? a = some o) (hc : o.cls = .type "dict") (hd : o.data = .dict #[en] n) (ht : en.key = .str "dict" t) (r : RV φ h (.ref d) en.val)
inductive ObC (h : Heap) (a : Addr) : Prop
 | mk (o : Obj) (e : h.get? a = some o) (hc : o.cls = .type "object") (hd : o.data = .plain)
noncomputable def b5 (w : World) (φ : List Addr) (h : Heap) (a : Addr) : ag → Prop
 | .list l => LiC φ h a l
 | .dict l => DiC w φ h a l
 | .inst k => InC φ h a k
 | .ns d => NsC φ h a d
 | .ns0 => h.get? a = some { cls := .type "dict", data := .dict #[] }
 | .obj => ObC h a
noncomputable abbrev a8 := List ag
structure KB where
 w : World
 h0 : Heap
 os : OsState
structure KC extends KB where
 fs : List Env
noncomputable def KC.push (K : KC) (env : Env) : KC := ⟨K.toKB, env :: K.fs⟩
inductive gF (n : Nat) (φ : List Addr) (h : Heap) (env : Env) : Prop
 | mk (hk : env.scope.kind = .function) (L : Addr) (o : Obj) (es : Array DictEntry) (m : Nat) (h1 : env.frame = some L) (h2 : h.get? L = some o) (h3 : o.data = .dict es m) (h4 : n ≤ L) (h5 : L ∉ φ)
structure af (K : KC) (φ : List Addr) (σ : a8) (s : Shared) : Prop where
 base : ∀ a o, K.h0.get? a = some o → s.heap.get? a = some o
 grown : K.h0.objs.size ≤ s.heap.objs.size
 len : φ.length = σ.length
 nod : φ.Nodup
 hi : ∀ a ∈ φ, K.h0.objs.size ≤ a ∧ a < s.heap.objs.size
 cells : ∀ (k : Nat) (a : Addr) (c : ag), φ[k]? = some a → σ[k]? = some c → b5 K.w φ s.heap a c
 os : s.os = K.os
 gens : s.gens = #[]
 frs : ∀ env ∈ K.fs, gF K.h0.objs.size φ s.heap env
def i8 (h' : Heap) (a : Addr) (o : Obj) : Prop := h'.get? a = some o ∨ ((∃ es n, o.data = .dict es n) ∧ ∃ sl, h'.get? a = some { o with slots := sl })
theorem i8.exact (k : i8 h' a o) (hd : ∀ es n, o.data ≠ .dict es n) : h'.get? a = some o := by
 rcases k with k | ⟨⟨es, n, e⟩, _⟩
 ·exact k
 exact absurd e (hd es n)
theorem i8.data (k : i8 h' a o) : ∃ o', h'.get? a = some o' ∧ o'.data = o.data ∧ o'.cls = o.cls := by
 rcases k with k | ⟨_, sl, e⟩
 ·exact ⟨o, k, rfl, rfl⟩
 exact ⟨_, e, rfl, rfl⟩
theorem i8.trans {h'' : Heap} (k : i8 h' a o) (k2 : ∀ o', h'.get? a = some o' → i8 h'' a o') : i8 h'' a o := by
 rcases k with k | ⟨⟨es, n, e⟩, sl, k⟩
 ·exact k2 o k
 rcases k2 _ k with q | ⟨_, sl', q⟩
 ·exact .inr ⟨⟨es, n, e⟩, sl, q⟩
 exact .inr ⟨⟨es, n, e⟩, sl', q⟩
theorem i8.of (k : h'.get? a = some o) : i8 h' a o := .inl k
inductive tG (φ : List Addr) (s : Shared) (φ' : List Addr) : Prop
 | mk (new : List Addr) (e : φ' = φ ++ new) (h : ∀ a ∈ new, s.heap.objs.size ≤ a)
structure Ext (φ : List Addr) (s : Shared) (φ' : List Addr) (s' : Shared) : Prop where
 keep : ∀ a o, s.heap.get? a = some o → a ∉ φ → i8 s'.heap a o
 size : s.heap.objs.size ≤ s'.heap.objs.size
 more : tG φ s φ'
structure bo (own : List Addr) (φ : List Addr) (s : Shared) (φ' : List Addr) (s' : Shared) : Prop where
 keep : ∀ a o, s.heap.get? a = some o → a ∉ φ → a ∉ own → i8 s'.heap a o
 size : s.heap.objs.size ≤ s'.heap.objs.size
 more : tG φ s φ'
theorem b5.lives {w : World} {c : ag} (x : b5 w φ h a c) : ∃ o, h.get? a = some o := by
 cases c with
 | list l => obtain ⟨o, _, _, e, _⟩ := x; exact ⟨o, e⟩
 | dict l => obtain ⟨o, _, _, e, _⟩ := x; exact ⟨o, e⟩
 | inst d => obtain ⟨o, _, e, _⟩ := x; exact ⟨o, e⟩
 | ns d => obtain ⟨o, _, _, _, e, _⟩ := x; exact ⟨o, e⟩
 | ns0 => exact ⟨_, x⟩
 | obj => obtain ⟨o, e, _⟩ := x; exact ⟨o, e⟩
theorem b5.notTuple {w : World} {c : ag} (x : b5 w φ h a c) (e : h.get? a = some o) : o.cls ≠ .type "tuple" ∧ (o.cls = .ref 387 → False) := by
 cases c with
 | list l => obtain ⟨o', _, _, e', hc, _⟩ := x; rw [e] at e'; cases e'; rw [hc.1]; exact ⟨by decide, nofun⟩
 | dict l => obtain ⟨o', _, _, e', hc, _⟩ := x; rw [e] at e'; cases e'; rw [hc.1]; exact ⟨by decide, nofun⟩
 | inst d => obtain ⟨o', _, e', hc, _⟩ := x; rw [e] at e'; cases e'; rw [hc]; exact ⟨nofun, fun h => by injection h with h; exact absurd h (by decide)⟩
 | ns d => obtain ⟨o', _, _, _, e', hc, _⟩ := x; rw [e] at e'; cases e'; rw [hc]; exact ⟨by decide, nofun⟩
 | ns0 => have x : h.get? a = _ := x; rw [e] at x; cases x; exact ⟨by show ¬ (Value.type "dict" = _); decide, nofun⟩
 | obj => obtain ⟨o', e', hc, _⟩ := x; rw [e] at e'; cases e'; rw [hc]; exact ⟨by decide, nofun⟩
inductive vV (K : KC) (φ : List Addr) (σ : a8) (s : Shared) (a : Addr) : Prop
 | mk (k : Nat) (c : ag) (h1 : φ[k]? = some a) (h2 : σ[k]? = some c) (x : b5 K.w φ s.heap a c)
theorem af.cellOf {K : KC} {s : Shared} (G : af K φ σ s) {a : Addr} (ha : a ∈ φ) : vV K φ σ s a := by
 obtain ⟨k, hk, e⟩ := xQ ha;have e1 : φ[k]? = some a := by rw [xg hk, e]
 have hk2 : k < σ.length := G.len ▸ hk;exact ⟨k, σ[k], e1, xg hk2, G.cells k a _ e1 (xg hk2)⟩
theorem af.off {K : KC} {s : Shared} (G : af K φ σ s) {a : Addr} {o : Obj} (e : s.heap.get? a = some o) (h : o.cls = .type "tuple" ∨ o.cls = .ref 387) : a ∉ φ := by
 intro ha;obtain ⟨k, c, _, _, x⟩ := G.cellOf ha;obtain ⟨h1, h2⟩ := x.notTuple e;rcases h with h | h
 ·exact h1 h
 exact h2 h
mutual
theorem RV.keep {φ φ' : List Addr} {h h' : Heap} (hk : ∀ a o, h.get? a = some o → (o.cls = .type "tuple" ∨ o.cls = .ref 387) ∧ (∃ xs n, o.data = .seq xs n) → h'.get? a = some o) (hp : ∃ new, φ' = φ ++ new) : ∀ {v : Val} {V : Value}, RV φ h v V → RV φ' h' v V
 | .none, V, x => by unfold RV at x ⊢; exact x
 | .bool b, V, x => by unfold RV at x ⊢; exact x
 | .int i, V, x => by unfold RV at x ⊢; exact x
 | .str y, V, x => by unfold RV at x ⊢; exact x
 | .tup l, V, x => by
  unfold RV at x ⊢;obtain ⟨a, o, n, xs, e, ho, hc, hd, r⟩ := x;exact ⟨a, o, n, xs, e, hk a o ho ⟨.inl hc, xs, n, hd⟩, hc, hd, RL.keep hk hp r⟩
 | .nt l, V, x => by
  unfold RV at x ⊢;obtain ⟨a, o, n, xs, e, ho, hc, hd, r⟩ := x;exact ⟨a, o, n, xs, e, hk a o ho ⟨.inr hc, xs, n, hd⟩, hc, hd, RL.keep hk hp r⟩
 | .ref k, V, x => by
  unfold RV at x ⊢;obtain ⟨a, e, r⟩ := x;obtain ⟨new, rfl⟩ := hp;exact ⟨a, by rw [xc (x7 e).1]; exact e, r⟩
 | .glob v, V, x => by unfold RV at x ⊢; exact x
theorem RL.keep {φ φ' : List Addr} {h h' : Heap} (hk : ∀ a o, h.get? a = some o → (o.cls = .type "tuple" ∨ o.cls = .ref 387) ∧ (∃ xs n, o.data = .seq xs n) → h'.get? a = some o) (hp : ∃ new, φ' = φ ++ new) : ∀ {l : List Val} {Vs : List Value}, RL φ h l Vs → RL φ' h' l Vs
 | [], Vs, x => by unfold RL at x ⊢; exact x
 | v :: l, Vs, x => by
  unfold RL at x ⊢;obtain ⟨V, Ws, e, r1, r2⟩ := x;exact ⟨V, Ws, e, RV.keep hk hp r1, RL.keep hk hp r2⟩
end
theorem RD.keep {φ φ' : List Addr} {h h' : Heap} (hk : ∀ a o, h.get? a = some o → (o.cls = .type "tuple" ∨ o.cls = .ref 387) ∧ (∃ xs n, o.data = .seq xs n) → h'.get? a = some o) (hp : ∃ new, φ' = φ ++ new) : ∀ {l : List (Str × Val)} {es : List DictEntry}, RD φ h l es → RD φ' h' l es
 | [], es, x => x
 | (y, v) :: l, es, x => by
  obtain ⟨e, r, he, ht, r1, r2⟩ := x;exact ⟨e, r, he, ht, r1.keep hk hp, RD.keep hk hp r2⟩
theorem Ext.tuples {K : KC} {s : Shared} (G : af K φ σ s) (X : Ext φ s φ' s') : ∀ a o, s.heap.get? a = some o → (o.cls = .type "tuple" ∨ o.cls = .ref 387) ∧ (∃ xs n, o.data = .seq xs n) → s'.heap.get? a = some o :=
 fun a o e h => (X.keep a o e (G.off e h.1)).exact fun es n q => by obtain ⟨xs, m, h⟩ := h.2; rw [h] at q; cases q
theorem Ext.pre {s : Shared} (X : Ext φ s φ' s') : ∃ new, φ' = φ ++ new := let ⟨n, e, _⟩ := X.more; ⟨n, e⟩
theorem Ext.refl (φ : List Addr) (s : Shared) : Ext φ s φ s := ⟨fun _ _ e _ => .inl e, z6 _, [], by simp, by simp⟩
theorem Ext.trans {φ'' : List Addr} {s s'' : Shared} (X : Ext φ s φ' s') (Y : Ext φ' s' φ'' s'') : Ext φ s φ'' s'' := by
 obtain ⟨n1, e1, h1⟩ := X.more;obtain ⟨n2, e2, h2⟩ := Y.more;refine ⟨fun a o e ha => (X.keep a o e ha).trans fun o' e' => Y.keep a o' e' ?_, yT X.size Y.size, n1 ++ n2, by rw [e2, e1, yf], ?_⟩
 ·rw [e1, yD];rintro (h | h)
  ·exact ha h
  exact absurd (al e) (yO (h1 a h))
 intro a ha;rcases yd ha with h | h
 ·exact h1 a h
 exact yT X.size (h2 a h)
theorem RV.ext {K : KC} {s : Shared} {v : Val} {V : Value} (G : af K φ σ s) (X : Ext φ s φ' s') (r : RV φ s.heap v V) : RV φ' s'.heap v V := r.keep (X.tuples G) X.pre
theorem RL.ext {K : KC} {s : Shared} {l : List Val} {Vs : List Value} (G : af K φ σ s) (X : Ext φ s φ' s') (r : RL φ s.heap l Vs) : RL φ' s'.heap l Vs := r.keep (X.tuples G) X.pre
theorem Ext.toS {s : Shared} (own : List Addr) (X : Ext φ s φ' s') : bo own φ s φ' s' := ⟨fun a o e h _ => X.keep a o e h, X.size, X.more⟩
theorem bo.trans {own φ'' : List Addr} {s s'' : Shared} (X : bo own φ s φ' s') (Y : bo own φ' s' φ'' s'') : bo own φ s φ'' s'' := by
 obtain ⟨n1, e1, h1⟩ := X.more;obtain ⟨n2, e2, h2⟩ := Y.more;refine ⟨fun a o e ha hb => (X.keep a o e ha hb).trans fun o' e' => Y.keep a o' e' ?_ hb, yT X.size Y.size, n1 ++ n2, by rw [e2, e1, yf], ?_⟩
 ·rw [e1, yD];rintro (h | h)
  ·exact ha h
  exact absurd (al e) (yO (h1 a h))
 intro a ha;rcases yd ha with h | h
 ·exact h1 a h
 exact yT X.size (h2 a h)
def VarIs (env : Env) (h : Heap) (m : Str → Option Value) (x : Str) (V : Value) : Prop :=
 (env.kindOf x = some .local ∧ m x = some V) ∨ ∃ c, (env.kindOf x = some .cell ∨ env.kindOf x = some .free) ∧ env.cells.lookup x = some c ∧ h.IsCell c (some V)
noncomputable abbrev ai := List (Option Val)
structure Frm where
 env : Env
 own : List Addr
 names : List Str
def OwnD (o : Obj) : Prop := (∀ xs n, o.data ≠ .seq xs n) ∧ ∀ vs, o.data ≠ .fields vs
inductive tF (n : Nat) (φ : List Addr) (h : Heap) (a : Addr) : Prop
 | mk (h1 : n ≤ a) (h2 : a ∉ φ) (o : Obj) (h3 : h.get? a = some o) (h4 : OwnD o)
theorem tF.le {n : Nat} : tF n φ h a → n ≤ a | ⟨h, _, _, _, _⟩ => h
theorem tF.off {n : Nat} : tF n φ h a → a ∉ φ | ⟨_, h, _, _, _⟩ => h
inductive CelC (L : Addr) (h : Heap) (c : Addr) : Prop
 | mk (h1 : c ≠ L) (v : Option Value) (h2 : h.IsCell c v)
inductive VarC (env : Env) (h : Heap) (m : Str → Option Value) (x : Str) (φ : List Addr) (v : Val) : Prop
 | mk (V : Value) (h1 : VarIs env h m x V) (h2 : RV φ h v V)
structure aM (K : KC) (F : Frm) (vals : ai) (φ : List Addr) (h : Heap) : Prop where
 fn : F.env.scope.kind = .function
 glb : F.env.globals = mainGlobals
 blt : F.env.builtins = builtinsNs
 nod : F.names.Nodup
 loc : F.env.locals ∈ F.own
 own : ∀ a ∈ F.own, tF K.h0.objs.size φ h a
 lens : vals.length = F.names.length
 cell : ∀ x c, F.env.kindOf x = some .cell → F.env.cells.lookup x = some c → CelC F.env.locals h c
 inj : ∀ x y c, F.env.cells.lookup x = some c → F.env.cells.lookup y = some c → x = y
 var : ∃ m, h.Ns F.env.locals m ∧ ∀ (i : Nat) (x : Str) (v : Val), F.names[i]? = some x → vals[i]? = some (some v) → VarC F.env h m x φ v
end Mine
end
section
namespace Mine
open PySem PySem.W PySem.Calls PyProof.Rows
variable {pos : Pos} {φ : List Addr} {es : List Expr} {b : Bool} {e l r : Expr} {h h' : Heap} {v : Val} {a : Addr}
theorem b5.notCell {w : World} {c : ag} {o : Obj} {v : Option Value} (x : b5 w φ h a c) (e : h.get? a = some o) (hd : o.data = .cell v) : False := by
 cases c with
 | list l => obtain ⟨o', _, _, e', _, h', _⟩ := x; rw [e] at e'; cases e'; rw [hd] at h'; cases h'
 | dict l => obtain ⟨o', _, _, e', _, h', _⟩ := x; rw [e] at e'; cases e'; rw [hd] at h'; cases h'
 | inst d => obtain ⟨o', _, e', _, _, h', _⟩ := x; rw [e] at e'; cases e'; rw [hd] at h'; cases h'
 | ns d => obtain ⟨o', _, _, _, e', _, h', _⟩ := x; rw [e] at e'; cases e'; rw [hd] at h'; cases h'
 | ns0 => have x : h.get? a = _ := x; rw [e] at x; cases x; cases hd
 | obj => obtain ⟨o', e', _, h'⟩ := x; rw [e] at e'; cases e'; rw [hd] at h'; cases h'
theorem af.offCell {K : KC} {σ : a8} {s : Shared} (G : af K φ σ s) {c : Addr} {v : Option Value} (x : s.heap.IsCell c v) : c ∉ φ := by
 intro ha;obtain ⟨_, _, _, _, y⟩ := G.cellOf ha;obtain ⟨o, ho, hd⟩ := x;exact y.notCell ho hd
section
variable {K : KC} {φ φ' : List Addr} {σ σ' : a8} {s s' : Shared} {F : Frm} {vals : ai}
theorem Ext.cell {c : Addr} {v : Option Value} (G : af K φ σ s) (X : Ext φ s φ' s') (x : s.heap.IsCell c v) : s'.heap.IsCell c v := by
 have := G.offCell x;obtain ⟨o, ho, hd⟩ := x;exact ⟨o, (X.keep c o ho this).exact (fun es n q => by rw [hd] at q; cases q), hd⟩
theorem Ext.notIn {o : Obj} (X : Ext φ s φ' s') (e : s.heap.get? a = some o) (h : a ∉ φ) : a ∉ φ' := by
 obtain ⟨new, rfl, hn⟩ := X.more;rw [yD];rintro (q | q)
 ·exact h q
 exact absurd (al e) (yO (hn a q))
theorem aM.ext (G : af K φ σ s) (I : aM K F vals φ s.heap) (X : Ext φ s φ' s') : aM K F vals φ' s'.heap := by
 refine ⟨I.fn, I.glb, I.blt, I.nod, I.loc, fun a ha => ?_, I.lens, fun x c h1 h2 => ?_, I.inj, ?_⟩
 ·obtain ⟨h1, h2, o, h3, h4⟩ := I.own a ha;obtain ⟨o', e', hd', _⟩ := (X.keep a o h3 h2).data;exact ⟨h1, X.notIn h3 h2, o', e', ⟨fun xs n => hd' ▸ h4.1 xs n, fun vs => hd' ▸ h4.2 vs⟩⟩
 ·obtain ⟨h3, v, h4⟩ := I.cell x c h1 h2;exact ⟨h3, v, X.cell G h4⟩
 obtain ⟨m, hm, hv⟩ := I.var;refine ⟨m, ?_, fun i x v h1 h2 => ?_⟩
 ·obtain ⟨o, es, n, ho, hdd, r⟩ := hm;obtain ⟨o', e', hd', _⟩ := (X.keep _ o ho (I.own _ I.loc).off).data;exact ⟨o', es, n, e', hd'.trans hdd, r⟩
 obtain ⟨V, hV, r⟩ := hv i x v h1 h2;refine ⟨V, ?_, r.ext G X⟩;rcases hV with q | ⟨c, q1, q2, q3⟩
 ·exact .inl q
 exact .inr ⟨c, q1, q2, X.cell G q3⟩
end
structure bj (K : KC) (hn : Bool) (d : Nat) (A : Around) : Prop where
 hand : hn = true → A.handled = none
 frames : A.frames = some K.fs
 depth : A.depth + d < 990
 units : A.units + 60 * d + 100 < 9000
def TV (K : KC) (hn : Bool) (d : Nat) (F : Frm) (vals : ai) (σ : a8) {α : Type} (t : Sem α) (Rel : List Addr → Heap → α → Prop) (σ' : a8) : Prop :=
 ∀ (A : Around) (φ : List Addr) (s : Shared), bj K hn d A → af K φ σ s → aM K F vals φ s.heap → ∀ (Q : α → Shared → Prop) (E : Value → Shared → Prop),
  (∀ φ' s' x, Ext φ s φ' s' → af K φ' σ' s' → Rel φ' s'.heap x → Q x s') → wpAny (model pw K.w) A t Q E s
abbrev EvE (K : KC) (hn : Bool) (d : Nat) (F : Frm) (vals : ai) (σ : a8) (e : Expr) (v : Val) (σ' : a8) : Prop :=
 TV K hn d F vals σ (eval e F.env) (fun φ h V => RV φ h v V) σ'
abbrev EvB (K : KC) (hn : Bool) (d : Nat) (F : Frm) (vals : ai) (σ : a8) (e : Expr) (b : Bool) (σ' : a8) : Prop :=
 TV K hn d F vals σ (isTrue e F.env (eval e F.env)) (fun _ _ b' => b' = b) σ'
abbrev EvL (K : KC) (hn : Bool) (d : Nat) (F : Frm) (vals : ai) (σ : a8) (pos : Pos) (es : List Expr) (l : List Val) (σ' : a8) : Prop :=
 TV K hn d F vals σ (spliced (backTo pos (starEach es F.env))) (fun φ h Vs => RL φ h l Vs) σ'
def P1 (K : KC) (hn : Bool) (d : Nat) (σ : a8) (f : Value → Sem Value) (v1 v : Val) (σ' : a8) : Prop :=
 ∀ (A : Around) (φ : List Addr) (s : Shared) (V1 : Value), bj K hn d A → af K φ σ s → RV φ s.heap v1 V1 → ∀ (Q : Value → Shared → Prop) (E : Value → Shared → Prop),
  (∀ φ' s' V, Ext φ s φ' s' → af K φ' σ' s' → RV φ' s'.heap v V → Q V s') → wpAny (model pw K.w) A (f V1) Q E s
def P2 (K : KC) (hn : Bool) (d : Nat) (σ : a8) (f : Value → Value → Sem Value) (v1 v2 v : Val) (σ' : a8) : Prop :=
 ∀ (A : Around) (φ : List Addr) (s : Shared) (V1 V2 : Value), bj K hn d A → af K φ σ s → RV φ s.heap v1 V1 → RV φ s.heap v2 V2 → ∀ (Q : Value → Shared → Prop) (E : Value → Shared → Prop),
  (∀ φ' s' V, Ext φ s φ' s' → af K φ' σ' s' → RV φ' s'.heap v V → Q V s') → wpAny (model pw K.w) A (f V1 V2) Q E s
def PC (K : KC) (hn : Bool) (d : Nat) (σ : a8) (f : Value) (l : List Val) (kw : List (Str × Val)) (v : Val) (σ' : a8) : Prop :=
 ∀ (A : Around) (φ : List Addr) (s : Shared) (Vs Ws : List Value), bj K hn d A → af K φ σ s → RL φ s.heap l Vs → RL φ s.heap (kw.map (·.2)) Ws → ∀ (Q : Value → Shared → Prop) (E : Value → Shared → Prop),
  (∀ φ' s' V, Ext φ s φ' s' → af K φ' σ' s' → RV φ' s'.heap v V → Q V s') → wpAny (model pw K.w) A (call f Vs ((kw.map (·.1)).zip Ws)) Q E s
section
variable {K : KC} {hn : Bool} {d : Nat} {F : Frm} {vals : ai} {σ σ1 σ2 σ3 : a8}
theorem af.toks {s : Shared} (G : af K φ σ s) (t : Nat) : af K φ σ { s with toks := t } := ⟨G.base, G.grown, G.len, G.nod, G.hi, G.cells, G.os, G.gens, G.frs⟩
theorem Ext.toks (φ : List Addr) (s : Shared) (t : Nat) : Ext φ s φ { s with toks := t } := ⟨fun _ _ e _ => .inl e, z6 _, [], by simp, by simp⟩
theorem b7 {i : Int} {k pos} : EvE K hn d F vals σ (.Constant (.int i) k pos) (.int i) σ := fun A φ s R G I Q E hQ =>
 wpAny_Constant_int (hQ φ _ _ (Ext.toks ..) (G.toks _) (by unfold RV; exact ⟨_, rfl⟩))
theorem bi {x : Str} {k pos} : EvE K hn d F vals σ (.Constant (.str x) k pos) (.str x) σ := fun A φ s R G I Q E hQ =>
 wpAny_Constant_str (hQ φ _ _ (Ext.toks ..) (G.toks _) (by unfold RV; exact ⟨_, rfl⟩))
theorem e_none {k pos} : EvE K hn d F vals σ (.Constant .none k pos) .none σ := fun A φ s R G I Q E hQ =>
 wpAny_Constant_none (hQ φ _ _ (Ext.refl ..) G (by unfold RV; rfl))
theorem h8 {k pos} : EvE K hn d F vals σ (.Constant (.bool b) k pos) (.bool b) σ := fun A φ s R G I Q E hQ =>
 wpAny_Constant_bool (hQ φ _ _ (Ext.refl ..) G (by unfold RV; rfl))
theorem a7 {x : Str} (i : Nat) (hi : F.names[i]? = some x) (hv : vals[i]? = some (some v)) (hd : (x == ("__debug__" : Str)) = false := by decide)
  (hc : (x == ("__classdict__" : Str)) = false := by decide) : EvE K hn d F vals σ (.Name x pos) v σ := fun A φ s R G I Q E hQ => by
 obtain ⟨m, hm, h⟩ := I.var;obtain ⟨V, hV, r⟩ := h i x v hi hv;have fin := hQ φ s V (Ext.refl ..) G r;refine wpAny_Name ?_ hd;rcases hV with ⟨h1, h2⟩ | ⟨c, h1 | h1, h2, h3⟩
 ·exact wpAny_loadName_local I.fn h1 hm h2 fin
 ·exact wpAny_loadName_cell I.fn h1 h2 h3 fin
 exact wpAny_loadName_free I.fn h1 h2 h3 fin hc
theorem aS {op : Operator} {a b : Val} (h1 : EvE K hn d F vals σ l a σ1) (h2 : EvE K hn d F vals σ1 r b σ2) (h3 : P2 K hn d σ2 (binaryOp op) a b v σ3) :
  EvE K hn d F vals σ (.BinOp l op r pos) v σ3 := fun A φ s R G I Q E hQ => by
 refine wpAny_BinOp (h1 A φ s R G I _ _ fun φ1 s1 V1 X1 G1 r1 => ?_);refine h2 A φ1 s1 R G1 (I.ext G X1) _ _ fun φ2 s2 V2 X2 G2 r2 => ?_
 refine h3 A φ2 s2 V1 V2 R G2 (r1.ext G1 X2) r2 _ _ fun φ3 s3 V X3 G3 r3 => ?_
 exact hQ φ3 s3 V ((X1.trans X2).trans X3) G3 r3
theorem e_cmp {op : CmpOp} {a b : Val} (h1 : EvE K hn d F vals σ l a σ1) (h2 : EvE K hn d F vals σ1 r b σ2) (h3 : P2 K hn d σ2 (compareOp op) a b v σ3)
  (hm : behindInMarks op r = false := by with_unfolding_all rfl) : EvE K hn d F vals σ (.Compare l [op] [r] pos) v σ3 := fun A φ s R G I Q E hQ => by
 refine wpAny_Compare1 (h1 A φ s R G I _ _ fun φ1 s1 V1 X1 G1 r1 => ?_) hm;refine h2 A φ1 s1 R G1 (I.ext G X1) _ _ fun φ2 s2 V2 X2 G2 r2 => ?_
 refine h3 A φ2 s2 V1 V2 R G2 (r1.ext G1 X2) r2 _ _ fun φ3 s3 V X3 G3 r3 => ?_
 exact hQ φ3 s3 V ((X1.trans X2).trans X3) G3 r3
theorem av {op : CmpOp} {a b : Val} {v : Bool} (h1 : EvE K hn d F vals σ l a σ1) (h2 : EvE K hn d F vals σ1 r b σ2) (h3 : P2 K hn d σ2 (compareOp op) a b (.bool v) σ3)
  (hm : behindInMarks op r = false := by with_unfolding_all rfl) : EvB K hn d F vals σ (.Compare l [op] [r] pos) v σ3 := fun A φ s R G I Q E hQ => by
 refine wpAny_isTrue_Compare1 (h1 A φ s R G I _ _ fun φ1 s1 V1 X1 G1 r1 => ?_) hm;refine h2 A φ1 s1 R G1 (I.ext G X1) _ _ fun φ2 s2 V2 X2 G2 r2 => ?_
 refine h3 A φ2 s2 V1 V2 R G2 (r1.ext G1 X2) r2 _ _ fun φ3 s3 V X3 G3 r3 => ?_
 unfold RV at r3;subst r3;exact wpAny_truthy_bool (hQ φ3 s3 v ((X1.trans X2).trans X3) G3 rfl)
theorem l6 {x : Expr} (h : EvB K hn d F vals σ x b σ1) : EvB K hn d F vals σ (.UnaryOp .Not x pos) (!b) σ1 := fun A φ s R G I Q E hQ =>
 wpAny_isTrue_Not (h A φ s R G I _ _ fun φ1 s1 b' X1 G1 r1 => hQ φ1 s1 _ X1 G1 (by rw [r1]))
def dS (K : KC) (hn : Bool) (d : Nat) (F : Frm) (vals : ai) (σ : a8) (op : BoolOp) (es : List Expr) (b : Bool) (σ' : a8) : Prop :=
 TV K hn d F vals σ (allTrue op es F.env) (fun _ _ b' => b' = b) σ'
theorem i5 {op : BoolOp} (h : dS K hn d F vals σ op es b σ1) : EvB K hn d F vals σ (.BoolOp op es pos) b σ1 := fun A φ s R G I Q E hQ =>
 wpAny_isTrue_BoolOp (h A φ s R G I Q E hQ)
theorem iI : dS K hn d F vals σ .And [] true σ := fun A φ s R G I Q E hQ => wpAny_allTrue_And_nil (hQ φ s true (Ext.refl ..) G rfl)
theorem eg (h : EvB K hn d F vals σ e false σ1) : dS K hn d F vals σ .And (e :: es) false σ1 := fun A φ s R G I Q E hQ =>
 wpAny_allTrue_And_cons (h A φ s R G I _ _ fun φ1 s1 b' X1 G1 r1 => by subst r1; exact hQ φ1 s1 false X1 G1 rfl)
theorem dD (h : EvB K hn d F vals σ e true σ1) (h2 : dS K hn d F vals σ1 .And es b σ2) : dS K hn d F vals σ .And (e :: es) b σ2 := fun A φ s R G I Q E hQ =>
 wpAny_allTrue_And_cons (h A φ s R G I _ _ fun φ1 s1 b' X1 G1 r1 => by
  subst r1;exact h2 A φ1 s1 R G1 (I.ext G X1) _ _ fun φ2 s2 b2 X2 G2 r2 => hQ φ2 s2 b2 (X1.trans X2) G2 r2)
theorem jL : dS K hn d F vals σ .Or [] false σ := fun A φ s R G I Q E hQ => wpAny_allTrue_Or_nil (hQ φ s false (Ext.refl ..) G rfl)
theorem oR (h : EvB K hn d F vals σ e true σ1) : dS K hn d F vals σ .Or (e :: es) true σ1 := fun A φ s R G I Q E hQ =>
 wpAny_allTrue_Or_cons (h A φ s R G I _ _ fun φ1 s1 b' X1 G1 r1 => by subst r1; exact hQ φ1 s1 true X1 G1 rfl)
theorem i6 (h : EvB K hn d F vals σ e false σ1) (h2 : dS K hn d F vals σ1 .Or es b σ2) : dS K hn d F vals σ .Or (e :: es) b σ2 := fun A φ s R G I Q E hQ =>
 wpAny_allTrue_Or_cons (h A φ s R G I _ _ fun φ1 s1 b' X1 G1 r1 => by
  subst r1;exact h2 A φ1 s1 R G1 (I.ext G X1) _ _ fun φ2 s2 b2 X2 G2 r2 => hQ φ2 s2 b2 (X1.trans X2) G2 r2)
theorem ac : EvL K hn d F vals σ pos [] [] σ := fun A φ s R G I Q E hQ => wpAny_items_nil (hQ φ s [] (Ext.refl ..) G (by unfold RL; rfl))
theorem aa {l : List Val} (h : EvE K hn d F vals σ e v σ1) (h2 : EvL K hn d F vals σ1 pos es l σ2)
  (he : starEach (e :: es) F.env = (false, eval e F.env) :: starEach es F.env := by rfl) : EvL K hn d F vals σ pos (e :: es) (v :: l) σ2 := fun A φ s R G I Q E hQ =>
 wpAny_items_cons (h A φ s R G I _ _ fun φ1 s1 V X1 G1 r1 => h2 A φ1 s1 R G1 (I.ext G X1) _ _ fun φ2 s2 Vs X2 G2 r2 =>
  hQ φ2 s2 (V :: Vs) (X1.trans X2) G2 (by unfold RL; exact ⟨V, Vs, rfl, r1.ext G1 X2, r2⟩)) he
theorem RL.length {φ : List Addr} {h : Heap} : ∀ {l : List Val} {Vs : List Value}, RL φ h l Vs → Vs.length = l.length
 | [], Vs, x => by unfold RL at x; rw [x]; rfl
 | v :: l, Vs, x => by unfold RL at x; obtain ⟨V, Ws, rfl, _, r⟩ := x; rw [ym, ym, RL.length r]
theorem Ext.push (φ : List Addr) (s : Shared) (o : Obj) : Ext φ s φ { s with heap := s.heap.push o } :=
 ⟨fun _ _ e _ => .inl (xo _ e), by show _ ≤ (s.heap.push o).objs.size; rw [yM]; exact z8 _, [], by simp, by simp⟩
theorem b5.keep {w : World} {φ' : List Addr} {c : ag} (hk : ∀ b o, h.get? b = some o → (((o.cls = .type "tuple" ∨ o.cls = .ref 387) ∧ (∃ xs n, o.data = .seq xs n)) ∨ b = a) → h'.get? b = some o) (hp' : ∃ new, φ' = φ ++ new)
  (x : b5 w φ h a c) : b5 w φ' h' a c := by
 have hk' : ∀ b o, h.get? b = some o → (o.cls = .type "tuple" ∨ o.cls = .ref 387) ∧ (∃ xs n, o.data = .seq xs n) → h'.get? b = some o := fun b o e hc => hk b o e (.inl hc)
 cases c with
 | list l => obtain ⟨o, xs, n, e, hc, hd, r⟩ := x; exact ⟨o, xs, n, hk a o e (.inr rfl), hc, hd, r.keep hk' hp'⟩
 | dict l => obtain ⟨o, es, n, e, hc, hd, hkk, r⟩ := x; exact ⟨o, es, n, hk a o e (.inr rfl), hc, hd, hkk, r.keep hk' hp'⟩
 | inst dd =>
  obtain ⟨o, dx, e, hc, hd, hp1, hn⟩ := x;obtain ⟨new, rfl⟩ := hp';exact ⟨o, dx, hk a o e (.inr rfl), hc, hd, hp1, by rw [xc (x7 hn).1]; exact hn⟩
 | ns dd => obtain ⟨o, en, n, t, e, hc, hd, ht, r⟩ := x; exact ⟨o, en, n, t, hk a o e (.inr rfl), hc, hd, ht, r.keep hk' hp'⟩
 | ns0 => exact hk a _ x (.inr rfl)
 | obj => obtain ⟨o, e, hc, hd⟩ := x; exact ⟨o, hk a o e (.inr rfl), hc, hd⟩
theorem gF.keep {n : Nat} {env : Env} (x : gF n φ h env) (hk : ∀ b o, h.get? b = some o → (∃ es m, o.data = .dict es m) → b ∉ φ → ∃ o' es m, h'.get? b = some o' ∧ o'.data = .dict es m) : gF n φ h' env := by
 obtain ⟨hkd, L, o, es, m, h1, h2, h3, h4, h5⟩ := x;obtain ⟨o', es', m', e1, e2⟩ := hk L o h2 ⟨es, m, h3⟩ h5;exact ⟨hkd, L, o', es', m', h1, e1, e2, h4, h5⟩
theorem gF.all {n : Nat} {env : Env} (x : gF n φ h env) (hk : ∀ b o, h.get? b = some o → h'.get? b = some o) : gF n φ h' env := x.keep fun b o e ⟨es, m, hd⟩ _ => ⟨o, es, m, hk b o e, hd⟩
theorem af.push {s : Shared} (G : af K φ σ s) (o : Obj) : af K φ σ { s with heap := s.heap.push o } := by
 have hs : (s.heap.push o).objs.size = s.heap.objs.size + 1 := yM ..
 refine ⟨fun a x e => xo _ (G.base a x e), ?_, G.len, G.nod, fun a ha => ?_, fun k a c h1 h2 => ?_, G.os, G.gens, fun env he => (G.frs env he).all fun b x e => xo _ e⟩
 ·show _ ≤ (s.heap.push o).objs.size;rw [hs]; exact yk G.grown
 ·show _ ∧ a < (s.heap.push o).objs.size;rw [hs]; exact ⟨(G.hi a ha).1, yl (G.hi a ha).2⟩
 exact (G.cells k a c h1 h2).keep (fun b x e _ => xo _ e) ⟨[], by simp⟩
theorem bD {k : Nat} {l : List Val} (h : EvL K hn d F vals σ pos es l σ1) (hl : l.length ≤ sizeLine := by decide) : EvE K hn d F vals σ (.Tuple es k pos) (.tup l) σ1 := fun A φ s R G I Q E hQ =>
 wpAny_Tuple (h A φ s R G I _ _ fun φ1 s1 Vs X1 G1 r1 => ⟨by rw [r1.length]; exact hl,
  hQ φ1 _ _ (X1.trans (Ext.push ..)) (G1.push _) (by
   unfold RV;exact ⟨_, _, 0, Vs.toArray, rfl, xL _ rfl, rfl, rfl, by simpa using RL.ext G1 (Ext.push ..) r1⟩)⟩)
theorem af.alloc {s : Shared} (G : af K φ σ s) (o : Obj) (c : ag) (hc : b5 K.w (φ ++ [s.heap.objs.size]) (s.heap.push o) s.heap.objs.size c) :
  af K (φ ++ [s.heap.objs.size]) (σ ++ [c]) { s with heap := s.heap.push o } := by
 have hs : (s.heap.push o).objs.size = s.heap.objs.size + 1 := yM ..
 refine ⟨fun a x e => xo _ (G.base a x e), ?_, by simp [G.len], ?_, fun a ha => ?_, fun k a c' h1 h2 => ?_, G.os, G.gens, fun env he => ?_⟩
 ·show _ ≤ (s.heap.push o).objs.size;rw [hs]; exact yk G.grown
 ·rw [List.nodup_append];refine ⟨G.nod, by simp, fun a ha b hb => ?_⟩;have hb : b = s.heap.objs.size := by simpa using hb
  exact fun e => absurd (G.hi a ha).2 (by rw [e, hb]; exact yQ _)
 ·show _ ∧ a < (s.heap.push o).objs.size;rw [hs];rcases yd ha with q | q
  ·exact ⟨(G.hi a q).1, yl (G.hi a q).2⟩
  have q : a = s.heap.objs.size := by simpa using q
  rw [q]; exact ⟨G.grown, yq _⟩
 ·by_cases hk : k < φ.length
  ·rw [xc hk] at h1;rw [xc (G.len ▸ hk)] at h2;exact (G.cells k a c' h1 h2).keep (fun b x e _ => xo _ e) ⟨[s.heap.objs.size], rfl⟩
  have hk' : k = φ.length := by
   have := (x7 h1).1;simp at this; exact yE (yi this) (yS hk)
  subst hk';rw [x9 (z6 _), z5] at h1;rw [G.len, x9 (z6 _), z5] at h2;have h1 : some s.heap.objs.size = some a := h1;have h2 : some c = some c' := h2;cases h1; cases h2;exact hc
 obtain ⟨hkd, L, o', es, m, h1, h2, h3, h4, h5⟩ := G.frs env he;refine ⟨hkd, L, o', es, m, h1, xo _ h2, h3, h4, fun q => ?_⟩;rcases yd q with q | q
 ·exact h5 q
 have q : L = s.heap.objs.size := by simpa using q
 exact absurd (al h2) (by rw [q]; exact yQ _)
theorem Ext.alloc (φ : List Addr) (s : Shared) (o : Obj) : Ext φ s (φ ++ [s.heap.objs.size]) { s with heap := s.heap.push o } :=
 ⟨fun _ _ e _ => .inl (xo _ e), by show _ ≤ (s.heap.push o).objs.size; rw [yM]; exact z8 _, [s.heap.objs.size], rfl, by simp⟩
theorem dk {l : List Val} (h : EvL K hn d F vals σ pos es l σ1) (hl : l.length ≤ sizeLine := by decide) : EvE K hn d F vals σ (.List es pos) (.ref σ1.length) (σ1 ++ [.list l]) := fun A φ s R G I Q E hQ =>
 wpAny_List (h A φ s R G I _ _ fun φ1 s1 Vs X1 G1 r1 => ⟨by rw [r1.length]; exact hl, by
  have r2 : RL (φ1 ++ [s1.heap.objs.size]) (s1.heap.push { cls := .type "list", data := .seq Vs.toArray }) l Vs := r1.ext G1 (Ext.alloc φ1 s1 { cls := .type "list", data := .seq Vs.toArray });refine hQ (φ1 ++ [s1.heap.objs.size]) _ _ (X1.trans (Ext.alloc ..)) (G1.alloc _ (.list l) ⟨_, Vs.toArray, 0, xL _ rfl, ⟨rfl, rfl, rfl⟩, rfl, by simpa using r2⟩) ?_;unfold RV;exact ⟨s1.heap.objs.size, by rw [← G1.len]; simp, rfl⟩⟩)
end
end Mine
end
section
namespace Mine
open PySem PySem.W PySem.Calls PyProof.Rows
variable {φ : List Addr}
inductive FR where
 | next
 | brk
 | cont
 | ret (v : Val)
inductive RetC (φ : List Addr) (h : Heap) (v : Val) (f : Flow) : Prop
 | mk (V : Value) (e : f = .ret V) (r : RV φ h v V)
noncomputable def RF (φ : List Addr) (h : Heap) : FR → Flow → Prop
 | .next, f => f = .next
 | .brk, f => f = .brk
 | .cont, f => f = .cont
 | .ret v, f => RetC φ h v f
def TSt (K : KC) (hn : Bool) (d : Nat) (F : Frm) (vals : ai) (σ : a8) (t : Sem Flow) (P : FR → ai → a8 → Prop) : Prop :=
 ∀ (A : Around) (φ : List Addr) (s : Shared), bj K hn d A → af K φ σ s → aM K F vals φ s.heap → ∀ (Q : Flow → Shared → Prop) (E : Value → Shared → Prop),
  (∀ φ' s' f r vals' σ', bo F.own φ s φ' s' → af K φ' σ' s' → aM K F vals' φ' s'.heap → RF φ' s'.heap r f → P r vals' σ' → Q f s') → wpAny (model pw K.w) A t Q E s
noncomputable abbrev nxt (K : KC) (hn : Bool) (d : Nat) (F : Frm) (rest : List Stmt) (P : FR → ai → a8 → Prop) : FR → ai → a8 → Prop :=
 fun r v' σ' => match r with | .next => TSt K hn d F v' σ' (execs rest F.env) P | r => P r v' σ'
inductive LtJ (J : Nat → ai → a8 → Prop) (n : Nat) (v' : ai) (σ' : a8) : Prop
 | mk (m : Nat) (h : m < n) (j : J m v' σ')
noncomputable abbrev lpW (J : Nat → ai → a8 → Prop) (P : FR → ai → a8 → Prop) (n : Nat) : FR → ai → a8 → Prop :=
 fun r v' σ' => match r with | .next | .cont => LtJ J n v' σ' | .brk => P .next v' σ' | .ret v => P (.ret v) v' σ'
noncomputable abbrev lpF (J : Nat → ai → a8 → Prop) (P : FR → ai → a8 → Prop) (i : Nat) : FR → ai → a8 → Prop :=
 fun r v' σ' => match r with | .next | .cont => J i v' σ' | .brk => P .next v' σ' | .ret w => P (.ret w) v' σ'
noncomputable abbrev fnX (P : Val → a8 → Prop) : FR → ai → a8 → Prop := fun r _ σ1 => match r with | .ret v' => P v' σ1 | .next => P .none σ1 | _ => False
noncomputable abbrev fnV (v : Val) (σ' : a8) : FR → ai → a8 → Prop := fun r _ σ1 => σ1 = σ' ∧ match r with | .ret v' => v' = v | .next => v = .none | _ => False
def TA (K : KC) (hn : Bool) (d : Nat) (F : Frm) (vals : ai) (σ : a8) (v : Val) (t : Value → Sem Unit) (P : ai → a8 → Prop) : Prop :=
 ∀ (A : Around) (φ : List Addr) (s : Shared) (V : Value), bj K hn d A → af K φ σ s → aM K F vals φ s.heap → RV φ s.heap v V → ∀ (Q : Unit → Shared → Prop) (E : Value → Shared → Prop),
  (∀ φ' s' vals' σ', bo F.own φ s φ' s' → af K φ' σ' s' → aM K F vals' φ' s'.heap → P vals' σ' → Q () s') → wpAny (model pw K.w) A (t V) Q E s
section
variable {K : KC} {hn : Bool} {d : Nat} {F : Frm} {vals : ai} {σ σ1 σ2 σ3 : a8} {P : FR → ai → a8 → Prop}
theorem bo.refl (own φ : List Addr) (s : Shared) : bo own φ s φ s := (Ext.refl φ s).toS own
theorem aM.ownOff {h : Heap} (I : aM K F vals φ h) {a : Addr} {o : Obj} (e : h.get? a = some o) (hd : ∃ xs n, o.data = .seq xs n) : a ∉ F.own := by
 intro ha;obtain ⟨_, _, o', e', h'⟩ := I.own a ha;rw [e] at e'; cases e';obtain ⟨xs, n, hd⟩ := hd;exact h'.1 xs n hd
theorem RV.extS {φ' : List Addr} {s s' : Shared} (G : af K φ σ s) (I : aM K F vals φ s.heap) (X : bo F.own φ s φ' s') : ∀ {v : Val} {V : Value}, RV φ s.heap v V → RV φ' s'.heap v V := by
 intro v V r;have hk : ∀ a o, s.heap.get? a = some o → (o.cls = .type "tuple" ∨ o.cls = .ref 387) ∧ (∃ xs n, o.data = .seq xs n) → s'.heap.get? a = some o := fun a o e h => (X.keep a o e (G.off e h.1) (I.ownOff e h.2)).exact fun es n q => by obtain ⟨xs, m, h⟩ := h.2; rw [h] at q; cases q
 obtain ⟨new, rfl, _⟩ := X.more;have aux : ∀ {v : Val} {V : Value}, RV φ s.heap v V → RV (φ ++ new) s'.heap v V := by
  intro v;refine Val.rec (motive_1 := fun v => ∀ {V : Value}, RV φ s.heap v V → RV (φ ++ new) s'.heap v V) (motive_2 := fun l => ∀ {Vs : List Value}, RL φ s.heap l Vs → RL (φ ++ new) s'.heap l Vs)
   ?_ ?_ ?_ ?_ ?_ ?_ ?_ ?_ ?_ ?_ v
  ·intro V x; unfold RV at x ⊢; exact x
  ·intro b V x; unfold RV at x ⊢; exact x
  ·intro i V x; unfold RV at x ⊢; exact x
  ·intro y V x; unfold RV at x ⊢; exact x
  ·intro l ih V x;unfold RV at x ⊢;obtain ⟨a, o, n, xs, e, ho, hc, hd, r⟩ := x;exact ⟨a, o, n, xs, e, hk a o ho ⟨.inl hc, xs, n, hd⟩, hc, hd, ih r⟩
  ·intro l ih V x;unfold RV at x ⊢;obtain ⟨a, o, n, xs, e, ho, hc, hd, r⟩ := x;exact ⟨a, o, n, xs, e, hk a o ho ⟨.inr hc, xs, n, hd⟩, hc, hd, ih r⟩
  ·intro k V x;unfold RV at x ⊢;obtain ⟨a, e, r⟩ := x;exact ⟨a, by rw [xc (x7 e).1]; exact e, r⟩
  ·intro v V x; unfold RV at x ⊢; exact x
  ·intro Vs x; unfold RL at x ⊢; exact x
  intro v l ih1 ih2 Vs x;unfold RL at x ⊢;obtain ⟨V, Ws, e, r1, r2⟩ := x;exact ⟨V, Ws, e, ih1 r1, ih2 r2⟩
 exact aux r
theorem af.own {s : Shared} {h' : Heap} {a : Addr} {t : Nat} (G : af K φ σ s) (I : aM K F vals φ s.heap) (ha : a ∈ F.own) (hs : Heap.SameBut a s.heap h')
  (hdd : (∀ o, s.heap.get? a = some o → (∃ es m, o.data = .dict es m) → ∃ o' es m, h'.get? a = some o' ∧ o'.data = .dict es m) ∨ ∀ env ∈ K.fs, env.frame ≠ some a) : af K φ σ { s with heap := h', toks := t } := by
 obtain ⟨h1, h2, o, h3, h4⟩ := I.own a ha;refine ⟨fun b x e => ?_, ?_, G.len, G.nod, fun b hb => ?_, fun k b c e1 e2 => ?_, G.os, G.gens, fun env he => ?_⟩
 ·exact (hs.2 b (yZ (xU (al e) h1))).trans (G.base b x e)
 ·show _ ≤ h'.objs.size;rw [hs.1]; exact G.grown
 ·show _ ∧ b < h'.objs.size;rw [hs.1]; exact G.hi b hb
 ·have x := G.cells k b c e1 e2;have hba : b ≠ a := fun e => h2 (e ▸ xB e1)
  have ne : ∀ y o', s.heap.get? y = some o' → (o'.cls = .type "tuple" ∨ o'.cls = .ref 387) → RV φ s.heap .none .none → True := fun _ _ _ _ _ => trivial
  clear ne;have hk : ∀ y o', s.heap.get? y = some o' → (∃ xs n, o'.data = .seq xs n) → h'.get? y = some o' := fun y o' e hd => (hs.2 y (fun q => by
   subst q; rw [h3] at e; cases e; obtain ⟨xs, n, hd⟩ := hd; exact h4.1 xs n hd)).trans e
  have rv : ∀ {v : Val} {V : Value}, RV φ s.heap v V → RV φ h' v V := fun r => by
   have := RV.extS (φ' := φ) (s' := { s with heap := h' }) G I ⟨fun y o' e _ q => .inl ((hs.2 y (fun q' => q (q' ▸ ha))).trans e), by show _ ≤ h'.objs.size; rw [hs.1]; exact z6 _, [], by simp, by simp⟩ r;exact this
  have rl : ∀ {l : List Val} {Vs : List Value}, RL φ s.heap l Vs → RL φ h' l Vs := by
   intro l
   induction l with
   | nil => intro Vs x; unfold RL at x ⊢; exact x
   | cons v l ih => intro Vs x; unfold RL at x ⊢; obtain ⟨V, Ws, e, r1, r2⟩ := x; exact ⟨V, Ws, e, rv r1, ih r2⟩
  have rd : ∀ {l : List (Str × Val)} {es : List DictEntry}, RD φ s.heap l es → RD φ h' l es := by
   intro l
   induction l with
   | nil => intro Vs x; exact x
   | cons v l ih => intro es x; obtain ⟨e, r, he, ht, r1, r2⟩ := x; exact ⟨e, r, he, ht, rv r1, ih r2⟩
  cases c with
  | list l => obtain ⟨o', xs, n, e, hc, hd, r⟩ := x; exact ⟨o', xs, n, (hs.2 b hba).trans e, hc, hd, rl r⟩
  | dict l => obtain ⟨o', es, n, e, hc, hd, hkk, r⟩ := x; exact ⟨o', es, n, (hs.2 b hba).trans e, hc, hd, hkk, rd r⟩
  | inst dd => obtain ⟨o', dx, e, r1, r2, r3, r4⟩ := x; exact ⟨o', dx, (hs.2 b hba).trans e, r1, r2, r3, r4⟩
  | ns dd => obtain ⟨o', en, n, t, e, hc, hd, ht, r⟩ := x; exact ⟨o', en, n, t, (hs.2 b hba).trans e, hc, hd, ht, rv r⟩
  | ns0 => exact (hs.2 b hba).trans x
  | obj => obtain ⟨o', e, r1, r2⟩ := x; exact ⟨o', (hs.2 b hba).trans e, r1, r2⟩
 obtain ⟨hkd, L, o', es, m, e1, e2, e3, e4, e5⟩ := G.frs env he;by_cases hba : L = a
 ·subst hba;rcases hdd with hdd | hdd
  ·obtain ⟨o2, es2, m2, q1, q2⟩ := hdd o' e2 ⟨es, m, e3⟩;exact ⟨hkd, L, o2, es2, m2, e1, q1, q2, e4, e5⟩
  exact absurd e1 (hdd env he)
 exact ⟨hkd, L, o', es, m, e1, (hs.2 L hba).trans e2, e3, e4, e5⟩
theorem p7 {α : Type} {l : List (Option α)} {i j : Nat} {v x : α} (h : (l.set i (some v))[j]? = some (some x)) : (j = i ∧ x = v) ∨ (j ≠ i ∧ l[j]? = some (some x)) := by
 by_cases hj : j = i
 ·subst hj;by_cases hl : j < l.length
  ·rw [xq hl] at h;cases h; exact .inl ⟨rfl, rfl⟩
  rw [xx (by simpa using hl)] at h; cases h
 rw [xF (Ne.symm hj)] at h;exact .inr ⟨hj, h⟩
theorem kF {l : List Str} (h : l.Nodup) {i j : Nat} {x : Str} (h1 : l[i]? = some x) (h2 : l[j]? = some x) : i = j := by
 obtain ⟨hi, e1⟩ := x7 h1;obtain ⟨hj, e2⟩ := x7 h2;have hp := List.pairwise_iff_getElem.mp h;rcases Nat.lt_trichotomy i j with q | q | q
 ·exact absurd (e1.trans e2.symm) (hp i j hi hj q)
 ·exact q
 exact absurd (e2.trans e1.symm) (hp j i hj hi q)
theorem aN {s : Shared} {A : Around} {x : Str} {i : Nat} {v : Val} {V : Value} {Q : Unit → Shared → Prop} {E : Value → Shared → Prop} (G : af K φ σ s) (I : aM K F vals φ s.heap) (hi : F.names[i]? = some x)
  (hkind : F.env.kindOf x = some .local ∨ (F.env.kindOf x = some .cell ∧ ∃ c ∈ F.own, F.env.cells.lookup x = some c)) (r : RV φ s.heap v V)
  (hQ : ∀ s', bo F.own φ s φ s' → af K φ σ s' → aM K F (vals.set i (some v)) φ s'.heap → Q () s') : wpAny (model pw K.w) A (storeName F.env x V) Q E s := by
 have hp : (F.env.scope.kind == .class || (F.env.scope.kind == .module && F.env.locals != F.env.globals)) = false := by rw [I.fn]; rfl
 obtain ⟨m, hm, hv⟩ := I.var;rcases hkind with hl | ⟨hl, c, hco, hc⟩
 ·refine wpAny_storeName_local hl hm (fun h' hn hs => ?_) hp;have X : bo F.own φ s φ { s with heap := h', toks := s.toks + 1 } := ⟨fun a o e _ q => .inl ((hs.2 a fun q' => q (q' ▸ I.loc)).trans e), by show _ ≤ h'.objs.size; rw [hs.1]; exact z6 _, [], by simp, by simp⟩
  refine hQ _ X (G.own I I.loc hs <| .inl fun _ _ _ => by obtain ⟨o', es, n, e, hd, _⟩ := hn; exact ⟨o', es, n, e, hd⟩) ⟨I.fn, I.glb, I.blt, I.nod, I.loc, fun a ha => ?_, by simpa using I.lens, fun y c h1 h2 => ?_, I.inj, ?_⟩
  ·obtain ⟨h1, h2, o, h3, h4⟩ := I.own a ha;by_cases q : a = F.env.locals
   ·obtain ⟨o', es, n, ho, hd, _⟩ := hn;exact ⟨h1, h2, o', by rw [q]; exact ho, ⟨fun xs n' e => by rw [hd] at e; (cases e), fun vs e => by rw [hd] at e; (cases e)⟩⟩
   exact ⟨h1, h2, o, (hs.2 a q).trans h3, h4⟩
  ·obtain ⟨h3, v', h4⟩ := I.cell y c h1 h2;exact ⟨h3, v', h4.sameBut hs h3⟩
  refine ⟨_, hn, fun j y v' h1 h2 => ?_⟩;rcases p7 h2 with ⟨rfl, rfl⟩ | ⟨hj, h2⟩
  ·rw [hi] at h1; cases h1;exact ⟨V, .inl ⟨hl, if_pos rfl⟩, RV.extS G I X r⟩
  obtain ⟨V', hV, r'⟩ := hv j y v' h1 h2;have hyx : y ≠ x := fun e => hj (kF I.nod h1 (e ▸ hi))
  refine ⟨V', ?_, RV.extS G I X r'⟩;rcases hV with ⟨q1, q2⟩ | ⟨c, q1, q2, q3⟩
  ·exact .inl ⟨q1, (if_neg hyx).trans q2⟩
  refine .inr ⟨c, q1, q2, q3.sameBut hs fun q => ?_⟩;obtain ⟨o, ho, hd⟩ := q3;obtain ⟨o', es, n, ho', hd', _⟩ := hm;rw [q, ho'] at ho; cases ho; rw [hd'] at hd; cases hd
 obtain ⟨hcl, v0, hcell⟩ := I.cell x c hl hc;refine wpAny_storeName_cell I.fn hl hc hcell fun h' hn hs => ?_
 have X : bo F.own φ s φ { s with heap := h' } := ⟨fun a o e _ q => .inl ((hs.2 a fun q' => q (q' ▸ hco)).trans e), by show _ ≤ h'.objs.size; rw [hs.1]; exact z6 _, [], by simp, by simp⟩
 refine hQ _ X (G.own (t := s.toks) I hco hs <| .inl fun o e ⟨es, m, hd⟩ => by obtain ⟨oc, hoc, hdc⟩ := hcell; rw [hoc] at e; cases e; rw [hdc] at hd; cases hd) ⟨I.fn, I.glb, I.blt, I.nod, I.loc, fun a ha => ?_, by simpa using I.lens, fun y c' h1 h2 => ?_, I.inj, ?_⟩
 ·obtain ⟨h1, h2, o, h3, h4⟩ := I.own a ha;by_cases q : a = c
  ·obtain ⟨o', ho, hd⟩ := hn;exact ⟨h1, h2, o', by rw [q]; exact ho, ⟨fun xs n' e => by rw [hd] at e; (cases e), fun vs e => by rw [hd] at e; (cases e)⟩⟩
  exact ⟨h1, h2, o, (hs.2 a q).trans h3, h4⟩
 ·obtain ⟨h3, v', h4⟩ := I.cell y c' h1 h2;by_cases q : c' = c
  ·exact ⟨h3, _, q ▸ hn⟩
  exact ⟨h3, v', h4.sameBut hs q⟩
 refine ⟨m, hm.sameBut hs (Ne.symm hcl), fun j y v' h1 h2 => ?_⟩;rcases p7 h2 with ⟨rfl, rfl⟩ | ⟨hj, h2⟩
 ·rw [hi] at h1; cases h1;exact ⟨V, .inr ⟨c, .inl hl, hc, hn⟩, RV.extS G I X r⟩
 obtain ⟨V', hV, r'⟩ := hv j y v' h1 h2;have hyx : y ≠ x := fun e => hj (kF I.nod h1 (e ▸ hi))
 refine ⟨V', ?_, RV.extS G I X r'⟩;rcases hV with q | ⟨c', q1, q2, q3⟩
 ·exact .inl q
 exact .inr ⟨c', q1, q2, q3.sameBut hs fun q => hyx (I.inj y x c (q ▸ q2) hc)⟩
end
end Mine
end
namespace Mine
open PySem PySem.W PySem.Calls PyProof.Rows PySem.SeqAt
section
variable {K : KC} {hn : Bool} {d : Nat} {F : Frm} {vals : ai} {σ σ1 σ2 σ3 σ4 : a8} {P : FR → ai → a8 → Prop}
variable {φ φ' : List Addr} {pos p p' p1 p2 tp apos spos : Pos} {k i n j r ix i' m kd n1 N' nl ki : Nat} {l l' l0 dflt : List Val} {a it ea la C : Addr} {h h' : Heap} {v : Val} {A : Around} {e elt slice ie : Expr} {E Q : Value → Shared → Prop} {b : Int} {V c f fl acc old : Value} {s' : Shared} {N : Tab} {w : World} {scope : Scope} {y src : Str} {M : Model} {cl : List (Str × Addr)} {locs k' params : List Str} {fr : List (Str × Nat × Val)} {ifs args es : List Expr} {X : String} {kw : List (Str × Val)} {env : Env} {xs vs : Array Value} {S : Str → Bool} {Vs : List Value} {t : Tok} {o : Obj} {L ks T due : List Key} {rest orelse : List Stmt} {σ' : a8} {lo hi : Option Int} {outer : List Env} {mg mb : Str → Option Value} {st : Stmt} {fd : FuncData} {keys : List (List Str)} {Pu : ai → a8 → Prop} {os : OsState}
theorem ak (h : P .next vals σ) : TSt K hn d F vals σ (execs [] F.env) P := fun A φ s R G I Q E hQ =>
 wpAny_execs_nil (hQ φ s .next .next vals σ (bo.refl ..) G I rfl h)
theorem a9 (h : TSt K hn d F vals σ (exec st F.env) (nxt K hn d F rest P)) :
  TSt K hn d F vals σ (execs (st :: rest) F.env) P := fun A φ s R G I Q E hQ => by
 rw [execs_cons];refine za (h A φ s R G I _ _ fun φ1 s1 f r v1 σ1 X1 G1 I1 r1 p1 => ?_);cases r with
 | next =>
  have r1 : f = .next := r1;subst r1;exact p1 A φ1 s1 R G1 I1 Q E fun φ2 s2 f2 r2 v2 σ2 X2 G2 I2 rr p2 => hQ φ2 s2 f2 r2 v2 σ2 (X1.trans X2) G2 I2 rr p2
 | brk =>
  have r1 : f = .brk := r1;subst r1;exact zb (hQ φ1 s1 _ .brk v1 σ1 X1 G1 I1 rfl p1)
 | cont =>
  have r1 : f = .cont := r1;subst r1;exact zb (hQ φ1 s1 _ .cont v1 σ1 X1 G1 I1 rfl p1)
 | ret v =>
  obtain ⟨V, rfl, r1⟩ := r1;exact zb (hQ φ1 s1 _ (.ret v) v1 σ1 X1 G1 I1 ⟨V, rfl, r1⟩ p1)
abbrev Bnd (F : Frm) (x : Str) : Prop := F.env.kindOf x = some .local ∨ (F.env.kindOf x = some .cell ∧ ∃ c ∈ F.own, F.env.cells.lookup x = some c)
theorem ab (i : Nat) {x : Str} {value : Expr} (h : EvE K hn d F vals σ value v σ1) (hi : F.names[i]? = some x) (hb : Bnd F x) (hP : P .next (vals.set i (some v)) σ1)
  (hs : swapsWith value (some (.Name x p')) pos.line F.env = pure false := by rfl) : TSt K hn d F vals σ (exec (.Assign [.Name x p'] value pos) F.env) P := fun A φ s R G I Q E hQ =>
 wpAny_Assign_Name (h A φ s R G I _ _ fun φ1 s1 V X1 G1 r1 => aN G1 (I.ext G X1) hi hb r1 fun s2 X2 G2 I2 =>
  hQ φ1 s2 .next .next _ _ ((X1.toS _).trans X2) G2 I2 rfl hP) hs
theorem cp {x : Str} {op : Operator} {value : Expr} {a b : Val} (hi : F.names[i]? = some x) (hv : vals[i]? = some (some a)) (h : EvE K hn d F vals σ value b σ1) (h2 : P2 K hn d σ1 (inplaceOp op) a b v σ2) (hb : Bnd F x) (hP : P .next (vals.set i (some v)) σ2)
  (hc : (x == ("__classdict__" : Str)) = false := by decide) : TSt K hn d F vals σ (exec (.AugAssign (.Name x p') op value pos) F.env) P := fun A φ s R G I Q E hQ => by
 obtain ⟨m, hm, hh⟩ := I.var;obtain ⟨V, hV, r⟩ := hh i x a hi hv;refine wpAny_AugAssign_Name ?_;have fin : wpAny (model pw K.w) A (eval value F.env) (fun v s₂ => wpAny (model pw K.w) A (inplaceOp op V v) (fun r s₃ => wpAny (model pw K.w) A (storeName F.env x r) (fun _ => Q .next) E s₃) E s₂) E s :=
  h A φ s R G I _ _ fun φ1 s1 V1 X1 G1 r1 => h2 A φ1 s1 V V1 R G1 (r.ext G X1) r1 _ _ fun φ2 s2 V2 X2 G2 r2 =>
   aN G2 ((I.ext G X1).ext G1 X2) hi hb r2 fun s3 X3 G3 I3 => hQ φ2 s3 .next .next _ _ (((X1.trans X2).toS _).trans X3) G3 I3 rfl hP
 rcases hV with ⟨h1, h2⟩ | ⟨c, h1 | h1, h2, h3⟩
 ·exact wpAny_loadName_local I.fn h1 hm h2 fin
 ·exact wpAny_loadName_cell I.fn h1 h2 h3 fin
 exact wpAny_loadName_free I.fn h1 h2 h3 fin hc
theorem bm (h : EvE K hn d F vals σ e v σ1) (hP : P (.ret v) vals σ1) : TSt K hn d F vals σ (exec (.Return (some e) pos) F.env) P := fun A φ s R G I Q E hQ =>
 wpAny_Return_some (h A φ s R G I _ _ fun φ1 s1 V X1 G1 r1 => hQ φ1 s1 _ (.ret v) vals σ1 (X1.toS _) G1 (I.ext G X1) ⟨V, rfl, r1⟩ hP)
theorem uQ (hP : P .brk vals σ) : TSt K hn d F vals σ (exec (.Break pos) F.env) P := fun A φ s R G I Q E hQ =>
 wpAny_Break (hQ φ s .brk .brk vals σ (bo.refl ..) G I rfl hP)
theorem lj (hP : P .cont vals σ) : TSt K hn d F vals σ (exec (.Continue pos) F.env) P := fun A φ s R G I Q E hQ =>
 wpAny_Continue (hQ φ s .cont .cont vals σ (bo.refl ..) G I rfl hP)
theorem s_pass (hP : P .next vals σ) : TSt K hn d F vals σ (exec (.Pass pos) F.env) P := fun A φ s R G I Q E hQ =>
 wpAny_Pass (hQ φ s .next .next vals σ (bo.refl ..) G I rfl hP)
theorem be {test : Expr} {body : List Stmt} {b : Bool} (h : EvB K hn d F vals σ test b σ1) (h1 : b = true → TSt K hn d F vals σ1 (execs body F.env) P) (h2 : b = false → TSt K hn d F vals σ1 (execs orelse F.env) P) :
  TSt K hn d F vals σ (exec (.If test body orelse pos) F.env) P := fun A φ s R G I Q E hQ => by
 refine wpAny_If (h A φ s R G I _ _ fun φ1 s1 b' X1 G1 r1 => ?_);subst r1;have fin := fun φ2 s2 f r v2 σ2 (X2 : bo F.own φ1 s1 φ2 s2) G2 I2 rr p2 => hQ φ2 s2 f r v2 σ2 ((X1.toS _).trans X2) G2 I2 rr p2
 cases b' with
 | true => exact h1 rfl A φ1 s1 R G1 (I.ext G X1) Q E fin
 | false => exact h2 rfl A φ1 s1 R G1 (I.ext G X1) Q E fin
theorem ci (h : EvE K hn d F vals σ e v σ1) (hv : v = .none) (hP : P .next vals σ1) (hs : swapsWith e none pos.line F.env = pure false := by rfl) : TSt K hn d F vals σ (exec (.Expr e pos) F.env) P := fun A φ s R G I Q E hQ => by
 have hi : interactive F.env = false := by unfold interactive; rw [I.fn]; rfl
 refine wpAny_Expr (h A φ s R G I _ _ fun φ1 s1 V X1 G1 r1 => ?_) hi hs;subst hv;unfold RV at r1;subst r1;exact hQ φ1 s1 .next .next vals σ1 (X1.toS _) G1 (I.ext G X1) rfl hP
inductive WhT (K : KC) (hn : Bool) (d : Nat) (F : Frm) (P : FR → ai → a8 → Prop) (J : Nat → ai → a8 → Prop) (test : Expr) (body : List Stmt) (n : Nat) (vals : ai) (σ : a8) : Prop
 | mk (b : Bool) (σ1 : a8) (h : EvB K hn d F vals σ test b σ1) (h0 : b = false → P .next vals σ1) (h1 : b = true → TSt K hn d F vals σ1 (execs body F.env) (lpW J P n))
inductive WhJ (K : KC) (F : Frm) (φ : List Addr) (s : Shared) (J : Nat → ai → a8 → Prop) (n : Nat) (s' : Shared) : Prop
 | mk (φ' : List Addr) (v' : ai) (σ' : a8) (X : bo F.own φ s φ' s') (G : af K φ' σ' s') (I : aM K F v' φ' s'.heap) (j : J n v' σ')
theorem dy {test : Expr} {body : List Stmt} (J : Nat → ai → a8 → Prop)
  (turn : ∀ n vals σ, J n vals σ → WhT K hn d F P J test body n vals σ)
  (n : Nat) (h : J n vals σ) : TSt K hn d F vals σ (exec (.While test body [] pos) F.env) P := fun A φ s R G I Q E hQ => by
 refine wpAny_While (codeAny_whileLoop (fun n s' => WhJ K F φ s J n s') ?_ n ⟨φ, vals, σ, bo.refl .., G, I, h⟩);rintro n s1 ⟨φ1, v1, σ1, X1, G1, I1, j⟩;obtain ⟨b, σ2, hb, h0, h1⟩ := turn n v1 σ1 j;refine hb A φ1 s1 R G1 I1 _ _ fun φ2 s2 b' X2 G2 r2 => ?_
 subst r2;cases b' with
 | false =>
  simp only [ya, if_false];exact wpAny_execs_nil (hQ φ2 s2 .next .next v1 σ2 (X1.trans (X2.toS _)) G2 (I1.ext G1 X2) rfl (h0 rfl))
 | true =>
  simp only [if_true];refine h1 rfl A φ2 s2 R G2 (I1.ext G1 X2) _ _ fun φ3 s3 f r v3 σ3 X3 G3 I3 rr p3 => ?_
  have X := (X1.trans (X2.toS F.own)).trans X3;cases r with
  | next =>
   have rr : f = .next := rr;subst rr;obtain ⟨m, hm, hj⟩ := p3;exact ⟨m, hm, φ3, v3, σ3, X, G3, I3, hj⟩
  | cont =>
   have rr : f = .cont := rr;subst rr;obtain ⟨m, hm, hj⟩ := p3;exact ⟨m, hm, φ3, v3, σ3, X, G3, I3, hj⟩
  | brk =>
   have rr : f = .brk := rr;subst rr;exact hQ φ3 s3 .next .next v3 σ3 X G3 I3 rfl p3
  | ret v =>
   obtain ⟨V, rfl, rr⟩ := rr;exact hQ φ3 s3 _ (.ret v) v3 σ3 X G3 I3 ⟨V, rfl, rr⟩ p3
theorem TSt.mono {t : Sem Flow} {P' : FR → ai → a8 → Prop} (h : TSt K hn d F vals σ t P) (hp : ∀ r v s, P r v s → P' r v s) : TSt K hn d F vals σ t P' := fun A φ s R G I Q E hQ =>
 h A φ s R G I Q E fun φ' s' f r v' σ' X G' I' rr p => hQ φ' s' f r v' σ' X G' I' rr (hp r v' σ' p)
structure IterOk (K : KC) (φ : List Addr) (s : Shared) (a : Addr) : Prop where
 off : a ∉ φ
 hi : K.h0.objs.size ≤ a
theorem jH (k : Str → Option NameKind) : ∀ (bs : List (Str × Value)) (m : Str → Option Value) (n : Str), n ∉ bs.map (·.1) → bindL k bs m n = m n
 | [], _, _, _ => rfl
 | (x, v) :: r, m, n, h => by
  unfold bindL;have h1 : n ≠ x := fun e => h (by rw [e]; exact xT ..)
  rw [jH k r _ n (fun q => h (xC _ q))];split
  ·exact if_neg h1
  rfl
theorem jI (k : Str → Option NameKind) : ∀ (bs : List (Str × Value)) (m : Str → Option Value) (n : Str), n ∉ bs.map (·.1) → bindC k bs m n = m n
 | [], _, _, _ => rfl
 | (x, v) :: r, m, n, h => by
  unfold bindC;have h1 : n ≠ x := fun e => h (by rw [e]; exact xT ..)
  rw [jI k r _ n (fun q => h (xC _ q))];split
  ·rfl
  exact if_neg h1
theorem l4 (k : Str → Option NameKind) : ∀ (bs : List (Str × Value)) (m : Str → Option Value) (n : Str) (v : Value), (bs.map (·.1)).Nodup → (n, v) ∈ bs → k n = some .local → bindL k bs m n = some v
 | [], _, _, _, _, h, _ => by cases h
 | (x, y) :: r, m, n, v, hn, h, hk => by
  obtain ⟨h1, h2⟩ := List.nodup_cons.mp hn;unfold bindL;rcases yy h with e | h
  ·cases e;rw [jH k r _ _ h1, if_pos hk]; exact if_pos rfl
  exact l4 k r _ n v h2 h hk
theorem l5 (k : Str → Option NameKind) : ∀ (bs : List (Str × Value)) (m : Str → Option Value) (n : Str) (v : Value), (bs.map (·.1)).Nodup → (n, v) ∈ bs → k n ≠ some .local → bindC k bs m n = some v
 | [], _, _, _, _, h, _ => by cases h
 | (x, y) :: r, m, n, v, hn, h, hk => by
  obtain ⟨h1, h2⟩ := List.nodup_cons.mp hn;unfold bindC;rcases yy h with e | h
  ·cases e;rw [jI k r _ _ h1, if_neg hk]; exact if_pos rfl
  exact l5 k r _ n v h2 h hk
theorem af.keepAll {K : KC} {σ : a8} {s : Shared} (G : af K φ σ s) (hk : ∀ a o, s.heap.get? a = some o → s'.heap.get? a = some o) (hz : s.heap.objs.size ≤ s'.heap.objs.size) (ho : s'.os = s.os) (hg : s'.gens = s.gens) : af K φ σ s' :=
 ⟨fun a o e => hk a o (G.base a o e), yT G.grown hz, G.len, G.nod, fun a ha => ⟨(G.hi a ha).1, xU (G.hi a ha).2 hz⟩,
  fun k a c h1 h2 => (G.cells k a c h1 h2).keep (fun b o e _ => hk b o e) ⟨[], by simp⟩, ho.trans G.os, hg.trans G.gens, fun env he => (G.frs env he).all hk⟩
theorem af.pushK {K : KC} {σ : a8} {s : Shared} (G : af K φ σ s) (hf : gF K.h0.objs.size φ s.heap env) : af (K.push env) φ σ s :=
 ⟨G.base, G.grown, G.len, G.nod, G.hi, G.cells, G.os, G.gens, fun e he => by
  rcases yy he with rfl | he
  ·exact hf
  exact G.frs e he⟩
theorem af.popK {K : KC} {σ : a8} {s : Shared} (G : af (K.push env) φ σ s) : af K φ σ s :=
 ⟨G.base, G.grown, G.len, G.nod, G.hi, G.cells, G.os, G.gens, fun e he => G.frs e (xC _ he)⟩
theorem Ext.keepAll {s : Shared} (hk : ∀ a o, s.heap.get? a = some o → s'.heap.get? a = some o) (hz : s.heap.objs.size ≤ s'.heap.objs.size) : Ext φ s φ s' :=
 ⟨fun a o e _ => .inl (hk a o e), hz, [], by simp, by simp⟩
structure tI (K : KC) (a : Addr) (fd : FuncData) (body : List Stmt) : Prop where
 ob : ∃ o, K.h0.get? a = some o ∧ o.data = .func fd
 code : K.h0.CodeRec fd.code fd.qualname
 body : fd.body = .stmts body
 clo : fd.closure = []
 glb : fd.globals = mainGlobals
 blt : fd.builtins = builtinsNs
 co : fd.scope.isCoroutine = false
 gen : fd.scope.isGenerator = false
 kind : fd.scope.kind = .function
noncomputable def kP (fd : FuncData) (L a : Addr) (names : List Str) : Frm :=
 ⟨callEnvC fd L a, L :: names.filterMap fun n => (cellsFrom (L + 1) fd.scope.names []).lookup n, names⟩
theorem RL.get {φ : List Addr} {h : Heap} : ∀ {l : List Val} {Vs : List Value} (i : Nat) {v : Val}, RL φ h l Vs → l[i]? = some v → ∃ V, Vs[i]? = some V ∧ RV φ h v V
 | [], _, i, v, _, e => by simp at e
 | x :: l, Vs, i, v, r, e => by
  unfold RL at r;obtain ⟨V, Ws, rfl, r1, r2⟩ := r;cases i with
  | zero => cases e; exact ⟨V, rfl, r1⟩
  | succ i => exact RL.get (l := l) i r2 e
theorem RL.append {φ : List Addr} {h : Heap} : ∀ {l l' : List Val} {Vs Vs' : List Value}, RL φ h l Vs → RL φ h l' Vs' → RL φ h (l ++ l') (Vs ++ Vs')
 | [], _, Vs, _, r, r' => by unfold RL at r; rw [r]; exact r'
 | x :: l, l', Vs, Vs', r, r' => by
  unfold RL at r;obtain ⟨V, Ws, rfl, r1, r2⟩ := r;show RL φ h (x :: (l ++ l')) (V :: (Ws ++ Vs'));unfold RL;exact ⟨V, _, rfl, r1, RL.append r2 r'⟩
def PCX (K : KC) (hn : Bool) (d : Nat) (σ : a8) (f : Value) (l : List Val) (kw : List (Str × Val)) (P : Val → a8 → Prop) : Prop :=
 ∀ (A : Around) (φ : List Addr) (s : Shared) (Vs Ws : List Value), bj K hn d A → af K φ σ s → RL φ s.heap l Vs → RL φ s.heap (kw.map (·.2)) Ws → ∀ (Q : Value → Shared → Prop) (E : Value → Shared → Prop),
  (∀ φ' s' V v σ', Ext φ s φ' s' → af K φ' σ' s' → RV φ' s'.heap v V → P v σ' → Q V s') → wpAny (model pw K.w) A (call f Vs ((kw.map (·.1)).zip Ws)) Q E s
def PCC (K : KC) (hn : Bool) (d : Nat) (σ : a8) (f : Value) (l : List Val) (kw : List (Str × Val)) (P : Val → a8 → Prop) : Prop :=
 ∀ (A : Around) (φ : List Addr) (s : Shared) (Vs Ws : List Value), bj K hn d A → af K φ σ s → RL φ s.heap l Vs → RL φ s.heap (kw.map (·.2)) Ws → ∀ (Q : Value → Shared → Prop) (E : Value → Shared → Prop),
  (∀ φ' s' V v σ', Ext φ s φ' s' → af K φ' σ' s' → RV φ' s'.heap v V → P v σ' → Q V s') →
   codeAny (model pw K.w) A (.call f ⟨Vs, (kw.map (·.1)).zip Ws⟩) (fun r s' => match r with | .ok (.ret v) => Q v s' | .ok _ => False | .error e => E e s') s
theorem PCC.x {K : KC} {hn : Bool} {d : Nat} {σ : a8} {P : Val → a8 → Prop} (h : PCC K hn d σ f l kw P) : PCX K hn d σ f l kw P := fun A φ s Vs Ws R G r1 r2 Q E hQ =>
 wpAny_call (h A φ s Vs Ws R G r1 r2 Q E hQ)
theorem tt {K : KC} {hn : Bool} {d : Nat} {σ : a8} {body : List Stmt} {P : Val → a8 → Prop} {rest : List Str} (D : tI K a fd body) (hlim : K.h0.NoLimit)
  (hd : ∃ Ds, (∀ φ h, RL φ h dflt Ds) ∧ ∀ (s : Shared) (Vs Ws : List Value), (∀ b o, K.h0.get? b = some o → s.heap.get? b = some o) → Vs.length = l.length → Ws.length = kw.length → BindsTo s fd ⟨Vs, (kw.map (·.1)).zip Ws⟩ (params.zip (Vs ++ Ws ++ Ds)))
  (hlen : params.length = l.length + kw.length + dflt.length) (hnod : (params ++ rest).Nodup)
  (hkind : ∀ x ∈ params, fd.scope.names.lookup x = some .local ∨ (fd.scope.names.lookup x = some .cell ∧ ∀ n, ((cellsFrom n fd.scope.names []).lookup x).isSome = true))
  (hb : ∀ L, TSt (K.push (callEnvC fd L a)) hn d (kP fd L a (params ++ rest)) ((l ++ kw.map (·.2) ++ dflt).map some ++ List.replicate rest.length none) σ (execs body (callEnvC fd L a))
   (fnX P)) :
  PCC K hn (d + 1) σ (.ref a) l kw P := by
 intro A φ s Vs Ws R G r1 r2 Q E hQ;obtain ⟨o, ho, hdata⟩ := D.ob;obtain ⟨Ds, hDs, hbind⟩ := hd;have hwl : Ws.length = kw.length := by rw [r2.length, yA]
 refine (codeAny_call_function (xU (xV (yp _ _) R.depth) (by decide)) (G.base _ _ ho) hdata D.co D.gen D.body (D.code.keeps G.base) ?_);refine hbind s Vs Ws G.base r1.length hwl _ _ _ _ ?_;rw [D.clo];have hallv : (Vs ++ Ws ++ Ds).length = params.length := by
  simp only [xR]; rw [r1.length, hwl, (hDs φ s.heap).length, hlen]
 have hmap : (params.zip (Vs ++ Ws ++ Ds)).map (·.1) = params := List.map_fst_zip (yV hallv.symm);refine wpAny_newFunctionEnv_cells D.kind (fun x hx => ?_) fun env he s1 x => ?_
 ·have hx : x.1 ∈ params := by rw [← hmap]; exact List.mem_map_of_mem hx
  rcases hkind x.1 hx with q | ⟨q, q'⟩
  ·exact .inl q
  exact .inr ⟨q, q' _⟩
 have he : env = callEnvC fd s.heap.objs.size a := he;subst he;obtain ⟨h1, tk, rfl, hk1⟩ := x.done;refine ⟨(hlim.keeps G.base).keeps hk1, codeAny_func ?_⟩;have hns := x.toInCall.ns;have hz : s.heap.objs.size ≤ h1.objs.size := yU hns.lt;have G1 : af K φ σ { s with heap := h1, toks := tk } := G.keepAll hk1 hz rfl rfl;have X1 : Ext φ s φ { s with heap := h1, toks := tk } := Ext.keepAll hk1 hz;have rall : RL φ h1 (l ++ kw.map (·.2) ++ dflt) (Vs ++ Ws ++ Ds) := RL.append (RL.append (r1.ext G X1) (r2.ext G X1)) (hDs _ _);have hlook : ∀ n c, (cellsFrom (s.heap.objs.size + 1) fd.scope.names []).lookup n = some c → s.heap.objs.size < c ∧ h1.IsCell c (bindC (callEnvC fd s.heap.objs.size a).kindOf (params.zip (Vs ++ Ws ++ Ds)) (fun _ => none) n) :=
  fun n c hc => ⟨x.above n c (mem_of_lookup hc), x.cell n c hc⟩
 have hown : ∀ b ∈ (kP fd s.heap.objs.size a (params ++ rest)).own, s.heap.objs.size ≤ b ∧ ∃ ob, h1.get? b = some ob ∧ OwnD ob := by
  intro b hb;rcases yy hb with rfl | hb
  ·obtain ⟨ob, es, n, e, hd, _⟩ := hns;exact ⟨z6 _, ob, e, ⟨fun xs n' q => by rw [hd] at q; (cases q), fun vs q => by rw [hd] at q; (cases q)⟩⟩
  obtain ⟨n, _, hc⟩ := List.mem_filterMap.mp hb;obtain ⟨h1', ob, e, hd⟩ := hlook n b hc;exact ⟨yU h1', ob, e, ⟨fun xs n' q => by rw [hd] at q; (cases q), fun vs q => by rw [hd] at q; (cases q)⟩⟩
 have hlt : ∀ b ∈ φ, b < s.heap.objs.size := fun b hb => (G.hi b hb).2
 have I1 : aM (K.push (callEnvC fd s.heap.objs.size a)) (kP fd s.heap.objs.size a (params ++ rest)) ((l ++ kw.map (·.2) ++ dflt).map some ++ List.replicate rest.length none) φ h1 := by
  refine ⟨D.kind, D.glb, D.blt, hnod, xT .., fun b hb => ?_, ?_, fun y c h1' h2' => ?_, fun y z c h1' h2' => ?_, _, hns, fun i y u h1' h2' => ?_⟩
  ·obtain ⟨q1, ob, q2, q3⟩ := hown b hb;exact ⟨yT G.grown q1, fun q => absurd (hlt b q) (yO q1), ob, q2, q3⟩
  ·show ((l ++ kw.map (fun z => z.2) ++ dflt).map some ++ List.replicate rest.length (none : Option Val)).length = (params ++ rest).length;simp only [xR, yA, List.length_replicate]; exact congrArg (· + rest.length) hlen.symm
  ·obtain ⟨q1, q2⟩ := hlook y c h2';exact ⟨yY q1, _, q2⟩
  ·exact name_of_addr x.apart (mem_of_lookup h1') (mem_of_lookup h2')
  have hi : i < params.length := by
   rcases z0 i ((l ++ kw.map (·.2) ++ dflt).map some).length with q | q
   ·simp only [xR, yA] at q; exact hlen ▸ q
   rw [x9 q] at h2';rw [List.getElem?_replicate] at h2';split at h2' <;> cases h2'
  have h1' : (params ++ rest)[i]? = some y := h1';rw [xc hi] at h1';rw [xc (by simp only [xR, yA]; exact hlen ▸ hi), ye] at h2';obtain ⟨u', h2', e⟩ := xf h2';cases e;obtain ⟨V, hV, rV⟩ := rall.get i h2';have hmem : (y, V) ∈ params.zip (Vs ++ Ws ++ Ds) := by
   have : (params.zip (Vs ++ Ws ++ Ds))[i]? = some (y, V) := by rw [List.getElem?_zip_eq_some]; exact ⟨h1', hV⟩
   exact xB this
  have hnp : ((params.zip (Vs ++ Ws ++ Ds)).map (·.1)).Nodup := by rw [hmap]; exact (List.nodup_append.mp hnod).1
  refine ⟨V, ?_, rV⟩;rcases hkind y (xB h1') with q | ⟨q, q'⟩
  ·exact .inl ⟨q, l4 _ _ _ y V hnp hmem q⟩
  obtain ⟨c, hc⟩ := Option.isSome_iff_exists.mp (q' (s.heap.objs.size + 1));refine .inr ⟨c, .inl q, hc, ?_⟩;have := (hlook y c hc).2;rw [l5 (callEnvC fd s.heap.objs.size a).kindOf _ _ y V hnp hmem (by show fd.scope.names.lookup y ≠ _; rw [q]; decide)] at this;exact this
 have hfr : gF K.h0.objs.size φ h1 (callEnvC fd s.heap.objs.size a) := by
  obtain ⟨ob, es, n, e, hd, _⟩ := hns;exact ⟨D.kind, s.heap.objs.size, ob, es, n, rfl, e, hd, G.grown, fun q => absurd (hlt _ q) (yQ _)⟩
 have G1' := G1.pushK (env := callEnvC fd s.heap.objs.size a) hfr;have R1 : bj (K.push (callEnvC fd s.heap.objs.size a)) hn d (A.deeper (callEnvC fd s.heap.objs.size a)) := ⟨R.hand, by
  show pushEnvs [callEnvC fd s.heap.objs.size a] A.frames = some (callEnvC fd s.heap.objs.size a :: K.fs);rw [R.frames]; rfl, by have := R.depth; show A.depth + 1 + d < 990; exact aE this, by have := R.units; show A.units + 3 + 60 * d + 100 < 9000; exact aD this (by decide)⟩
 refine hb s.heap.objs.size (A.deeper (callEnvC fd s.heap.objs.size a)) φ { s with heap := h1, toks := tk } R1 G1' I1 _ _ fun φ2 s2 f r v2 σ2 X2 G2 I2 rr p2 => ?_
 have X : Ext φ s φ2 s2 := by
  refine ⟨fun b ob e hb' => X2.keep b ob (hk1 b ob e) hb' fun q => ?_, yT hz X2.size, ?_⟩
  ·exact absurd (al e) (yO (hown b q).1)
  obtain ⟨new, e, h⟩ := X2.more;exact ⟨new, e, fun b hb' => yT hz (h b hb')⟩
 cases r with
 | ret v' =>
  obtain ⟨V, rfl, rV⟩ := rr;exact hQ φ2 s2 V v' σ2 X G2.popK rV p2
 | next =>
  have rr : f = .next := rr;subst rr;exact hQ φ2 s2 .none .none σ2 X G2.popK (by unfold RV; rfl) p2
 | brk => exact p2.elim
 | cont => exact p2.elim
theorem tq {K : KC} {hn : Bool} {d : Nat} {σ : a8} {body : List Stmt} {P : Val → a8 → Prop} {rest : List Str} (D : tI K a fd body) (hlim : K.h0.NoLimit)
  (hd : ∃ Ds, (∀ φ h, RL φ h dflt Ds) ∧ ∀ (s : Shared) (Vs Ws : List Value), (∀ b o, K.h0.get? b = some o → s.heap.get? b = some o) → Vs.length = l.length → Ws.length = kw.length → BindsTo s fd ⟨Vs, (kw.map (·.1)).zip Ws⟩ (params.zip (Vs ++ Ws ++ Ds)))
  (hlen : params.length = l.length + kw.length + dflt.length) (hnod : (params ++ rest).Nodup)
  (hkind : ∀ x ∈ params, fd.scope.names.lookup x = some .local ∨ (fd.scope.names.lookup x = some .cell ∧ ∀ n, ((cellsFrom n fd.scope.names []).lookup x).isSome = true))
  (hb : ∀ L, TSt (K.push (callEnvC fd L a)) hn d (kP fd L a (params ++ rest)) ((l ++ kw.map (·.2) ++ dflt).map some ++ List.replicate rest.length none) σ (execs body (callEnvC fd L a))
   (fnX P)) :
  PCX K hn (d + 1) σ (.ref a) l kw P := (tt D hlim hd hlen hnod hkind hb).x
theorem PCX.pc {K : KC} {hn : Bool} {d : Nat} {σ : a8} (h : PCX K hn d σ f l kw fun v' s' => v' = v ∧ s' = σ') : PC K hn d σ f l kw v σ' := fun A φ s Vs Ws R G r1 r2 Q E hQ =>
 h A φ s Vs Ws R G r1 r2 Q E fun φ' s' V v' σ1 X G' r p => by
  obtain ⟨rfl, rfl⟩ := p;exact hQ φ' s' V X G' r
theorem c_def {K : KC} {hn : Bool} {d : Nat} {σ : a8} {body : List Stmt} {rest : List Str} (D : tI K a fd body) (hlim : K.h0.NoLimit)
  (hd : ∃ Ds, (∀ φ h, RL φ h dflt Ds) ∧ ∀ (s : Shared) (Vs Ws : List Value), (∀ b o, K.h0.get? b = some o → s.heap.get? b = some o) → Vs.length = l.length → Ws.length = kw.length → BindsTo s fd ⟨Vs, (kw.map (·.1)).zip Ws⟩ (params.zip (Vs ++ Ws ++ Ds)))
  (hlen : params.length = l.length + kw.length + dflt.length) (hnod : (params ++ rest).Nodup)
  (hkind : ∀ x ∈ params, fd.scope.names.lookup x = some .local ∨ (fd.scope.names.lookup x = some .cell ∧ ∀ n, ((cellsFrom n fd.scope.names []).lookup x).isSome = true))
  (hb : ∀ L, TSt (K.push (callEnvC fd L a)) hn d (kP fd L a (params ++ rest)) ((l ++ kw.map (·.2) ++ dflt).map some ++ List.replicate rest.length none) σ (execs body (callEnvC fd L a))
   (fnV v σ')) :
  PC K hn (d + 1) σ (.ref a) l kw v σ' :=
 (tq D hlim hd hlen hnod hkind fun L => TSt.mono (hb L) fun r _ s1 p => by
  cases r with
  | ret v' => exact ⟨p.2, p.1⟩
  | next => exact ⟨p.2.symm, p.1⟩
  | brk => exact p.2
  | cont => exact p.2).pc
theorem vJ {x : Str} (hg : K.h0.Ns mainGlobals mg) (hv : mg x = some V) (hx : F.env.kindOf x = some .globalImplicit) {v : Val} (hr : ∀ φ h, RV φ h v V)
  (hd : (x == ("__debug__" : Str)) = false := by decide) : EvE K hn d F vals σ (.Name x pos) v σ := fun A φ s R G I Q E hQ =>
 Name_function_global I.fn hx (loadGlobal_global (I.glb ▸ hg.keeps G.base) hv (hQ φ s V (Ext.refl ..) G (hr _ _))) hd
theorem uC {x : Str} (hg : K.h0.Ns mainGlobals mg) (hm : mg x = none) (hb : K.h0.Ns builtinsNs mb) (hv : mb x = some V) (hx : F.env.kindOf x = some .globalImplicit)
  (hd : (x == ("__debug__" : Str)) = false := by decide) : EvE K hn d F vals σ (.Name x pos) (.glob V) σ := fun A φ s R G I Q E hQ =>
 Name_function_global I.fn hx (loadGlobal_builtin (I.glb ▸ hg.keeps G.base) hm (I.blt ▸ hb.keeps G.base) hv (hQ φ s V (Ext.refl ..) G (by unfold RV; rfl))) hd
abbrev EvK (K : KC) (hn : Bool) (d : Nat) (F : Frm) (vals : ai) (σ : a8) (pos : Pos) (ks : List Keyword) (l : List Val) (σ' : a8) : Prop :=
 TV K hn d F vals σ (evalAll ((backToKw pos (keywordEach ks F.env)).map (·.2))) (fun φ h Vs => RL φ h l Vs) σ'
theorem ao : EvK K hn d F vals σ pos [] [] σ := fun A φ s R G I Q E hQ => wpAny_evalAll_nil (hQ φ s [] (Ext.refl ..) G (by unfold RL; rfl))
theorem oq {n : Option Str} {kp : Pos} {ks : List Keyword} (h : EvE K hn d F vals σ e v σ1) (h2 : EvK K hn d F vals σ1 pos ks l σ2) :
  EvK K hn d F vals σ pos (⟨n, e, kp⟩ :: ks) (v :: l) σ2 := fun A φ s R G I Q E hQ => by
 show wpAny _ _ (evalAll ((do let v ← eval e F.env; standAt pos; pure v) :: (backToKw pos (keywordEach ks F.env)).map (·.2))) _ _ _;refine wpAny_evalAll_cons (za (h A φ s R G I _ _ fun φ1 s1 V X1 G1 r1 => za (wpAny_standAt (zb ?_))));exact h2 A φ1 s1 R G1 (I.ext G X1) _ _ fun φ2 s2 Vs X2 G2 r2 => hQ φ2 s2 (V :: Vs) (X1.trans X2) G2 (by unfold RL; exact ⟨V, Vs, rfl, r1.ext G1 X2, r2⟩)
inductive cS (K : KB) : Value → Prop where
 | blt (id : String) : cS K (.builtin id)
 | typ (T : String) : cS K (.type T)
 | fn {a : Addr} {o : Obj} {fd : FuncData} : K.h0.get? a = some o → o.data = .func fd → cS K (.ref a)
theorem aT {s : Shared} {args : List (Bool × Sem Value)} {kws : List (Option Str × Sem Value)} {first : List Value} (hc : cS K.toKB f)
  (hs : (args.any (·.1) || kws.any (·.1.isNone)) = false)
  (h : wpAny (model pw K.w) A (evalArgs f true args kws) (fun a s1 => (∀ b o, K.h0.get? b = some o → s1.heap.get? b = some o) ∧ wpAny (model pw K.w) A (call f (first ++ a.pos) a.kw) Q E s1) E s) :
  wpAny (model pw K.w) A (callWith pos f first args kws) Q E s := by
 unfold callWith;refine za (yP (zj h (fun a s₁ h₁ => za (wpAny_standAt ?_)) fun _ _ x => x));have tail : ∀ {t : Sem Value}, wpAny (model pw K.w) A t Q E s₁ → wpAny (model pw K.w) A (t >>= fun r => holding [r] point >>= fun _ => pure r) Q E s₁ :=
  fun ht => za (zj ht (fun r s₂ hr => za (yP (wpAny_point (zb hr)))) fun _ _ x => x)
 rw [hs];cases hc with
 | blt id => exact za (zb (tail h₁.2))
 | typ T => exact za (zb (tail h₁.2))
 | fn ho hd =>
  refine za (m := keeperOf _) ?_;unfold keeperOf;refine za (wpAny_load (h₁.1 _ _ ho) ?_);rw [hd];refine zb ?_;dsimp only;split
  ·exact tail h₁.2
  exact tail (by unfold callMarked; exact Calls.wpAny_keep h₁.2)
theorem aj {n : Str} {kws : List Keyword} {kl : List (Str × Val)} (hf : EvE K hn d F vals σ (.Name n p) (.glob f) σ) (hc : cS K.toKB f)
  (ha : EvL K hn d F vals σ pos (e :: args) l σ1) (hk : EvK K hn d F vals σ1 pos kws (kl.map (·.2)) σ2) (hp : PC K hn d σ2 f l kl v σ3)
  (hkn : (backToKw pos (keywordEach kws F.env)).filterMap (·.1) = kl.map (·.1) := by rfl)
  (he : starEach (e :: args) F.env = (false, eval e F.env) :: starEach args F.env := by rfl)
  (hs : ((backTo pos (starEach args F.env)).any (·.1) || (backToKw pos (keywordEach kws F.env)).any (·.1.isNone)) = false := by rfl)
  (hka : (backToKw pos (keywordEach kws F.env)).all (·.1.isSome) = true := by rfl) : EvE K hn d F vals σ (.Call (.Name n p) (e :: args) kws pos) v σ3 := fun A φ s R G I Q E hQ => by
 refine wpAny_Call_Name_kw (hf A φ s R G I _ _ fun φ0 s0 V0 X0 G0 r0 => ?_);unfold RV at r0;subst r0;have I0 := I.ext G X0;refine aT hc ?_ ?_
 ·rw [he]; show (false || _ || _) = false; rw [Bool.false_or]; exact hs
 have ha' := ha A φ0 s0 R G0 I0;rw [he] at ha' ⊢;refine evalArgs_kw hka (ha' _ _ fun φ1 s1 Vs X1 G1 r1 => hk A φ1 s1 R G1 (I0.ext G0 X1) _ _ fun φ2 s2 Ws X2 G2 r2 => ?_);refine ⟨G2.base, ?_⟩;rw [hkn];exact hp A φ2 s2 Vs Ws R G2 (r1.ext G1 X2) r2 Q E fun φ3 s3 V X3 G3 r3 => hQ φ3 s3 V (((X0.trans X1).trans X2).trans X3) G3 r3
theorem uB {n : Str} (hf : EvE K hn d F vals σ (.Name n p) (.glob f) σ) (hc : cS K.toKB f)
  (hp : PC K hn d σ f [] [] v σ3) : EvE K hn d F vals σ (.Call (.Name n p) [] [] pos) v σ3 := fun A φ s R G I Q E hQ => by
 refine wpAny_Call_Name_kw (hf A φ s R G I _ _ fun φ0 s0 V0 X0 G0 r0 => ?_);unfold RV at r0;subst r0;refine aT hc rfl (PySem.evalArgs_none ⟨G0.base, ?_⟩);exact hp A φ0 s0 [] [] R G0 (by unfold RL; rfl) (by unfold RL; rfl) Q E fun φ3 s3 V X3 G3 r3 => hQ φ3 s3 V (X0.trans X3) G3 r3
theorem bq (i : Int) (t : Tok) : RV φ h (.int i) (.int i t) := by unfold RV; exact ⟨t, rfl⟩
theorem d9 (x : Str) (t : Tok) : RV φ h (.str x) (.str x t) := by unfold RV; exact ⟨t, rfl⟩
theorem az (b : Bool) : RV φ h (.bool b) (.bool b) := by unfold RV; rfl
theorem dM {a : Int} : P2 K hn d σ (binaryOp .Add) (.int a) (.int b) (.int (a + b)) σ := fun A φ s V1 V2 R G r1 r2 Q E hQ => by
 unfold RV at r1 r2; obtain ⟨t, rfl⟩ := r1; obtain ⟨u, rfl⟩ := r2;exact P.add_int (hQ φ _ _ (Ext.toks ..) (G.toks _) (bq ..))
theorem jo {a : Int} : P2 K hn d σ (inplaceOp .Add) (.int a) (.int b) (.int (a + b)) σ := fun A φ s V1 V2 R G r1 r2 Q E hQ => by
 unfold RV at r1 r2; obtain ⟨t, rfl⟩ := r1; obtain ⟨u, rfl⟩ := r2;exact P.iadd_int (hQ φ _ _ (Ext.toks ..) (G.toks _) (bq ..))
theorem dK {a : Int} : P2 K hn d σ (binaryOp .Sub) (.int a) (.int b) (.int (a - b)) σ := fun A φ s V1 V2 R G r1 r2 Q E hQ => by
 unfold RV at r1 r2; obtain ⟨t, rfl⟩ := r1; obtain ⟨u, rfl⟩ := r2;exact P.sub_int (hQ φ _ _ (Ext.toks ..) (G.toks _) (bq ..))
theorem qb {a : Int} (hm : IntMulOk a b) : P2 K hn d σ (binaryOp .Mult) (.int a) (.int b) (.int (a * b)) σ := fun A φ s V1 V2 R G r1 r2 Q E hQ => by
 unfold RV at r1 r2; obtain ⟨t, rfl⟩ := r1; obtain ⟨u, rfl⟩ := r2;exact P.mul_int (hQ φ _ _ (Ext.toks ..) (G.toks _) (bq ..)) hm
theorem qc {a : Int} (hb : b ≠ 0) : P2 K hn d σ (binaryOp .Mod) (.int a) (.int b) (.int (a.fmod b)) σ := fun A φ s V1 V2 R G r1 r2 Q E hQ => by
 unfold RV at r1 r2; obtain ⟨t, rfl⟩ := r1; obtain ⟨u, rfl⟩ := r2;exact mod_int' hb (hQ φ _ _ (Ext.toks ..) (G.toks _) (bq ..))
theorem qf {a : Int} (hb : b ≠ 0) (hp : Builtin.divisionGoesByPylong a b = false) : P2 K hn d σ (binaryOp .FloorDiv) (.int a) (.int b) (.int (a.fdiv b)) σ := fun A φ s V1 V2 R G r1 r2 Q E hQ => by
 unfold RV at r1 r2; obtain ⟨t, rfl⟩ := r1; obtain ⟨u, rfl⟩ := r2;exact floordiv_int hb (hQ φ _ _ (Ext.toks ..) (G.toks _) (bq ..)) (.inl hp)
theorem q9 {a : Int} (hb : 0 ≤ b) : P2 K hn d σ (binaryOp .RShift) (.int a) (.int b) (.int (a.fdiv (2 ^ b.toNat))) σ := fun A φ s V1 V2 R G r1 r2 Q E hQ => by
 unfold RV at r1 r2; obtain ⟨t, rfl⟩ := r1; obtain ⟨u, rfl⟩ := r2;exact rshift_int hb (hQ φ _ _ (Ext.toks ..) (G.toks _) (bq ..))
theorem rC {a : Int} : P2 K hn d σ (compareOp .Eq) (.int a) (.int b) (.bool (a == b)) σ := fun A φ s V1 V2 R G r1 r2 Q E hQ => by
 unfold RV at r1 r2; obtain ⟨t, rfl⟩ := r1; obtain ⟨u, rfl⟩ := r2;exact P.eq_int (hQ φ _ _ (Ext.refl ..) G (az ..))
theorem jm {a : Int} : P2 K hn d σ (compareOp .NotEq) (.int a) (.int b) (.bool (a != b)) σ := fun A φ s V1 V2 R G r1 r2 Q E hQ => by
 unfold RV at r1 r2; obtain ⟨t, rfl⟩ := r1; obtain ⟨u, rfl⟩ := r2;exact P.ne_int (hQ φ _ _ (Ext.refl ..) G (az ..))
theorem gl {a : Int} : P2 K hn d σ (compareOp .Lt) (.int a) (.int b) (.bool (decide (a < b))) σ := fun A φ s V1 V2 R G r1 r2 Q E hQ => by
 unfold RV at r1 r2; obtain ⟨t, rfl⟩ := r1; obtain ⟨u, rfl⟩ := r2;exact P.lt_int (hQ φ _ _ (Ext.refl ..) G (az ..))
theorem eE {a : Int} : P2 K hn d σ (compareOp .Gt) (.int a) (.int b) (.bool (decide (a > b))) σ := fun A φ s V1 V2 R G r1 r2 Q E hQ => by
 unfold RV at r1 r2; obtain ⟨t, rfl⟩ := r1; obtain ⟨u, rfl⟩ := r2;exact P.gt_int (hQ φ _ _ (Ext.refl ..) G (az ..))
theorem mA {a : Int} : P2 K hn d σ (compareOp .LtE) (.int a) (.int b) (.bool (decide (a ≤ b))) σ := fun A φ s V1 V2 R G r1 r2 Q E hQ => by
 unfold RV at r1 r2; obtain ⟨t, rfl⟩ := r1; obtain ⟨u, rfl⟩ := r2;exact P.le_int (hQ φ _ _ (Ext.refl ..) G (az ..))
theorem cj {x : Str} : P2 K hn d σ (compareOp .Eq) (.str x) (.str y) (.bool (x.cps.toList == y.cps.toList)) σ := fun A φ s V1 V2 R G r1 r2 Q E hQ => by
 unfold RV at r1 r2; obtain ⟨t, rfl⟩ := r1; obtain ⟨u, rfl⟩ := r2;exact P.eq_str (hQ φ _ _ (Ext.refl ..) G (az ..))
theorem jl {x : Str} : P2 K hn d σ (compareOp .NotEq) (.str x) (.str y) (.bool (x.cps.toList != y.cps.toList)) σ := fun A φ s V1 V2 R G r1 r2 Q E hQ => by
 unfold RV at r1 r2; obtain ⟨t, rfl⟩ := r1; obtain ⟨u, rfl⟩ := r2;exact P.ne_str (hQ φ _ _ (Ext.refl ..) G (az ..))
theorem eV {x : Str} (h : (x ++ y).length ≤ sizeLine) : P2 K hn d σ (binaryOp .Add) (.str x) (.str y) (.str (x ++ y)) σ := fun A φ s V1 V2 R G r1 r2 Q E hQ => by
 unfold RV at r1 r2; obtain ⟨t, rfl⟩ := r1; obtain ⟨u, rfl⟩ := r2;refine P.add_str ?_;have e0 : ∀ z : Str, (z.length == 0) = true → z.cps = #[] := fun z hz => Array.eq_empty_of_size_eq_zero (by have q : z.length = 0 := (by simpa using hz); exact q)
 by_cases h1 : (x.length == 0) = true
 ·rw [if_pos h1];have : x ++ y = y := by
   show (⟨x.cps ++ y.cps⟩ : Str) = y;rw [e0 x h1]; simp
  rw [this] at hQ;exact hQ φ s _ (Ext.refl ..) G (d9 y u)
 rw [if_neg h1];by_cases h2 : (y.length == 0) = true
 ·rw [if_pos h2];have : x ++ y = x := by
   show (⟨x.cps ++ y.cps⟩ : Str) = x;rw [e0 y h2]; simp
  rw [this] at hQ;exact hQ φ s _ (Ext.refl ..) G (d9 x t)
 rw [if_neg h2];exact ⟨h, hQ φ _ _ (Ext.toks ..) (G.toks _) (d9 ..)⟩
inductive TupOf (φ : List Addr) (h : Heap) (l : List Val) (V : Value) : Prop
 | mk (a : Addr) (xs : Array Value) (e : V = .ref a) (x : IsTup h a xs) (r : RL φ h l xs.toList)
theorem RV.tup (r : RV φ h (.tup l) V) : TupOf φ h l V := by
 unfold RV at r;obtain ⟨a, o, n, xs, e, ho, hc, hd, r⟩ := r;exact ⟨a, xs, e, ⟨o, ho, hc, n, hd⟩, r⟩
theorem RV.of_tup (x : IsTup h a xs) (r : RL φ h l xs.toList) : RV φ h (.tup l) (.ref a) := by
 obtain ⟨o, ho, hc, n, hd⟩ := x;unfold RV;exact ⟨a, o, n, xs, rfl, ho, hc, hd, r⟩
inductive LstOf (φ : List Addr) (s : Shared) (k : Nat) (l : List Val) (V : Value) : Prop
 | mk (a : Addr) (xs : Array Value) (e : V = .ref a) (h : φ[k]? = some a) (x : s.heap.IsList a xs) (r : RL φ s.heap l xs.toList)
theorem af.list {s : Shared} (G : af K φ σ s) (r : RV φ s.heap (.ref k) V) (hk : σ[k]? = some (.list l)) : LstOf φ s k l V := by
 unfold RV at r;obtain ⟨a, e, rfl⟩ := r;obtain ⟨o, xs, n, ho, hc, hd, r⟩ := G.cells k a _ e hk;exact ⟨a, xs, rfl, e, ⟨o, ho, hc.1, n, hd⟩, r⟩
theorem RL.nil_of (r : RL φ h l xs.toList) (e : xs.isEmpty = true) : l = [] := by
 have := r.length;rw [Array.isEmpty_iff.mp e] at this;exact List.length_eq_zero_iff.mp this.symm
theorem kC (hsz : l.length + l'.length ≤ sizeLine) : P2 K hn d σ (binaryOp .Add) (.tup l) (.tup l') (.tup (l ++ l')) σ := fun A φ s V1 V2 R G r1 r2 Q E hQ => by
 obtain ⟨a, xs, rfl, x1, q1⟩ := r1.tup;obtain ⟨b, ys, rfl, x2, q2⟩ := r2.tup;obtain ⟨⟨cls, dd, data, sl⟩, ho, hc, n, hd⟩ := id x1;obtain ⟨⟨cls2, dd2, data2, sl2⟩, ho2, hc2, n2, hd2⟩ := id x2;simp only at hc hd hc2 hd2;subst hc hd hc2 hd2;by_cases h1 : xs.isEmpty = true
 ·refine concat_meets ⟨_, ho, rfl⟩ ⟨_, ho2, rfl⟩ noFill_tuple_add seq_tuple_add PySem.F.slot_tuple_add PySem.F.entry_tuple_add (PySem.F.args_tuple_add_2 _ _) (tuple_addW0 a b xs ys n n2 dd dd2 sl sl2 h1) ⟨ho, ho2, ?_⟩;rw [q1.nil_of h1, List.nil_append] at hQ;exact hQ φ s _ (Ext.refl ..) G (RV.of_tup x2 q2)
 by_cases h2 : ys.isEmpty = true
 ·refine concat_meets ⟨_, ho, rfl⟩ ⟨_, ho2, rfl⟩ noFill_tuple_add seq_tuple_add PySem.F.slot_tuple_add PySem.F.entry_tuple_add (PySem.F.args_tuple_add_2 _ _) (tuple_addW1 a b xs ys n n2 dd dd2 sl sl2 h1 h2) ⟨ho, ho2, ?_⟩;rw [q2.nil_of h2, yG] at hQ;exact hQ φ s _ (Ext.refl ..) G (RV.of_tup x1 q1)
 refine concat_meets ⟨_, ho, rfl⟩ ⟨_, ho2, rfl⟩ noFill_tuple_add seq_tuple_add PySem.F.slot_tuple_add PySem.F.entry_tuple_add (PySem.F.args_tuple_add_2 _ _) (tuple_addW2 a b xs ys n n2 dd dd2 sl sl2 h1 h2 (by have e1 := q1.length; have e2 := q2.length; rw [xK] at e1 e2; exact yT (yN (yV e1) (yV e2)) hsz)) ⟨ho, ho2, ?_⟩;refine hQ φ _ _ (Ext.push ..) (G.push _) (RV.of_tup (IsTup.new ..) ?_);rw [xO];exact RL.append (q1.ext G (Ext.push ..)) (q2.ext G (Ext.push ..))
theorem fJ (h1 : σ[i]? = some (.list l)) (h2 : σ[j]? = some (.list l')) (hsz : l.length + l'.length ≤ sizeLine) : P2 K hn d σ (binaryOp .Add) (.ref i) (.ref j) (.ref σ.length) (σ ++ [.list (l ++ l')]) := fun A φ s V1 V2 R G r1 r2 Q E hQ => by
 obtain ⟨a, xs, rfl, _, x1, q1⟩ := G.list r1 h1;obtain ⟨b, ys, rfl, _, x2, q2⟩ := G.list r2 h2;obtain ⟨⟨cls, dd, data, sl⟩, ho, hc, n, hd⟩ := id x1;obtain ⟨⟨cls2, dd2, data2, sl2⟩, ho2, hc2, n2, hd2⟩ := id x2;simp only at hc hd hc2 hd2;subst hc hd hc2 hd2;refine concat_meets ⟨_, ho, rfl⟩ ⟨_, ho2, rfl⟩ noFill_list_add seq_list_add PySem.F.slot_list_add PySem.F.entry_list_add (PySem.F.args_list_add_2 _ _) (list_addW a b xs ys n n2 dd dd2 sl sl2 (by have e1 := q1.length; have e2 := q2.length; rw [xK] at e1 e2; exact yT (yN (yV e1) (yV e2)) hsz)) ⟨ho, ho2, ?_⟩;have X := Ext.alloc φ s { cls := .type "list", data := .seq (xs ++ ys) };have rr : RL (φ ++ [s.heap.objs.size]) (s.heap.push { cls := .type "list", data := .seq (xs ++ ys) }) (l ++ l') (xs ++ ys).toList := by
  rw [xO]; exact RL.append (q1.ext G X) (q2.ext G X)
 refine hQ _ _ _ X (G.alloc _ (.list (l ++ l')) ⟨_, xs ++ ys, 0, xL _ rfl, ⟨rfl, rfl, rfl⟩, rfl, rr⟩) ?_;unfold RV;exact ⟨s.heap.objs.size, by rw [← G.len]; simp, rfl⟩
theorem bz {x : Str} {c : Nat} (hc : x.cps[i]? = some c) (hi : i < 2 ^ 63) : P2 K hn d σ getItem (.str x) (.int i) (.str ⟨#[c]⟩) σ := fun A φ s V1 V2 R G r1 r2 Q E hQ => by
 unfold RV at r1 r2; obtain ⟨t, rfl⟩ := r1; obtain ⟨u, rfl⟩ := r2;have hlt : i < x.cps.size := (Array.getElem?_eq_some_iff.mp hc).1;have hidx : seqIndex? (i : Int) x.length = some i := by
  unfold seqIndex?;have h1 : ¬ ((i : Int) < 0) := by exact Int.not_lt.mpr (xX _)
  have h2 : (i : Int) < (x.length : Nat) := by show (i : Int) < (x.cps.size : Nat); exact yz hlt
  simp [h1, h2]
 refine PyProof.Rows.getItem_str (c := c) (by simp; exact lI hi (by decide)) (by rw [hidx]; exact hc) (hQ φ _ _ (Ext.toks ..) (G.toks _) (d9 ..))
theorem nT (hv : l[i]? = some v) (hi : i < 2 ^ 63) : P2 K hn d σ getItem (.tup l) (.int i) v σ := fun A φ s V1 V2 R G r1 r2 Q E hQ => by
 obtain ⟨a, xs, rfl, x1, q1⟩ := r1.tup;unfold RV at r2; obtain ⟨u, rfl⟩ := r2;obtain ⟨V, hV, rV⟩ := q1.get i hv;have hV : xs[i]? = some V := by simpa using hV
 have hlt : i < xs.size := (Array.getElem?_eq_some_iff.mp hV).1;exact getItem_tuple x1 (Int.le_trans (by decide) (xX _)) (lI hi (by decide)) (j := i) (by
  unfold seqIndex?;have h1 : ¬ ((i : Int) < 0) := by exact Int.not_lt.mpr (xX _)
  have h2 : (i : Int) < (xs.size : Nat) := by exact yz hlt
  simp [h1, h2]) hV (hQ φ s V (Ext.refl ..) G rV)
theorem aq (hk : σ[k]? = some (.list l)) (hv : l[i]? = some v) (hi : i < 2 ^ 63) : P2 K hn d σ getItem (.ref k) (.int i) v σ := fun A φ s V1 V2 R G r1 r2 Q E hQ => by
 obtain ⟨a, xs, rfl, _, x1, q1⟩ := G.list r1 hk;unfold RV at r2; obtain ⟨u, rfl⟩ := r2;obtain ⟨V, hV, rV⟩ := q1.get i hv;exact wpAny_getItem_list x1 (by lia) (lI hi (by decide)) (by simpa using hV) (hQ φ s V (Ext.refl ..) G rV)
theorem jc {s : Shared} {value : Expr} {o i : Value} {T id : String} (hT : s.TypeIs o T) (hl : typeLookup (.type T) "__getitem__" = pure (some (.builtin id)))
  (h : wpAny (model pw w) A (getItem o i) Q E s) (hs : ∃ ops, subscripted slice false o i = operate ops (getItem o i)) : wpAny (model pw w) A (subscriptTail value slice o i) Q E s := by
 delta subscriptTail
 refine za ?_;rw [getitemInPython_of_ne hT.not_modules];refine za (wpAny_specialOf hT hl ?_);obtain ⟨ops, hs⟩ := hs;have fin : wpAny (model pw w) A (subscripted slice false o i) (fun r s₃ => wpAny (model pw w) A (letTemporaryGo value o r >>= fun _ => pure r) Q E s₃) E s := by
  rw [hs];exact wpAny_operating (zj h (fun r s₃ h₃ => za (wpAny_letTemporaryGo (zb h₃))) fun _ _ x => x)
 exact zb (za fin)
def fZ (K : KC) (σ : a8) (a : Val) : Prop := ∀ φ s V, af K φ σ s → RV φ s.heap a V → ∃ T id, s.TypeIs V T ∧ typeLookup (.type T) "__getitem__" = pure (some (.builtin id))
theorem bh {x : Str} : fZ K σ (.str x) := fun φ s V G r => by
 unfold RV at r; obtain ⟨t, rfl⟩ := r;exact ⟨"str", _, typeIs_str s x t, PySem.F.slot_str_getitem.lookup⟩
theorem cV : fZ K σ (.tup l) := fun φ s V G r => by
 obtain ⟨a, xs, rfl, x, _⟩ := r.tup;exact ⟨"tuple", _, x.typeIs, PyProof.Rows.slot_tuple_getitem.lookup⟩
theorem ar (hk : σ[k]? = some (.list l)) : fZ K σ (.ref k) := fun φ s V G r => by
 obtain ⟨a, xs, rfl, _, x, _⟩ := G.list r hk;exact ⟨"list", _, x.typeIs, list_getitem_lookup⟩
theorem aV {value : Expr} {a b : Val} (h1 : EvE K hn d F vals σ value a σ1) (h2 : EvE K hn d F vals σ1 slice b σ2) (hg : fZ K σ2 a) (h3 : P2 K hn d σ2 getItem a b v σ3)
  (hs : ∀ o i, ∃ ops, subscripted slice false o i = operate ops (getItem o i) := by intro o i; exact ⟨_, rfl⟩) : EvE K hn d F vals σ (.Subscript value slice pos) v σ3 := fun A φ s R G I Q E hQ => by
 refine Subscript_ (h1 A φ s R G I _ _ fun φ1 s1 V1 X1 G1 r1 => h2 A φ1 s1 R G1 (I.ext G X1) _ _ fun φ2 s2 V2 X2 G2 r2 => ?_);obtain ⟨T, id, hT, hl⟩ := hg φ2 s2 V1 G2 (r1.ext G1 X2);exact jc hT hl (h3 A φ2 s2 V1 V2 R G2 (r1.ext G1 X2) r2 _ _ fun φ3 s3 V X3 G3 r3 => hQ φ3 s3 V ((X1.trans X2).trans X3) G3 r3) (hs _ _)
def IsB (lo : Option Int) (V : Value) : Prop := match lo with
 | none => V = .none
 | some i => ∃ t, V = .int i t
abbrev EvP (K : KC) (hn : Bool) (d : Nat) (F : Frm) (vals : ai) (σ : a8) (x : Option Expr) (lo : Option Int) (σ' : a8) : Prop :=
 TV K hn d F vals σ (evalPart x F.env) (fun _ _ V => IsB lo V) σ'
theorem bf : EvP K hn d F vals σ none none σ := fun A φ s R G I Q E hQ => zb (hQ φ s .none (Ext.refl ..) G rfl)
theorem ap {i : Int} (h : EvE K hn d F vals σ e (.int i) σ1) : EvP K hn d F vals σ (some e) (some i) σ1 := fun A φ s R G I Q E hQ =>
 h A φ s R G I _ _ fun φ1 s1 V X1 G1 r1 => hQ φ1 s1 V X1 G1 (by unfold RV at r1; exact r1)
def PSl (K : KC) (hn : Bool) (d : Nat) (σ : a8) (a : Val) (lo hi : Option Int) (v : Val) (σ' : a8) : Prop :=
 ∀ (A : Around) (φ : List Addr) (s : Shared) (V vl vu : Value) (sl : Addr), bj K hn d A → af K φ σ s → RV φ s.heap a V → IsB lo vl → IsB hi vu → s.heap.IsSliceOf sl vl vu .none → ∀ (Q : Value → Shared → Prop) (E : Value → Shared → Prop),
  (∀ φ' s' V, Ext φ s φ' s' → af K φ' σ' s' → RV φ' s'.heap v V → Q V s') → wpAny (model pw K.w) A (getItem V (.ref sl)) Q E s
theorem b6 {value : Expr} {lower upper : Option Expr} {a : Val} (h1 : EvE K hn d F vals σ value a σ1) (h2 : EvP K hn d F vals σ1 lower lo σ2) (h3 : EvP K hn d F vals σ2 upper hi σ3)
  (hg : fZ K σ3 a) (h4 : PSl K hn d σ3 a lo hi v σ4) : EvE K hn d F vals σ (.Subscript value (.Slice lower upper none p) pos) v σ4 := fun A φ s R G I Q E hQ => by
 refine Subscript_ (h1 A φ s R G I _ _ fun φ1 s1 V1 X1 G1 r1 => wpAny_Slice (h2 A φ1 s1 R G1 (I.ext G X1) _ _ fun φ2 s2 vl X2 G2 r2 => h3 A φ2 s2 R G2 ((I.ext G X1).ext G1 X2) _ _ fun φ3 s3 vu X3 G3 r3 => zb ?_));have X4 := Ext.push φ3 s3 { cls := .type "slice", data := .fields #[vl, vu, .none] };have G4 := G3.push { cls := .type "slice", data := .fields #[vl, vu, .none] };have r4 := ((r1.ext G1 X2).ext G2 X3).ext G3 X4;obtain ⟨T, id, hT, hl⟩ := hg φ3 _ V1 G4 r4;exact jc hT hl (h4 A φ3 _ V1 vl vu _ R G4 r4 r2 r3 (Heap.IsSliceOf.new ..) _ _ fun φ5 s5 V X5 G5 r5 => hQ φ5 s5 V ((((X1.trans X2).trans X3).trans X4).trans X5) G5 r5) ⟨_, rfl⟩
theorem mS (h : IsB lo V) : ∃ l : Option (Int × Tok), V = partValue l ∧ l.map (·.1) = lo := by
 cases lo with
 | none => have h : V = .none := h; exact ⟨none, h, rfl⟩
 | some i => obtain ⟨t, rfl⟩ := h; exact ⟨some (i, t), rfl, rfl⟩
theorem ed (h : IsB lo V) : IsPart V lo := by
 cases lo with
 | none => have h : V = .none := h; rw [h]; exact .none
 | some i => obtain ⟨t, rfl⟩ := h; exact .int i t
theorem vf {x : Str} (hy : Txt.slice x lo hi = y) (hsz : x.length ≤ sizeLine) : PSl K hn d σ (.str x) lo hi (.str y) σ := fun A φ s V vl vu sl R G r b1 b2 hs Q E hQ => by
 unfold RV at r; obtain ⟨t, rfl⟩ := r;obtain ⟨l, rfl, rfl⟩ := mS b1;obtain ⟨u, rfl, rfl⟩ := mS b2;refine wpAny_getItem_str_slice (l := l) (u := u) (st := none) hs rfl ?_;have key : ∀ Q' : Value → Shared → Prop, (∀ t' k, Q' (.str y t') { s with toks := k }) → (sliceMade x t l u none).post Q' s := by
  intro Q' h
  delta sliceMade slicePicked
  subst hy
  delta Txt.slice at h
  show (if ((1 : Int) == 1 && (Builtin.Str.strSliceIndices (l.map (·.1)) (u.map (·.1)) 1 x.length).length == x.length) = true then Made.val (.str x t) else _).post Q' s;split
  ·rename_i hc;rw [if_pos hc] at h;exact h t s.toks
  rename_i hc;rw [if_neg hc] at h;refine ⟨?_, h _ _⟩;show ((List.filterMap (x.cps[·]?) (Builtin.Str.strSliceIndices (l.map (·.1)) (u.map (·.1)) 1 x.length)).toArray).size ≤ sizeLine;rw [List.size_toArray];exact yT (List.length_filterMap_le ..) (yT (sliceIndices_le ..) hsz)
 exact key _ fun t' k => hQ φ _ _ (Ext.toks ..) (G.toks _) (d9 ..)
noncomputable def tkN (k : Int) (n : Nat) : Nat := (if k < 0 then max (k + n) 0 else min k n).toNat
theorem re {k : Int} (hsz : l.length ≤ sizeLine) : PSl K hn d σ (.tup l) none (some k) (.tup (l.take (tkN k l.length))) σ := fun A φ s V vl vu sl R G r b1 b2 hs Q E hQ => by
 obtain ⟨a, xs, rfl, ht, q⟩ := r.tup;have b1 : vl = .none := b1;subst b1;obtain ⟨t, rfl⟩ := b2;have hlen : xs.size = l.length := by have := q.length; rw [xK] at this; exact this
 obtain ⟨os, hos, hcs, hds⟩ := id hs;have hTs : s.TypeIs (.ref sl) "slice" := ⟨os, hos, hcs⟩
 delta getItem
 try with_reducible refine yP ?_
 first | refine za (zb ?_) | skip
 refine za (wpAny_sequenceKey ht.typeIs (by decide) ?_);refine za (wpAny_callSpecial?_slot (name := Str.ofString "__getitem__") ht.typeIs PyProof.Rows.slot_tuple_getitem (wpAny_call_entry PyProof.Rows.slot_tuple_getitem ht.typeIs PyProof.Rows.entry_tuple_getitem ?_ (PyProof.Rows.args_tuple_getitem _ _)));show wpAny _ _ (Builtin.Tuple.tupleItemsOf (.ref a) >>= _) _ _ s;refine za (tupleItemsOf_ ht ?_);refine za (wpAny_typeOf hTs ?_);rw [if_pos (by decide)];have app : ∀ {Q' : Int × Int × Nat → Shared → Prop}, Q' (0, 1, tkN k l.length) s → wpAny (model pw K.w) A.in1 (Builtin.Slice.sliceApplied (.ref sl) (pure (xs.size : Int))) Q' (fun e s' => E e s') s := by
  intro Q' h
  delta Builtin.Slice.sliceApplied Builtin.Slice.sliceFields
  refine za (za (wpAny_field hos hds (x := .none) rfl (za (wpAny_field hos hds (x := .int k t) rfl (za (wpAny_field hos hds (x := .none) rfl (zb ?_)))))));refine za (slicePart_none ?_);show wpAny _ _ (if ((1 : Int) == 0) = true then _ else _) _ _ s;rw [if_neg (by decide)];refine za (slicePart_none (za (slicePart_int (za (zb ?_)))));have e1 : Builtin.Slice.sliceAdjust none (some k) 1 (xs.size : Int) = (0, if k < 0 then max (k + xs.size) 0 else min k xs.size) := rfl;show wpAny _ _ (match Builtin.Slice.sliceAdjust none (some k) 1 (xs.size : Int) with | (lo, hi) => pure (lo, (1 : Int), Builtin.Slice.slicePlaces lo hi 1)) _ _ s;rw [e1];have e2 : Builtin.Slice.slicePlaces 0 (if k < 0 then max (k + xs.size) 0 else min k xs.size) 1 = tkN k l.length := by
   delta Builtin.Slice.slicePlaces tkN
   have h1 : (1 : Int) > 0 := by decide
   simp only [h1, if_true, Int.ediv_one];rw [hlen];split <;> exact sDD
  show wpAny _ _ (pure ((0 : Int), (1 : Int), Builtin.Slice.slicePlaces 0 (if k < 0 then max (k + xs.size) 0 else min k xs.size) 1)) _ _ s;rw [e2];exact zb h
 refine za (app ?_);have pick : ((List.range (tkN k l.length)).filterMap fun (j : Nat) => xs[((0 : Int) + (j : Int) * 1).toNat]?) = xs.toList.take (tkN k l.length) := by
  have e : (fun (j : Nat) => xs[((0 : Int) + (j : Int) * 1).toNat]?) = fun j => xs[0 + j]? := by
   funext j;have : ((0 : Int) + (j : Int) * 1).toNat = 0 + j := by exact Nat.zero_add _
   rw [this]
  rw [e];have := pick_run xs 0 (tkN k l.length);rw [List.filterMap_map] at this;exact this
 have rl : ∀ (l : List Val) (Vs : List Value) (j : Nat), RL φ s.heap l Vs → RL φ s.heap (l.take j) (Vs.take j) := by
  intro l
  induction l with
  | nil => intro Vs j x; unfold RL at x; rw [x]; simp only [List.take_nil]; unfold RL; rfl
  | cons v l ih =>
   intro Vs j x;unfold RL at x;obtain ⟨V, Ws, rfl, r1, r2⟩ := x;cases j with
   | zero => simp only [yL]; unfold RL; rfl
   | succ j => simp only [List.take_succ_cons]; unfold RL; exact ⟨V, _, rfl, r1, ih Ws j r2⟩
 have rt := rl l xs.toList (tkN k l.length) q;show wpAny _ _ (if ((0 : Int) == 0 && (1 : Int) == 1 && (tkN k l.length) == xs.size) = true then _ else _) _ _ s;by_cases hw : ((0 : Int) == 0 && (1 : Int) == 1 && (tkN k l.length) == xs.size) = true
 ·rw [if_pos hw];have hk : tkN k l.length = l.length := by simp at hw; exact hw.trans hlen
  rw [hk, yv] at hQ;refine za (za (wpAny_typeOf ht.typeIs (zb ?_)));rw [if_pos (by decide)]
  first
   | exact za (wpAny_rule (zb ⟨_, rfl, zb (hQ φ s _ (Ext.refl ..) G (RV.of_tup ht q))⟩))
   | exact za (wpAny_rule (za (zb (zb ⟨_, rfl, zb (hQ φ s _ (Ext.refl ..) G (RV.of_tup ht q))⟩))))
 rw [if_neg hw, pick];have hdrop : sizeOk (.seq (xs.toList.take (tkN k l.length)).toArray) := by
  show (xs.toList.take (tkN k l.length)).toArray.size ≤ sizeLine;rw [List.size_toArray, yn, xK];exact yT (yo _ _) (by rw [xK, hlen]; exact hsz)
 have fin := hQ φ { s with heap := s.heap.push { cls := .type "tuple", data := .seq (xs.toList.take (tkN k l.length)).toArray } } (.ref s.heap.objs.size) (Ext.push ..) (G.push _) (RV.of_tup (IsTup.new ..) (by simpa using RL.ext G (Ext.push ..) rt))
 first
  | exact za (m := Builtin.Tuple.tupleExact _) (wpAny_newObj_type (zb ⟨_, rfl, zb fin⟩) hdrop)
  | exact za (m := Builtin.Tuple.tupleExact _) (wpAny_newObj_type (za (zb (zb ⟨_, rfl, zb fin⟩))) hdrop)
  | exact za (za (m := Builtin.Tuple.tupleExact _) (wpAny_newObj_type (zb (zb ⟨_, rfl, zb fin⟩)) hdrop))
  | exact za (za (m := Builtin.Tuple.tupleExact _) (wpAny_newObj_type (zb ⟨_, rfl, zb fin⟩) hdrop))
theorem oY (hk : σ[k]? = some (.list l)) (hl' : ∀ xs : Array Value, xs.size = l.length → ∀ φ h, RL φ h l xs.toList → RL φ h l' (slicePick xs lo hi none).toList) (hsz : l.length ≤ sizeLine) :
  PSl K hn d σ (.ref k) lo hi (.ref σ.length) (σ ++ [.list l']) := fun A φ s V vl vu sl R G r b1 b2 hs Q E hQ => by
 obtain ⟨a, xs, rfl, _, x, q⟩ := G.list r hk;have hlen : xs.size = l.length := by have := q.length; rw [xK] at this; exact this
 refine wpAny_getItem_list_slice x hs (ed b1) (ed b2) .none (by simp) ?_ (by exact hlen ▸ hsz);have X := Ext.alloc φ s { cls := .type "list", data := .seq (slicePick xs lo hi none) };refine hQ _ _ _ X (G.alloc _ (.list l') ⟨_, slicePick xs lo hi none, 0, xL _ rfl, ⟨rfl, rfl, rfl⟩, rfl, RL.ext G X (hl' xs hlen φ s.heap q)⟩) ?_;unfold RV;exact ⟨s.heap.objs.size, by rw [← G.len]; simp, rfl⟩
theorem RL.take {φ : List Addr} {h : Heap} : ∀ {l : List Val} {Vs : List Value} (j : Nat), RL φ h l Vs → RL φ h (l.take j) (Vs.take j)
 | [], Vs, j, x => by unfold RL at x; rw [x]; simp only [List.take_nil]; unfold RL; rfl
 | v :: l, Vs, j, x => by
  unfold RL at x;obtain ⟨V, Ws, rfl, r1, r2⟩ := x;cases j with
  | zero => simp only [yL]; unfold RL; rfl
  | succ j => simp only [List.take_succ_cons]; unfold RL; exact ⟨V, _, rfl, r1, RL.take j r2⟩
theorem RL.drop {φ : List Addr} {h : Heap} : ∀ {l : List Val} {Vs : List Value} (j : Nat), RL φ h l Vs → RL φ h (l.drop j) (Vs.drop j)
 | [], Vs, j, x => by unfold RL at x; rw [x]; simp only [List.drop_nil]; unfold RL; rfl
 | v :: l, Vs, j, x => by
  cases j with
  | zero => simpa using x
  | succ j =>
   unfold RL at x;obtain ⟨V, Ws, rfl, r1, r2⟩ := x;simp only [List.drop_succ_cons]; exact RL.drop j r2
theorem nK (hk : σ[k]? = some (.list l)) (hsz : l.length ≤ sizeLine) : PSl K hn d σ (.ref k) none (some j) (.ref σ.length) (σ ++ [.list (l.take j)]) :=
 oY hk (fun xs _ φ h r => by rw [slicePick_upto']; simpa using RL.take j r) hsz
theorem dU (hk : σ[k]? = some (.list l)) (hsz : l.length ≤ sizeLine) : PSl K hn d σ (.ref k) (some j) none (.ref σ.length) (σ ++ [.list (l.drop j)]) :=
 oY hk (fun xs _ φ h r => by rw [slicePick_from']; simpa using RL.drop j r) hsz
inductive EqR (σ : a8) : Nat → Val → Val → Bool → Prop where
 | int (n : Nat) (a b : Int) : EqR σ n (.int a) (.int b) (a == b)
 | str (n : Nat) (x y : Str) : EqR σ n (.str x) (.str y) (x == y)
 | tup {n : Nat} {l l' : List Val} {e : Nat → Bool} : (∀ (j : Nat) (x y : Val), l[j]? = some x → l'[j]? = some y → EqR σ n x y (e j)) → EqR σ (n + 1) (.tup l) (.tup l') ((List.range (min l.length l'.length)).all e && l.length == l'.length)
 | list {n i i' : Nat} {l l' : List Val} {e : Nat → Bool} : σ[i]? = some (.list l) → σ[i']? = some (.list l') → l.length = l'.length → (∀ (j : Nat) (x y : Val), l[j]? = some x → l'[j]? = some y → EqR σ n x y (e j)) →
   EqR σ (n + 1) (.ref i) (.ref i') ((List.range l.length).all e)
 | lens {n i i' : Nat} {l l' : List Val} : σ[i]? = some (.list l) → σ[i']? = some (.list l') → l.length ≠ l'.length → EqR σ (n + 1) (.ref i) (.ref i') false
theorem EqR.same {s : Shared} (G : af K φ σ s) {n : Nat} {v v' : Val} {b : Bool} (h : EqR σ n v v' b) : ∀ {V : Value}, RV φ s.heap v V → RV φ s.heap v' V → b = true := by
 induction h with
 | int n a b =>
  intro V r r';unfold RV at r r'; obtain ⟨t, rfl⟩ := r; obtain ⟨u, e⟩ := r';cases e; simp
 | str n x y =>
  intro V r r';unfold RV at r r'; obtain ⟨t, rfl⟩ := r; obtain ⟨u, e⟩ := r';cases e; simp
 | @tup n l l' ee hj ih =>
  intro V r r';obtain ⟨a, xs, rfl, ⟨o, ho, _, n1, hd⟩, q⟩ := r.tup;obtain ⟨a', xs', e, ⟨o', ho', _, n2, hd'⟩, q'⟩ := r'.tup;cases e;rw [ho] at ho'; cases ho'; rw [hd] at hd'; cases hd';have e1 := q.length; have e2 := q'.length;rw [yu];refine ⟨List.all_eq_true.mpr fun j hjm => ?_, by rw [zk]; lia⟩;have hj' := List.mem_range.mp hjm;have h1 : l[j]? = some l[j] := xg (by omega);have h2 : l'[j]? = some l'[j] := xg (by omega);obtain ⟨V1, p1, r1⟩ := q.get j h1;obtain ⟨V2, p2, r2⟩ := q'.get j h2;rw [p1] at p2; cases p2;exact ih j _ _ h1 h2 r1 r2
 | @list n i i' l l' ee h1 h2 hl hj ih =>
  intro V r r';obtain ⟨a, xs, rfl, e1, ⟨o, ho, _, n1, hd⟩, q⟩ := G.list r h1;obtain ⟨a', xs', e, e2, ⟨o', ho', _, n2, hd'⟩, q'⟩ := G.list r' h2;cases e;rw [ho] at ho'; cases ho'; rw [hd] at hd'; cases hd';refine List.all_eq_true.mpr fun j hjm => ?_
  have hj' := List.mem_range.mp hjm;have h1 : l[j]? = some l[j] := xg ‹_›;have h2 : l'[j]? = some l'[j] := xg (by omega);obtain ⟨V1, p1, r1⟩ := q.get j h1;obtain ⟨V2, p2, r2⟩ := q'.get j h2;rw [p1] at p2; cases p2;exact ih j _ _ h1 h2 r1 r2
 | lens h1 h2 hl =>
  intro V r r';obtain ⟨a, xs, rfl, e1, ⟨o, ho, _, n1, hd⟩, q⟩ := G.list r h1;obtain ⟨a', xs', e, e2, ⟨o', ho', _, n2, hd'⟩, q'⟩ := G.list r' h2;cases e;rw [ho] at ho'; cases ho'; rw [hd] at hd'; cases hd';exact absurd (q.length.symm.trans q'.length) hl
theorem str_beq (x y : Str) : (x.cps.toList == y.cps.toList) = (x == y) := by
 rw [yH, zk, zk];constructor
 ·intro h; cases x; cases y; congr; exact Array.toList_inj.mp h
 intro h; rw [h]
theorem EqR.at {s : Shared} (G : af K φ σ s) {n : Nat} {v v' : Val} {b : Bool} (h : EqR σ n v v' b) : ∀ {A : Around} {V V' : Value}, A.units + n < cLine → RV φ s.heap v V → RV φ s.heap v' V' → EqAt A s V V' b := by
 induction h with
 | int n a b =>
  intro A V V' hu r r';unfold RV at r r'; obtain ⟨t, rfl⟩ := r; obtain ⟨u, rfl⟩ := r';exact EqAt.int_int a t b u
 | str n x y =>
  intro A V V' hu r r';unfold RV at r r'; obtain ⟨t, rfl⟩ := r; obtain ⟨u, rfl⟩ := r';exact EqAt.str_str x t y u
 | @tup n l l' e hj ih =>
  intro A V V' hu r r';have hs := fun W => EqR.same G (.tup hj) (V := W)
  obtain ⟨a, xs, rfl, x, q⟩ := r.tup;obtain ⟨a', xs', rfl, x', q'⟩ := r'.tup;have e1 := q.length; have e2 := q'.length;rw [xK] at e1 e2;by_cases ha : a = a'
  ·subst ha;rw [hs _ r r'];exact EqAt.same _
  have := RcAt.tuples (A := A) (e := e) (s := s) x x' (xV (yp ..) hu) fun j h1 h2 => by
   have p1 : l[j]? = some l[j] := xg (by omega);have p2 : l'[j]? = some l'[j] := xg (by omega);obtain ⟨V1, z1, r1⟩ := q.get j p1;obtain ⟨V2, z2, r2⟩ := q'.get j p2;have z1 : V1 = xs[j] := by simp [h1] at z1; exact z1.symm
   have z2 : V2 = xs'[j] := by simp [h2] at z2; exact z2.symm
   subst z1 z2;exact ih j _ _ p1 p2 (A := A.in1) (by show A.units + 1 + n < cLine; exact aE hu) r1 r2
  rw [e1, e2] at this;exact EqAt.of_refs ha this
 | @list n i i' l l' e h1 h2 hl hj ih =>
  intro A V V' hu r r';have hs := fun W => EqR.same G (.list h1 h2 hl hj) (V := W)
  obtain ⟨a, xs, rfl, _, x, q⟩ := G.list r h1;obtain ⟨a', xs', rfl, _, x', q'⟩ := G.list r' h2;have e1 := q.length; have e2 := q'.length;rw [xK] at e1 e2;by_cases ha : a = a'
  ·subst ha;rw [hs _ r r'];exact EqAt.same _
  have := RcAt.lists (A := A) (e := e) (s := s) x x' (e1.trans (hl.trans e2.symm)) (by lia) fun j h1 h2 => by
   have p1 : l[j]? = some l[j] := xg (by exact e1 ▸ h1);have p2 : l'[j]? = some l'[j] := xg (by omega);obtain ⟨V1, z1, r1⟩ := q.get j p1;obtain ⟨V2, z2, r2⟩ := q'.get j p2;have z1 : V1 = xs[j] := by simp [h1] at z1; exact z1.symm
   have z2 : V2 = xs'[j] := by simp [h2] at z2; exact z2.symm
   subst z1 z2;exact ih j _ _ p1 p2 (A := A.in1) (by show A.units + 1 + n < cLine; lia) r1 r2
  rw [e1] at this;exact EqAt.of_refs ha this
 | @lens n i i' l l' h1 h2 hl =>
  intro A V V' hu r r';have hs := fun W => EqR.same G (EqR.lens (n := n) h1 h2 hl) (V := W)
  obtain ⟨a, xs, rfl, _, x, q⟩ := G.list r h1;obtain ⟨a', xs', rfl, _, x', q'⟩ := G.list r' h2;have e1 := q.length; have e2 := q'.length;rw [xK] at e1 e2;by_cases ha : a = a'
  ·subst ha;exact absurd (hs _ r r') xS
  exact EqAt.of_refs ha (RcAt.lists_lengths x x' (by rw [bne_iff_ne]; exact fun q => hl (e1.symm.trans (q.trans e2))) (by lia))
theorem mD {e : Nat → Bool} (hj : ∀ (j : Nat) (x y : Val), l[j]? = some x → l'[j]? = some y → EqR σ n x y (e j)) (hnn : n < 50) :
  P2 K hn d σ (compareOp .Eq) (.tup l) (.tup l') (.bool ((List.range (min l.length l'.length)).all e && l.length == l'.length)) σ := fun A φ s V1 V2 R G r r' Q E hQ => by
 have hu : A.units + n + 1 < cLine := by have := R.units; have : cLine = 9900 := rfl; exact aB ‹_› this hnn
 obtain ⟨a, xs, rfl, x, q⟩ := r.tup;obtain ⟨a', xs', rfl, x', q'⟩ := r'.tup;have e1 := q.length; have e2 := q'.length;rw [xK] at e1 e2;have := RcAt.tuples (A := A) (e := e) (s := s) x x' (xV (yp _ (n + 1)) hu) fun j h1 h2 => by
  have p1 : l[j]? = some l[j] := xg (by omega);have p2 : l'[j]? = some l'[j] := xg (by omega);obtain ⟨V1, z1, r1⟩ := q.get j p1;obtain ⟨V2, z2, r2⟩ := q'.get j p2;have z1 : V1 = xs[j] := by simp [h1] at z1; exact z1.symm
  have z2 : V2 = xs'[j] := by simp [h2] at z2; exact z2.symm
  subst z1 z2;exact (hj j _ _ p1 p2).at G (A := A.in1) (by show A.units + 1 + n < cLine; exact aE hu) r1 r2
 rw [e1, e2] at this;exact this _ _ E Q (hQ φ s _ (Ext.refl ..) G (az _))
theorem mz {e : Nat → Bool} (hj : ∀ (j : Nat) (x y : Val), l[j]? = some x → l'[j]? = some y → EqR σ n x y (e j)) (hnn : n < 50) :
  P2 K hn d σ (compareOp .NotEq) (.tup l) (.tup l') (.bool (!((List.range (min l.length l'.length)).all e && l.length == l'.length))) σ := fun A φ s V1 V2 R G r r' Q E hQ => by
 have hu : A.units + n + 1 < cLine := by have := R.units; have : cLine = 9900 := rfl; exact aB ‹_› this hnn
 obtain ⟨a, xs, rfl, x, q⟩ := r.tup;obtain ⟨a', xs', rfl, x', q'⟩ := r'.tup;have e1 := q.length; have e2 := q'.length;rw [xK] at e1 e2;have := RcNeAt.tuples (A := A) (e := e) (s := s) x x' (xV (yp _ (n + 1)) hu) fun j h1 h2 => by
  have p1 : l[j]? = some l[j] := xg (by omega);have p2 : l'[j]? = some l'[j] := xg (by omega);obtain ⟨V1, z1, r1⟩ := q.get j p1;obtain ⟨V2, z2, r2⟩ := q'.get j p2;have z1 : V1 = xs[j] := by simp [h1] at z1; exact z1.symm
  have z2 : V2 = xs'[j] := by simp [h2] at z2; exact z2.symm
  subst z1 z2;exact (hj j _ _ p1 p2).at G (A := A.in1) (by show A.units + 1 + n < cLine; exact aE hu) r1 r2
 rw [e1, e2] at this;exact this _ _ E Q (hQ φ s _ (Ext.refl ..) G (az _))
theorem kB {e : Nat → Bool} (hi : σ[i]? = some (.list l)) (hi' : σ[i']? = some (.list l')) (hl : l.length = l'.length) (hj : ∀ (j : Nat) (x y : Val), l[j]? = some x → l'[j]? = some y → EqR σ n x y (e j)) (hnn : n < 50) :
  P2 K hn d σ (compareOp .NotEq) (.ref i) (.ref i') (.bool (!(List.range l.length).all e)) σ := fun A φ s V1 V2 R G r r' Q E hQ => by
 have hu : A.units + n + 1 < cLine := by have := R.units; have : cLine = 9900 := rfl; exact aB ‹_› this hnn
 obtain ⟨a, xs, rfl, _, x, q⟩ := G.list r hi;obtain ⟨a', xs', rfl, _, x', q'⟩ := G.list r' hi';have e1 := q.length; have e2 := q'.length;rw [xK] at e1 e2;have := RcNeAt.lists (A := A) (e := e) (s := s) x x' (e1.trans (hl.trans e2.symm)) (xV (yp _ (n + 1)) hu) fun j h1 h2 => by
  have p1 : l[j]? = some l[j] := xg (by omega);have p2 : l'[j]? = some l'[j] := xg (by omega);obtain ⟨V1, z1, r1⟩ := q.get j p1;obtain ⟨V2, z2, r2⟩ := q'.get j p2;have z1 : V1 = xs[j] := by simp [h1] at z1; exact z1.symm
  have z2 : V2 = xs'[j] := by simp [h2] at z2; exact z2.symm
  subst z1 z2;exact (hj j _ _ p1 p2).at G (A := A.in1) (by show A.units + 1 + n < cLine; exact aE hu) r1 r2
 rw [e1] at this;exact this _ _ E Q (hQ φ s _ (Ext.refl ..) G (az _))
noncomputable def kv (k : List Str) : Val := .tup (k.map .str)
theorem kv_inj {k : List Str} (h : kv k = kv k') : k = k' := by
 unfold kv at h;injection h with h
 induction k generalizing k' with
 | nil => cases k' with
  | nil => rfl
  | cons => cases h
 | cons a k ih => cases k' with
  | nil => cases h
  | cons b k' =>
   rw [yR, yR] at h;injection h with h1 h2
   injection h1 with h1
   rw [h1, ih h2]
noncomputable def kU (k k' : List Str) (j : Nat) : Bool := k[j]? == k'[j]?
theorem on (k k' : List Str) : ∀ (j : Nat) (x y : Val), (k.map Val.str)[j]? = some x → (k'.map Val.str)[j]? = some y → EqR σ 0 x y (kU k k' j) := by
 intro j x y h1 h2;rw [ye] at h1 h2;obtain ⟨a, ha, rfl⟩ := xf h1;obtain ⟨b, hb, rfl⟩ := xf h2;have : kU k k' j = (a == b) := by unfold kU; rw [ha, hb]; rfl
 rw [this];exact .str 0 a b
theorem fP (k k' : List Str) : ((List.range (min (k.map Val.str).length (k'.map Val.str).length)).all (kU k k') && (k.map Val.str).length == (k'.map Val.str).length) = decide (k = k') := by
 rw [yH, yh, yu, List.all_eq_true, zk, yA, yA];constructor
 ·rintro ⟨h1, h2⟩;apply List.ext_getElem? fun j => ?_
  by_cases hj : j < k.length
  ·have := h1 j (List.mem_range.mpr (by exact Nat.lt_min.mpr ⟨hj, h2 ▸ hj⟩));unfold kU at this;exact beq_iff_eq.mp this
  rw [xx (Nat.le_of_not_lt ‹_›), xx (by exact h2 ▸ yS hj)]
 rintro rfl;exact ⟨fun j _ => by unfold kU; simp, rfl⟩
theorem dA {k : List Str} : P2 K hn d σ (compareOp .Eq) (kv k) (kv k') (.bool (decide (k = k'))) σ := by
 have := mD (K := K) (hn := hn) (d := d) (σ := σ) (on k k') (yF _ _);rw [fP] at this;exact this
theorem pj {k : List Str} : P2 K hn d σ (compareOp .NotEq) (kv k) (kv k') (.bool (!decide (k = k'))) σ := by
 have := mz (K := K) (hn := hn) (d := d) (σ := σ) (on k k') (yF _ _);rw [fP] at this;exact this
theorem lS (k k' : List Str) : EqR σ 1 (kv k) (kv k') (decide (k = k')) := by
 have := EqR.tup (σ := σ) (on k k');rw [fP] at this;exact this
theorem iA {φ : List Addr} {h : Heap} : ∀ {k k' : List Str} {Vs : List Value}, RL φ h (k.map Val.str) Vs → RL φ h (k'.map Val.str) Vs → k = k'
 | [], [], _, _, _ => rfl
 | [], b :: k', Vs, q, q' => by
  rw [List.map_nil] at q;rw [yR] at q';unfold RL at q q';subst q;obtain ⟨_, _, e, _⟩ := q'; cases e
 | a :: k, [], Vs, q, q' => by
  rw [List.map_nil] at q';rw [yR] at q;unfold RL at q q';subst q';obtain ⟨_, _, e, _⟩ := q; cases e
 | a :: k, b :: k', Vs, q, q' => by
  rw [yR] at q q';unfold RL at q q';obtain ⟨V, Ws, rfl, r1, r2⟩ := q;obtain ⟨V', Ws', e, r1', r2'⟩ := q';cases e;unfold RV at r1 r1';obtain ⟨t, rfl⟩ := r1;obtain ⟨u, e⟩ := r1';cases e;rw [iA r2 r2']
theorem dJ {k : List Str} (r : RV φ h (kv k) V) (r' : RV φ h (kv k') V) : k = k' := by
 obtain ⟨a, xs, rfl, ⟨o, ho, _, n1, hd⟩, q⟩ := RV.tup r;obtain ⟨a', xs', e, ⟨o', ho', _, n2, hd'⟩, q'⟩ := RV.tup r';cases e;rw [ho] at ho'; cases ho'; rw [hd] at hd'; cases hd';exact iA q q'
noncomputable def uU (x : Str) : Value → Bool
 | .str y _ => y == x
 | _ => false
open Classical in
theorem iU {s : Shared} {k : List Str} (G : af K φ σ s) (hu : A.units + 3 < cLine) (q : RL φ s.heap (keys.map kv) xs.toList) (r : RV φ s.heap (kv k) V) :
  (∀ y, y ∈ xs → EqAt A.in1 s y V (decide (RV φ s.heap (kv k) y))) ∧ xs.any (fun y => decide (RV φ s.heap (kv k) y)) = decide (k ∈ keys) := by
 have el : ∀ j (hj : j < xs.size), ∃ k', keys[j]? = some k' ∧ RV φ s.heap (kv k') xs[j] := by
  intro j hj;have e := q.length;rw [xK, yA] at e;have p : (keys.map kv)[j]? = some (kv keys[j]) := by rw [ye, xg (by omega)]; rfl
  obtain ⟨V', z, r'⟩ := q.get j p;have z : V' = xs[j] := by simp [hj] at z; exact z.symm
  exact ⟨keys[j], xg (by omega), z ▸ r'⟩
 constructor
 ·intro y hy;obtain ⟨j, hj, rfl⟩ := Array.mem_iff_getElem.mp hy;obtain ⟨k', hk', r'⟩ := el j hj;have := (lS (σ := σ) k' k).at G (A := A.in1) (by show A.units + 1 + 1 < cLine; exact yU ‹_›) r' r;have e : decide (RV φ s.heap (kv k) xs[j]) = decide (k' = k) := by
   rw [yH, yh, yh];exact ⟨fun h => dJ r' h, fun h => h ▸ r'⟩
  rw [e]; exact this
 rw [yH, yh, Array.any_eq_true];constructor
 ·rintro ⟨j, hj, h⟩;have h := yg h;obtain ⟨k', hk', r'⟩ := el j hj;rw [dJ h r'];exact xB hk'
 intro h;obtain ⟨j, hj, e⟩ := xQ h;have e' := q.length;rw [xK, yA] at e';have hj' : j < xs.size := by exact e' ▸ hj
 obtain ⟨k', hk', r'⟩ := el j hj';rw [xg hj, e] at hk';cases hk';exact ⟨j, hj', decide_eq_true r'⟩
theorem qe {k : List Str} (hi : σ[i]? = some (.list (keys.map kv))) : P2 K hn d σ (compareOp .In) (kv k) (.ref i) (.bool (decide (k ∈ keys))) σ := fun A φ s V1 V2 R G r r' Q E hQ => by
 obtain ⟨a, xs, rfl, _, x, q⟩ := G.list r' hi;obtain ⟨h1, h2⟩ := iU (A := A) G (by have := R.units; have : cLine = 9900 := rfl; exact aB ‹_› this (n := 2) (by decide)) q r;exact in_listAt _ x h1 (by rw [h2]; exact hQ φ s _ (Ext.refl ..) G (az _))
theorem gj {k : List Str} (hi : σ[i]? = some (.list (keys.map kv))) : P2 K hn d σ (compareOp .NotIn) (kv k) (.ref i) (.bool (!decide (k ∈ keys))) σ := fun A φ s V1 V2 R G r r' Q E hQ => by
 obtain ⟨a, xs, rfl, _, x, q⟩ := G.list r' hi;obtain ⟨h1, h2⟩ := iU (A := A) G (by have := R.units; have : cLine = 9900 := rfl; exact aB ‹_› this (n := 2) (by decide)) q r;exact notIn_listAt _ x h1 (by rw [h2]; exact hQ φ s _ (Ext.refl ..) G (az _))
theorem lp {x : Str} {names : List Str} (hi : σ[i]? = some (.list (names.map .str))) : P2 K hn d σ (compareOp .NotIn) (.str x) (.ref i) (.bool (!decide (x ∈ names))) σ := fun A φ s V1 V2 R G r r' Q E hQ => by
 obtain ⟨a, xs, rfl, _, xl, q⟩ := G.list r' hi;unfold RV at r; obtain ⟨t, rfl⟩ := r;have el : ∀ j (hj : j < xs.size), ∃ y u, names[j]? = some y ∧ xs[j] = .str y u := by
  intro j hj;have e := q.length;rw [xK, yA] at e;have p : (names.map Val.str)[j]? = some (.str names[j]) := by rw [ye, xg (by omega)]; rfl
  obtain ⟨V', z, r'⟩ := q.get j p;have z : V' = xs[j] := by simp [hj] at z; exact z.symm
  unfold RV at r';obtain ⟨u, e⟩ := r';exact ⟨names[j], u, xg (by omega), z ▸ e⟩
 refine notIn_listAt (uU x) xl (fun y hy => ?_) ?_
 ·obtain ⟨j, hj, rfl⟩ := Array.mem_iff_getElem.mp hy;obtain ⟨y, u, _, e⟩ := el j hj;rw [e];exact EqAt.str_str y u x t
 have : xs.any (uU x) = decide (x ∈ names) := by
  rw [yH, yh, Array.any_eq_true];constructor
  ·rintro ⟨j, hj, h⟩;obtain ⟨y, u, hy, e⟩ := el j hj;rw [e] at h;have h : (y == x) = true := h;exact beq_iff_eq.mp h ▸ xB hy
  intro h;obtain ⟨j, hj, e⟩ := xQ h;have e' := q.length;rw [xK, yA] at e';have hj' : j < xs.size := by exact e' ▸ hj
  obtain ⟨y, u, hy, e2⟩ := el j hj';rw [xg hj, e] at hy;cases hy;exact ⟨j, hj', by rw [e2]; exact beq_self_eq_true _⟩
 rw [this];exact hQ φ s _ (Ext.refl ..) G (az _)
theorem m7 (h : Heap) (a : Addr) (f : Obj → Obj) : (h.update a f).objs.size = h.objs.size := Heap.size_after_update ..
theorem gO {Γ : Ctx} {t : Sem Fin} {fs : List Frame} {s : Shared} {e : End} (h : Runs M Γ p t fs s e s') : s.heap.objs.size ≤ s'.heap.objs.size := by
 induction h <;> (try simp only [Shared.setGen, m7, yM] at *) <;> lia
theorem lm {Γ : Ctx} {s : Shared} {r : Result} (h : Returns M Γ p s r s') : s.heap.objs.size ≤ s'.heap.objs.size := gO h
theorem nu {Γ : Ctx} {g : Nat} {r : Resume} {s : Shared} {res : GenResult} (h : Wakes M Γ p g r s res s') : s.heap.objs.size ≤ s'.heap.objs.size := by
 unfold Wakes at h;split at h
 ·exact h.elim
 ·split at h
  ·obtain ⟨e₁, s₁, hr, _, _, rfl⟩ := h; exact (gO hr : (s.setGen g .running).heap.objs.size ≤ s₁.heap.objs.size)
  ·rw [h.2]; exact z6 _
  rw [h.2]; exact z6 _
 ·obtain ⟨e₁, s₁, hr, _, _, rfl⟩ := h; exact (gO hr : (s.setGen g .running).heap.objs.size ≤ s₁.heap.objs.size)
 ·rw [h.2]; exact z6 _
 rw [h.2]; exact z6 _
open Sem (wp) in
theorem tL {α : Type} (M : Model) (Γ : Ctx) (n : Nat) (t : Sem α) : ∀ (Q : α → Pos → Shared → Prop) (E : Value → Pos → Shared → Prop) (p : Pos) (s : Shared), n ≤ s.heap.objs.size → wp M Γ t Q E p s →
  wp M Γ t (fun a p' s' => n ≤ s'.heap.objs.size ∧ Q a p' s') (fun e p' s' => n ≤ s'.heap.objs.size ∧ E e p' s') p s := by
 induction t with
 | pure a => intro Q E p s hn h; exact ⟨hn, h⟩
 | raise e => intro Q E p s hn h; exact ⟨hn, h⟩
 | unsupported _ => intro Q E p s _ h; exact h
 | finish _ => intro Q E p s _ h; exact h
 | rule _ k ih => intro Q E p s hn h; exact ih () Q E p s hn h
 | «at» p' k ih => intro Q E p s hn h; exact ih () Q E p' s hn h
 | load a _ k ih => intro Q E p s hn h; obtain ⟨o, ho, h⟩ := h; exact ⟨o, ho, ih o Q E p s hn h⟩
 | update a _ f k ih => intro Q E p s hn h; exact ⟨h.1, ih () Q E p _ (by show n ≤ (s.heap.update a f).objs.size; rw [m7]; exact hn) h.2⟩
 | loadIfAlive a k ih => intro Q E p s hn h; exact ih _ Q E p s hn h
 | point _ k ih => intro Q E p s hn h; exact ih () Q E p s hn h
 | register _ _ => intro Q E p s _ h; exact h
 | alloc o k ih => intro Q E p s hn h; exact ih _ Q E p _ (by show n ≤ (s.heap.push o).objs.size; rw [yM]; exact yk hn) h
 | fresh k ih => intro Q E p s hn h; exact ih _ Q E p _ hn h
 | ask k ih => intro Q E p s hn h; exact ih _ Q E p s hn h
 | choose src m k ih => intro Q E p s hn h; exact ⟨h.1, ih _ Q E p _ hn h.2⟩
 | os q _ k ih => intro Q E p s hn h; exact ih _ Q E p _ hn h
 | call c hd _ _ k ih => intro Q E p s hn h; obtain ⟨r, s', hr, h⟩ := h; exact ⟨r, s', hr, ih r Q E p s' (yT hn (lm hr)) h⟩
 | handled own k ih => intro Q E p s hn h; exact ih _ Q E p s hn h
 | genState g k ih => intro Q E p s hn h; obtain ⟨st, hs, h⟩ := h; exact ⟨st, hs, ih _ Q E p s hn h⟩
 | newGen c k ih => intro Q E p s hn h; exact ih _ Q E p _ hn h
 | resume g r _ k ih => intro Q E p s hn h; obtain ⟨res, s', hw, h⟩ := h; exact ⟨res, s', hw, ih res Q E p s' (yT hn (nu hw)) h⟩
 | yield _ _ _ _ => intro Q E p s _ h; exact h
 | stack k ih => intro Q E p s hn h; exact ih _ Q E p s hn h
 | fork _ _ => intro Q E p s _ h; exact h
 | thread k ih => intro Q E p s hn h; exact ih _ Q E p s hn h
 | await _ _ _ _ _ => intro Q E p s _ h; exact h
theorem aU {α : Type} {s : Shared} {t : Sem α} {Q : α → Shared → Prop} 
  (h : wpAny M A t (fun a s' => s.heap.objs.size ≤ s'.heap.objs.size → Q a s') E s) : wpAny M A t Q E s :=
 zj (fun Γ p hΓ => tL M Γ s.heap.objs.size t _ _ p s (z6 _) (h Γ p hΓ) : wpAny M A t (fun a s' => s.heap.objs.size ≤ s'.heap.objs.size ∧ (s.heap.objs.size ≤ s'.heap.objs.size → Q a s')) (fun e s' => s.heap.objs.size ≤ s'.heap.objs.size ∧ E e s') s)
  (fun _ _ x => x.2 x.1) (fun _ _ x => x.2)
structure tK (K : KC) (φ : List Addr) (h : Heap) (a : Addr) : Prop where
 off : a ∉ φ
 hi : K.h0.objs.size ≤ a
 not : ∀ o, h.get? a = some o → (o.cls ≠ .type "tuple" ∧ o.cls ≠ .ref 387) ∧ ∀ es n, o.data ≠ .dict es n
theorem af.butP {s : Shared} {bad : Addr → Prop} (G : af K φ σ s) (hb : ∀ a, bad a → tK K φ s.heap a)
  (hk : ∀ b o, ¬ bad b → s.heap.get? b = some o → s'.heap.get? b = some o) (hz : s.heap.objs.size ≤ s'.heap.objs.size) (ho : s'.os = s.os) (hg : s'.gens = s.gens) : af K φ σ s' := by
 refine ⟨fun b x e => hk b x (fun q => absurd (al e) (yO (hb b q).hi)) (G.base b x e), yT G.grown hz, G.len, G.nod, fun b hb => ⟨(G.hi b hb).1, xU (G.hi b hb).2 hz⟩, fun k b c e1 e2 => ?_, ho.trans G.os, hg.trans G.gens, fun env he => (G.frs env he).keep fun b o e ⟨es, n, hd⟩ _ => ⟨o, es, n, hk b o (fun q => ((hb b q).not o e).2 es n hd) e, hd⟩⟩;refine (G.cells k b c e1 e2).keep (fun y o e h => hk y o (fun q => ?_) e) ⟨[], by simp⟩;rcases h with ⟨h | h, _⟩ | h
 ·exact ((hb y q).not o e).1.1 h
 ·exact ((hb y q).not o e).1.2 h
 exact (hb y q).off (h ▸ xB e1)
theorem af.but {s : Shared} (G : af K φ σ s) (ha : a ∉ φ) (hhi : K.h0.objs.size ≤ a) (hnt : ∀ o, s.heap.get? a = some o → o.cls ≠ .type "tuple" ∧ o.cls ≠ .ref 387) (hndd : ∀ o es n, s.heap.get? a = some o → o.data ≠ .dict es n)
  (hk : ∀ b o, b ≠ a → s.heap.get? b = some o → s'.heap.get? b = some o) (hz : s.heap.objs.size ≤ s'.heap.objs.size) (ho : s'.os = s.os) (hg : s'.gens = s.gens) : af K φ σ s' :=
 G.butP (bad := (· = a)) (fun b q => q ▸ ⟨ha, hhi, fun o e => ⟨hnt o e, fun es n => hndd o es n e⟩⟩) hk hz ho hg
theorem aM.butP {s : Shared} {bad : Addr → Prop} (G : af K φ σ s) (I : aM K F vals φ s.heap) (hb : ∀ a, bad a → a ∉ F.own ∧ ∀ o, s.heap.get? a = some o → (o.cls ≠ .type "tuple" ∧ o.cls ≠ .ref 387) ∧ ∀ v, o.data ≠ .cell v)
  (hk : ∀ b o, ¬ bad b → s.heap.get? b = some o → s'.heap.get? b = some o) : aM K F vals φ s'.heap := by
 have hc : ∀ c v, s.heap.IsCell c v → s'.heap.IsCell c v := fun c v x => by
  obtain ⟨o, ho, hd⟩ := x;exact ⟨o, hk c o (fun q => ((hb c q).2 o ho).2 v hd) ho, hd⟩
 refine ⟨I.fn, I.glb, I.blt, I.nod, I.loc, fun b hbo => ?_, I.lens, fun x c h1 h2 => ?_, I.inj, ?_⟩
 ·obtain ⟨h1, h2, o, h3, h4⟩ := I.own b hbo;exact ⟨h1, h2, o, hk b o (fun q => (hb b q).1 hbo) h3, h4⟩
 ·obtain ⟨h3, v, h4⟩ := I.cell x c h1 h2;exact ⟨h3, v, hc c v h4⟩
 obtain ⟨m, hm, hv⟩ := I.var;obtain ⟨o, es, n, ho, r⟩ := hm;refine ⟨m, ⟨o, es, n, hk _ o (fun q => (hb _ q).1 I.loc) ho, r⟩, fun i x v h1 h2 => ?_⟩;obtain ⟨V, hV, r⟩ := hv i x v h1 h2;refine ⟨V, ?_, r.keep (fun b o e h => hk b o (fun q => ?_) e) ⟨[], by simp⟩⟩
 ·rcases hV with q | ⟨c, q1, q2, q3⟩
  ·exact .inl q
  exact .inr ⟨c, q1, q2, hc c _ q3⟩
 rcases h.1 with h | h
 ·exact ((hb b q).2 o e).1.1 h
 exact ((hb b q).2 o e).1.2 h
theorem aM.but {s : Shared} (G : af K φ σ s) (I : aM K F vals φ s.heap) (ha : a ∉ F.own) (hnc : ∀ o v, s.heap.get? a = some o → o.data ≠ .cell v) (hnt : ∀ o, s.heap.get? a = some o → o.cls ≠ .type "tuple" ∧ o.cls ≠ .ref 387)
  (hk : ∀ b o, b ≠ a → s.heap.get? b = some o → s'.heap.get? b = some o) : aM K F vals φ s'.heap :=
 I.butP G (bad := (· = a)) (fun b q => q ▸ ⟨ha, fun o e => ⟨hnt o e, fun v => hnc o v e⟩⟩) hk
inductive ItObj (h : Heap) (a : Addr) : Prop
 | mk (o : Obj) (e : h.get? a = some o) (p : (∀ v, o.data ≠ .cell v) ∧ ∀ es n, o.data ≠ .dict es n) (q : o.cls ≠ .type "tuple" ∧ o.cls ≠ .ref 387)
structure aZ (K : KC) where
 At : Nat → List Addr → Heap → Addr → Prop
 item : Nat → a8 → Option Val
 bound : Nat
 ok : a8 → Prop
 ends : ∀ i σ v, ok σ → item i σ = some v → i < bound
 obj : ∀ i φ h a, At i φ h a → ItObj h a
 stable : ∀ i φ φ' h h' a, At i φ h a → h'.get? a = h.get? a → (∀ b o, h.get? b = some o → (o.cls = .type "tuple" ∨ o.cls = .ref 387) → (∃ xs n, o.data = .seq xs n) → h'.get? b = some o) → (∃ new, φ' = φ ++ new) → At i φ' h' a
 next : ∀ {i φ s a A σ d} {Q : Option Value → Shared → Prop} {E : Value → Shared → Prop}, bj K true d A → af K φ σ s → ok σ → At i φ s.heap a → a ∉ φ →
  (item i σ = none → ∀ s', (∀ b o, b ≠ a → s.heap.get? b = some o → s'.heap.get? b = some o) → s'.os = s.os → s'.gens = s.gens → Q none s') →
  (∀ v, item i σ = some v → ∀ s' V, (∀ b o, b ≠ a → s.heap.get? b = some o → s'.heap.get? b = some o) → s'.os = s.os → s'.gens = s.gens → At (i + 1) φ s'.heap a → RV φ s'.heap v V → Q (some V) s') →
  wpAny (model pw K.w) A (pyNext (.ref a)) Q E s
def pO (K : KC) (σ : a8) (v : Val) (T : aZ K) : Prop :=
 ∀ (A : Around) (φ : List Addr) (s : Shared) (V : Value) (d : Nat), bj K true d A → af K φ σ s → RV φ s.heap v V → ∀ (Q : Value → Shared → Prop) (E : Value → Shared → Prop),
  (∀ s' a, (∀ b o, s.heap.get? b = some o → s'.heap.get? b = some o) → s'.os = s.os → s'.gens = s.gens → s.heap.objs.size ≤ a → T.At 0 φ s'.heap a → Q (.ref a) s') → wpAny (model pw K.w) A (pyIter V) Q E s
def eR (K : KC) (d : Nat) (F : Frm) (vals : ai) (σ : a8) (iter : Expr) (T : aZ K) (σ' : a8) : Prop :=
 ∀ (A : Around) (φ : List Addr) (s : Shared), bj K true d A → af K φ σ s → aM K F vals φ s.heap → ∀ (Q : Value → Shared → Prop) (E : Value → Shared → Prop),
  (∀ φ' s' a, Ext φ s φ' s' → af K φ' σ' s' → s.heap.objs.size ≤ a → a ∉ φ' → T.At 0 φ' s'.heap a → Q (.ref a) s') → wpAny (model pw K.w) A (eval iter F.env) (fun x s1 => wpAny (model pw K.w) A (pyIter x) Q E s1) E s
theorem bB {iter : Expr} {a : Val} {T : aZ K} (h1 : EvE K true d F vals σ iter a σ1) (hi : pO K σ1 a T) : eR K d F vals σ iter T σ1 := fun A φ s R G I Q E hQ => by
 refine h1 A φ s R G I _ _ fun φ1 s1 V1 X1 G1 r1 => ?_
 refine aU (hi A φ1 s1 V1 d R G1 r1 _ _ fun s2 it hk2 ho2 hg2 hn2 hat hz2 => ?_);refine hQ φ1 s2 it (X1.trans (Ext.keepAll hk2 hz2)) (G1.keepAll hk2 hz2 ho2 hg2) (yT X1.size hn2) (fun q => absurd (G1.hi it q).2 (yO hn2)) hat
inductive vU (K : KC) (F : Frm) (φ : List Addr) (s : Shared) (T : aZ K) (it : Addr) (J : Nat → ai → a8 → Prop) (s' : Shared) : Nat → Prop
 | mk (i : Nat) (φ' : List Addr) (v' : ai) (σ' : a8) (X : bo F.own φ s φ' s') (hit : it ∉ φ') (G : af K φ' σ' s') (I : aM K F v' φ' s'.heap) (at_ : T.At i φ' s'.heap it) (j : J i v' σ') : vU K F φ s T it J s' (T.bound - i)
theorem gf {x : Str} {px : Pos} {iter : Expr} {body : List Stmt} {T : aZ K} (hi : eR K d F vals σ iter T σ1) (hix : F.names[ix]? = some x) (hb : Bnd F x)
  (J : Nat → ai → a8 → Prop) (h0 : J 0 vals σ1) (hok : ∀ i vals σ, J i vals σ → T.ok σ)
  (done : ∀ i vals σ, J i vals σ → T.item i σ = none → P .next vals σ)
  (turn : ∀ i vals σ v, J i vals σ → T.item i σ = some v → TSt K true d F (vals.set ix (some v)) σ (execs body F.env) (lpF J P (i + 1)))
  (hs : ∀ x, foldedSetIterable iter F.env x = pure x := by intro _; rfl) : TSt K true d F vals σ (exec (.For (.Name x px) iter body [] pos) F.env) P := fun A φ s R G I Q E hQ => by
 refine wpAny_For ?_ hs;refine hi A φ s R G I _ _ fun φ1 s2 it X1 G2 hn2 hitφ hat => ?_
 have I2 := I.ext G X1;have hitown : it ∉ F.own := fun q => by
  obtain ⟨_, _, o, e, _⟩ := I.own it q;exact absurd (al e) (yO hn2)
 have hithi : K.h0.objs.size ≤ it := yT G.grown hn2;refine codeAny_forLoop (fun n s' => vU K F φ s T it J s' n) ?_ _
  ⟨0, φ1, vals, σ1, X1.toS _, hitφ, G2, I2, hat, h0⟩
 intro n s3 h;refine vU.rec (fun i φ3 v3 σ3 X3 hit3 G3 I3 hat3 j3 => ?_) h;obtain ⟨oi, hoi, ⟨hoic, hoid⟩, hoit⟩ := T.obj _ _ _ _ hat3;have hndd : ∀ o es n, s3.heap.get? it = some o → o.data ≠ .dict es n := fun o es n e => by rw [hoi] at e; cases e; exact hoid es n
 have hnt : ∀ o, s3.heap.get? it = some o → o.cls ≠ .type "tuple" ∧ o.cls ≠ .ref 387 := fun o e => by rw [hoi] at e; cases e; exact hoit
 have hnc : ∀ o v, s3.heap.get? it = some o → o.data ≠ .cell v := fun o v e => by rw [hoi] at e; cases e; exact hoic v
 have old : ∀ b o, s.heap.get? b = some o → b ≠ it := fun b o e q => by
  have := al e;rw [q] at this;exact absurd (xU this hn2) (yQ _)
 refine aU (T.next R G3 (hok _ _ _ j3) hat3 hit3 (fun he s4 hk4 ho4 hg4 hz4 => ?_) (fun v hv s4 V hk4 ho4 hg4 hat4 rv4 hz4 => ?_))
 ·have G4 : af K φ3 σ3 s4 := G3.but hit3 hithi hnt hndd hk4 hz4 ho4 hg4;have I4 : aM K F v3 φ3 s4.heap := I3.but G3 hitown hnc hnt hk4;refine wpAny_execs_nil (hQ φ3 s4 .next .next v3 σ3 ⟨fun b o e q1 q2 => (X3.keep b o e q1 q2).trans fun o' e' => .inl (hk4 b o' (old b o e) e'), yT X3.size hz4, X3.more⟩ G4 I4 rfl (done i v3 σ3 j3 he))
 have G4 : af K φ3 σ3 s4 := G3.but hit3 hithi hnt hndd hk4 hz4 ho4 hg4;have I4 : aM K F v3 φ3 s4.heap := I3.but G3 hitown hnc hnt hk4;have X4 : bo F.own φ s φ3 s4 := ⟨fun b o e q1 q2 => (X3.keep b o e q1 q2).trans fun o' e' => .inl (hk4 b o' (old b o e) e'), yT X3.size hz4, X3.more⟩
 refine wpAny_assign_Name (aN G4 I4 hix hb rv4 fun s5 X5 G5 I5 => ?_);refine turn i v3 σ3 v j3 hv A φ3 s5 R G5 I5 _ _ fun φ6 s6 f r v6 σ6 X6 G6 I6 rr p6 => ?_
 have hlt := T.ends _ _ _ (hok _ _ _ j3) hv;have X56 := X5.trans X6;obtain ⟨o4, ho4', ⟨_, hnd4⟩, _⟩ := T.obj _ _ _ _ hat4;have keepit : s6.heap.get? it = s4.heap.get? it := ((X56.keep it o4 ho4' hit3 hitown).exact hnd4).trans ho4'.symm;have hat6 : T.At (i + 1) φ6 s6.heap it := T.stable _ _ _ _ _ _ hat4 keepit (fun b o e hc hd => (X56.keep b o e (G4.off e hc) (I4.ownOff e hd)).exact fun es n q => by obtain ⟨xs, m, hd⟩ := hd; rw [hd] at q; cases q) (let ⟨n, e, _⟩ := X56.more; ⟨n, e⟩);have hit6 : it ∉ φ6 := by
  obtain ⟨new, rfl, hnew⟩ := X56.more;rw [yD];rintro (q | q)
  ·exact hit3 q
  exact absurd (al ho4') (yO (hnew it q))
 have X : bo F.own φ s φ6 s6 := X4.trans X56;cases r with
 | next =>
  have rr : f = .next := rr;subst rr;exact ⟨T.bound - (i + 1), by exact xI _ _ hlt, i + 1, φ6, v6, σ6, X, hit6, G6, I6, hat6, p6⟩
 | cont =>
  have rr : f = .cont := rr;subst rr;exact ⟨T.bound - (i + 1), by exact xI _ _ hlt, i + 1, φ6, v6, σ6, X, hit6, G6, I6, hat6, p6⟩
 | brk =>
  have rr : f = .brk := rr;subst rr;exact hQ φ6 s6 .next .next v6 σ6 X G6 I6 rfl p6
 | ret w =>
  obtain ⟨W, rfl, rr⟩ := rr;exact hQ φ6 s6 _ (.ret w) v6 σ6 X G6 I6 ⟨W, rfl, rr⟩ p6
noncomputable def rZ (K : KC) (l : List Val) : aZ K where
 At := fun i φ h a => ∃ t xs, h.IsTupleIter a t i ∧ IsTup h t xs ∧ RL φ h l xs.toList
 item := fun i _ => l[i]?
 bound := l.length
 ok := fun _ => True
 ends := fun i σ v _ h => (x7 h).1
 obj := fun i φ h a ⟨t, xs, ⟨o, ho, hc, hd⟩, _⟩ => ⟨o, ho, ⟨fun v e => by rw [hd] at e; (cases e), fun es n e => by rw [hd] at e; (cases e)⟩, by rw [hc]; decide, by rw [hc]; exact nofun⟩
 stable := fun i φ φ' h h' a ⟨t, xs, ⟨o, ho, hc, hd⟩, ⟨ot, hot, hct, n, hdt⟩, r⟩ e hk hp => ⟨t, xs, ⟨o, e.trans ho, hc, hd⟩, ⟨ot, hk t ot hot (.inl hct) ⟨xs, n, hdt⟩, hct, n, hdt⟩, by
  have aux : ∀ {v : Val} {V : Value}, RV φ h v V → RV φ' h' v V := by
   intro v;obtain ⟨new, rfl⟩ := hp;refine Val.rec (motive_1 := fun v => ∀ {V : Value}, RV φ h v V → RV (φ ++ new) h' v V) (motive_2 := fun l => ∀ {Vs : List Value}, RL φ h l Vs → RL (φ ++ new) h' l Vs)
    ?_ ?_ ?_ ?_ ?_ ?_ ?_ ?_ ?_ ?_ v
   ·intro V x; unfold RV at x ⊢; exact x
   ·intro b V x; unfold RV at x ⊢; exact x
   ·intro i V x; unfold RV at x ⊢; exact x
   ·intro y V x; unfold RV at x ⊢; exact x
   ·intro l ih V x;unfold RV at x ⊢;obtain ⟨a, o, n, xs, e, ho, hc, hd, r⟩ := x;exact ⟨a, o, n, xs, e, hk a o ho (.inl hc) ⟨xs, n, hd⟩, hc, hd, ih r⟩
   ·intro l ih V x;unfold RV at x ⊢;obtain ⟨a, o, n, xs, e, ho, hc, hd, r⟩ := x;exact ⟨a, o, n, xs, e, hk a o ho (.inr hc) ⟨xs, n, hd⟩, hc, hd, ih r⟩
   ·intro k V x;unfold RV at x ⊢;obtain ⟨a, e, r⟩ := x;exact ⟨a, by rw [xc (x7 e).1]; exact e, r⟩
   ·intro v V x; unfold RV at x ⊢; exact x
   ·intro Vs x; unfold RL at x ⊢; exact x
   intro v l ih1 ih2 Vs x;unfold RL at x ⊢;obtain ⟨V, Ws, e, r1, r2⟩ := x;exact ⟨V, Ws, e, ih1 r1, ih2 r2⟩
  have auxl : ∀ {l : List Val} {Vs : List Value}, RL φ h l Vs → RL φ' h' l Vs := by
   intro l
   induction l with
   | nil => intro Vs x; unfold RL at x ⊢; exact x
   | cons v l ih => intro Vs x; unfold RL at x ⊢; obtain ⟨V, Ws, e, r1, r2⟩ := x; exact ⟨V, Ws, e, aux r1, ih r2⟩
  exact auxl r⟩
 next := fun {i φ s a A σ d Q E} R G _ ⟨t, xs, hit, ht, r⟩ ha h0 h1 => by
  have hlen := r.length;rw [xK] at hlen;have hnt : a ≠ t := fun e => by
   obtain ⟨o, ho, hc, _⟩ := hit;obtain ⟨o', ho', hc', _⟩ := ht;rw [e, ho'] at ho; cases ho; rw [hc'] at hc; exact absurd hc (by decide)
  cases hx : l[i]? with
  | none =>
   refine wpAny_pyNext_tuple_end (R.hand rfl) hit ht (by have := x8 hx; exact Array.getElem?_eq_none (by exact hlen ▸ this)) fun h' hs => h0 hx _ (fun b o hb e => hs b o hb e) rfl rfl
  | some v =>
   obtain ⟨V, hV, rV⟩ := r.get i hx;refine wpAny_pyNext_tuple_item hit ht (by simpa using hV) fun h' hit' hs => ?_
   have hk : ∀ b o, b ≠ a → s.heap.get? b = some o → h'.get? b = some o := fun b o hb e => (hs.2 b hb).trans e
   have ho := id hit;obtain ⟨o, ho, hc, _⟩ := ho;have hkt : ∀ b o, s.heap.get? b = some o → (o.cls = .type "tuple" ∨ o.cls = .ref 387) → h'.get? b = some o := fun b o' e hcl => hk b o' (fun q => by
    subst q; rw [ho] at e; cases e; rw [hc] at hcl;rcases hcl with h | h <;> exact absurd h (by decide)) e
   refine h1 v hx _ V hk rfl rfl ⟨t, xs, hit', ?_, r.keep (fun b o e h => hkt b o e h.1) ⟨[], by simp⟩⟩ (rV.keep (fun b o e h => hkt b o e h.1) ⟨[], by simp⟩);obtain ⟨ot, hot, r'⟩ := ht;exact ⟨ot, hk t ot (Ne.symm hnt) hot, r'⟩
theorem mO : pO K σ (.tup l) (rZ K l) := fun A φ s V d R G r Q E hQ => by
 obtain ⟨a, xs, rfl, x, q⟩ := r.tup;refine wpAny_pyIter_tuple x (hQ _ _ (fun b o e => xo _ e) rfl rfl (z6 _) ⟨a, xs, ⟨_, xL _ rfl, rfl, rfl⟩, x.push _, q.keep (fun b o e _ => xo _ e) ⟨[], by simp⟩⟩)
noncomputable def aQ (K : KC) (k n : Nat) : aZ K where
 At := fun i φ h a => ∃ la, φ[k]? = some la ∧ h.IsListIter a la i
 item := fun i σ => match σ[k]? with | some (.list l) => l[i]? | _ => none
 bound := n
 ok := fun σ => ∃ l, σ[k]? = some (.list l) ∧ l.length = n
 ends := fun i σ v ⟨l, h, hl⟩ e => by rw [h] at e; have := (x7 e).1; exact hl ▸ this
 obj := fun i φ h a ⟨la, _, o, ho, hc, hd⟩ => ⟨o, ho, ⟨fun v e => by rw [hd] at e; (cases e), fun es n e => by rw [hd] at e; (cases e)⟩, by rw [hc]; decide, by rw [hc]; exact nofun⟩
 stable := fun i φ φ' h h' a ⟨la, hla, o, ho, hc, hd⟩ e _ ⟨new, hp⟩ => ⟨la, by rw [hp, xc (x7 hla).1]; exact hla, o, e.trans ho, hc, hd⟩
 next := fun {i φ s a A σ d Q E} R G ⟨l, hl, _⟩ ⟨la, hla, hit⟩ ha h0 h1 => by
  obtain ⟨o, xs, n', ho, hc, hd, r⟩ := G.cells k la _ hla hl;have hL : s.heap.IsList la xs := ⟨o, ho, hc.1, n', hd⟩
  have hlen := r.length;rw [xK] at hlen;rw [hl] at h0 h1;cases hx : l[i]? with
  | none =>
   refine wpAny_pyNext_list_end (R.hand rfl) hit hL (by have := x8 hx; exact Array.getElem?_eq_none (by exact hlen ▸ this)) fun h' hs => h0 hx _ (fun b o hb e => hs b o hb e) rfl rfl
  | some v =>
   obtain ⟨V, hV, rV⟩ := r.get i hx;refine wpAny_pyNext_list_item hit hL (by simpa using hV) fun h' hit' hs => ?_
   have hk : ∀ b o, b ≠ a → s.heap.get? b = some o → h'.get? b = some o := fun b o hb e => (hs.2 b hb).trans e
   have hoi := id hit;obtain ⟨oi, hoi, hci, _⟩ := hoi;have hkt : ∀ b o, s.heap.get? b = some o → (o.cls = .type "tuple" ∨ o.cls = .ref 387) → h'.get? b = some o := fun b o' e hcl => hk b o' (fun q => by
    subst q; rw [hoi] at e; cases e; rw [hci] at hcl;rcases hcl with h | h <;> exact absurd h (by decide)) e
   exact h1 v hx _ V hk rfl rfl ⟨la, hla, hit'⟩ (rV.keep (fun b o e h => hkt b o e h.1) ⟨[], by simp⟩)
theorem bb (hk : σ[k]? = some (.list l)) : pO K σ (.ref k) (aQ K k l.length) := fun A φ s V d R G r Q E hQ => by
 obtain ⟨a, xs, rfl, ha, x, q⟩ := G.list r hk;exact wpAny_pyIter_list x (hQ _ _ (fun b o e => xo _ e) rfl rfl (z6 _) ⟨a, ha, ⟨_, xL _ rfl, rfl, rfl⟩⟩)
noncomputable def bd (K : KC) (a c : Int) (n : Nat) : aZ K where
 At := fun i φ h it => IsRangeIter h it (a + (i : Int) * c) ((n : Int) - (i : Int)) c
 item := fun i _ => if i < n then some (.int (a + (i : Int) * c)) else none
 bound := n
 ok := fun _ => True
 ends := fun i σ v _ h => by
  by_cases hi : i < n
  ·exact hi
  rw [if_neg hi] at h; cases h
 obj := fun i φ h it x => ⟨_, x, ⟨fun v => nofun, fun es n => nofun⟩, by show Value.type "range_iterator" ≠ _; decide, nofun⟩
 stable := fun i φ φ' h h' it x e _ _ => e.trans x
 next := fun {i φ s it A σ d Q E} R G _ hit ha h0 h1 => by
  by_cases hi : i < n
  ·refine wpAny_pyNext_range_item hit (Int.sub_pos_of_lt (yz hi)) fun h' hit' hs => ?_
   rw [if_pos hi] at h1;refine h1 _ rfl _ _ (fun b o hb e => (hs.2 b hb).trans e) rfl rfl ?_ (bq ..);have e1 : a + ((i + 1 : Nat) : Int) * c = a + (i : Int) * c + c := by push_cast; rw [Int.add_mul, Int.one_mul, Int.add_assoc]
   have e2 : (n : Int) - ((i + 1 : Nat) : Int) = (n : Int) - (i : Int) - 1 := by exact (Int.sub_sub (n : Int) i 1).symm
   show IsRangeIter h' it (a + ((i + 1 : Nat) : Int) * c) ((n : Int) - ((i + 1 : Nat) : Int)) c;rw [e1, e2]; exact hit'
  rw [if_neg hi] at h0;exact wpAny_pyNext_range_end (R.hand rfl) hit (Int.sub_nonpos_of_le (Int.ofNat_le.mpr (yS hi))) fun h' hs => h0 rfl _ (fun b o hb e => hs b o hb e) rfl rfl
def P2F (K : KC) (hn : Bool) (d : Nat) (F : Frm) (vals : ai) (σ : a8) (f : Value → Value → Sem Value) (v1 v2 v : Val) (σ' : a8) : Prop :=
 ∀ (A : Around) (φ : List Addr) (s : Shared) (V1 V2 : Value), bj K hn d A → af K φ σ s → aM K F vals φ s.heap → RV φ s.heap v1 V1 → RV φ s.heap v2 V2 → ∀ (Q : Value → Shared → Prop) (E : Value → Shared → Prop),
  (∀ φ' s' V, Ext φ s φ' s' → af K φ' σ' s' → RV φ' s'.heap v V → Q V s') → wpAny (model pw K.w) A (f V1 V2) Q E s
theorem jK {l r : Expr} {op : CmpOp} {a b : Val} {v : Bool} (h1 : EvE K hn d F vals σ l a σ1) (h2 : EvE K hn d F vals σ1 r b σ2) (h3 : P2F K hn d F vals σ2 (compareOp op) a b (.bool v) σ3)
  (hm : behindInMarks op r = false := by with_unfolding_all rfl) : EvB K hn d F vals σ (.Compare l [op] [r] pos) v σ3 := fun A φ s R G I Q E hQ => by
 refine wpAny_isTrue_Compare1 (h1 A φ s R G I _ _ fun φ1 s1 V1 X1 G1 r1 => ?_) hm;refine h2 A φ1 s1 R G1 (I.ext G X1) _ _ fun φ2 s2 V2 X2 G2 r2 => ?_
 refine h3 A φ2 s2 V1 V2 R G2 ((I.ext G X1).ext G1 X2) (r1.ext G1 X2) r2 _ _ fun φ3 s3 V X3 G3 r3 => ?_
 unfold RV at r3;subst r3;exact wpAny_truthy_bool (hQ φ3 s3 v ((X1.trans X2).trans X3) G3 rfl)
def cQ (K : KB) (a : Addr) (S : Str → Bool) : Prop := ∃ n, FrozAt (strKind pw K.w) K.h0 a S n ∧ n < 4096
theorem dL {x : Str} (h : cQ K.toKB a S) : P2F K hn d F vals σ (compareOp .In) (.str x) (.glob (.ref a)) (.bool (S x)) σ := fun A φ s V1 V2 R G I r1 r2 Q E hQ => by
 unfold RV at r1 r2;obtain ⟨t, rfl⟩ := r1;subst r2;obtain ⟨n, hS, hn⟩ := h;obtain ⟨m, hm, _⟩ := I.var;have Fr' : Fr K.h0 F.env.locals s.heap m := ⟨hm, G.base, (I.own _ I.loc).le⟩
 exact in_frozS Fr' hS hn (hQ φ _ _ (Ext.toks ..) (G.toks _) (az _))
theorem p_notin_froz {x : Str} (h : cQ K.toKB a S) : P2F K hn d F vals σ (compareOp .NotIn) (.str x) (.glob (.ref a)) (.bool (!S x)) σ := fun A φ s V1 V2 R G I r1 r2 Q E hQ => by
 unfold RV at r1 r2;obtain ⟨t, rfl⟩ := r1;subst r2;obtain ⟨n, hS, hn⟩ := h;obtain ⟨m, hm, _⟩ := I.var;have Fr' : Fr K.h0 F.env.locals s.heap m := ⟨hm, G.base, (I.own _ I.loc).le⟩
 exact notin_frozS Fr' hS hn (hQ φ _ _ (Ext.toks ..) (G.toks _) (az _))
def PT (K : KC) (hn : Bool) (d : Nat) (σ : a8) (v : Val) (b : Bool) : Prop :=
 ∀ (A : Around) (φ : List Addr) (s : Shared) (V : Value), bj K hn d A → af K φ σ s → RV φ s.heap v V → ∀ (Q : Bool → Shared → Prop) (E : Value → Shared → Prop),
  (∀ φ' s', Ext φ s φ' s' → af K φ' σ s' → Q b s') → wpAny (model pw K.w) A (truthy V) Q E s
theorem cu {b : Bool} : PT K hn d σ (.bool b) b := fun A φ s V R G r Q E hQ => by
 unfold RV at r; subst r;exact wpAny_truthy_bool (hQ φ s (Ext.refl ..) G)
theorem qU (hk : σ[k]? = some (.list l)) (hsz : l.length ≤ 2 ^ 32) : PT K hn d σ (.ref k) (!l.isEmpty) := fun A φ s V R G r Q E hQ => by
 obtain ⟨a, xs, rfl, _, x, q⟩ := G.list r hk;have e := q.length;rw [xK] at e;refine wpAny_truthy_list x (by rw [e]; exact lI (yj hsz) (by decide)) ?_;have : xs.isEmpty = l.isEmpty := by
  unfold Array.isEmpty;rw [e];cases l <;> simp
 rw [this];exact hQ φ _ (Ext.toks ..) (G.toks _)
theorem dp {b : Bool} (h : EvE K hn d F vals σ e v σ1) (ht : PT K hn d σ1 v b) (he : ∀ env whole, isTrue e env whole = (do let v ← whole; standAt e.pos; holding [v] (truthy v)) := by intros; rfl) : EvB K hn d F vals σ e b σ1 := fun A φ s R G I Q E hQ => by
 refine wpAny_isTrue_value (h A φ s R G I _ _ fun φ1 s1 V1 X1 G1 r1 => ?_) (he _ _);exact ht A φ1 s1 V1 R G1 r1 _ _ fun φ2 s2 X2 G2 => hQ φ2 s2 b (X1.trans X2) G2 rfl
theorem s_try {body : List Stmt} {h₀ : ExceptHandler} {hs : List ExceptHandler} (h : TSt K hn d F vals σ (execs body F.env) (nxt K hn d F orelse P)) :
  TSt K hn d F vals σ (exec (.Try body (h₀ :: hs) orelse [] pos) F.env) P := fun A φ s R G I Q E hQ => by
 refine wpAny_Try_except (h A φ s R G I _ _ fun φ1 s1 f r v1 σ1 X1 G1 I1 r1 p1 => ?_);cases r with
 | next =>
  have r1 : f = .next := r1;subst r1;exact p1 A φ1 s1 R G1 I1 Q E fun φ2 s2 f2 r2 v2 σ2 X2 G2 I2 rr p2 => hQ φ2 s2 f2 r2 v2 σ2 (X1.trans X2) G2 I2 rr p2
 | brk =>
  have r1 : f = .brk := r1;subst r1;exact hQ φ1 s1 _ .brk v1 σ1 X1 G1 I1 rfl p1
 | cont =>
  have r1 : f = .cont := r1;subst r1;exact hQ φ1 s1 _ .cont v1 σ1 X1 G1 I1 rfl p1
 | ret v =>
  obtain ⟨V, rfl, r1⟩ := r1;exact hQ φ1 s1 _ (.ret v) v1 σ1 X1 G1 I1 ⟨V, rfl, r1⟩ p1
theorem d8 {body : List Stmt} {h₀ : ExceptHandler} {hs : List ExceptHandler} (h : TSt K hn d F vals σ (execs body F.env) P) :
  TSt K hn d F vals σ (exec (.Try body (h₀ :: hs) [] [] pos) F.env) P := s_try (TSt.mono h fun r v' σ' p => by
 cases r with
 | next => exact ak p
 | brk => exact p
 | cont => exact p
 | ret v => exact p)
theorem kY {x : Str} (h : x.length ≤ 2 ^ 32) : PC K hn d σ (.builtin "len") [.str x] [] (.int x.length) σ := fun A φ s Vs Ws R G r1 r2 Q E hQ => by
 unfold RL at r1;obtain ⟨V, Ws', rfl, rv, rn⟩ := r1;unfold RL at rn;subst rn;unfold RV at rv;obtain ⟨t, rfl⟩ := rv;exact P.len_str (Int.not_le.mpr (lI (yj h) (by decide))) (hQ φ _ _ (Ext.toks ..) (G.toks _) (bq ..))
theorem cf (h : l.length ≤ 2 ^ 32) : PC K hn d σ (.builtin "len") [.tup l] [] (.int l.length) σ := fun A φ s Vs Ws R G r1 r2 Q E hQ => by
 unfold RL at r1;obtain ⟨V, Ws', rfl, rv, rn⟩ := r1;unfold RL at rn;subst rn;obtain ⟨a, xs, rfl, x, q⟩ := rv.tup;have e := q.length;rw [xK] at e;refine PyProof.Rows.len_tuple x (lI (yj (yT (yV e) h)) (by decide)) ?_;rw [e];exact hQ φ _ _ (Ext.toks ..) (G.toks _) (bq ..)
theorem bk (hk : σ[k]? = some (.list l)) (h : l.length ≤ 2 ^ 32) : PC K hn d σ (.builtin "len") [.ref k] [] (.int l.length) σ := fun A φ s Vs Ws R G r1 r2 Q E hQ => by
 unfold RL at r1;obtain ⟨V, Ws', rfl, rv, rn⟩ := r1;unfold RL at rn;subst rn;obtain ⟨a, xs, rfl, _, x, q⟩ := G.list rv hk;have e := q.length;rw [xK] at e;refine call_len_list x (lI (yj (yT (yV e) h)) (by decide)) ?_;rw [e];exact hQ φ _ _ (Ext.toks ..) (G.toks _) (bq ..)
theorem j4 {s : Shared} {Q : List Value → Shared → Prop} (hh : A.handled = none) (G : af K φ σ s) (r : RV φ s.heap (.tup l) V) (hnl : n = l.length)
  (hQ : ∀ s' Vs, Ext φ s φ s' → af K φ σ s' → RL φ s'.heap l Vs → Q Vs s') : wpAny (model pw K.w) A (unpackItems V n none) Q E s := by
 obtain ⟨a, xs, rfl, x, q⟩ := r.tup;have e := q.length;rw [xK] at e;subst hnl;rw [← e];refine aU (unpackItems_tuple hh x fun h' he hz => ?_);have hk : ∀ b o, s.heap.get? b = some o → h'.get? b = some o := fun b o e => he b o (yZ (al e)) e
 have X : Ext φ s φ { s with heap := h' } := Ext.keepAll hk hz;exact hQ _ _ X (G.keepAll hk hz rfl rfl) (q.ext G X)
inductive TwoOf (φ : List Addr) (h : Heap) (a b : Val) (Vs : List Value) : Prop
 | mk (V W : Value) (e : Vs = [V, W]) (h1 : RV φ h a V) (h2 : RV φ h b W)
theorem bO {a b : Val} (r : RL φ h [a, b] Vs) : TwoOf φ h a b Vs := by
 unfold RL at r;obtain ⟨V, Ws, rfl, r1, r⟩ := r;unfold RL at r;obtain ⟨W, Ws, rfl, r2, r⟩ := r;unfold RL at r;subst r;exact ⟨V, W, rfl, r1, r2⟩
inductive pN (φ : List Addr) (h : Heap) (a b c : Val) (Vs : List Value) : Prop
 | mk (V W Z : Value) (e : Vs = [V, W, Z]) (h1 : RV φ h a V) (h2 : RV φ h b W) (h3 : RV φ h c Z)
theorem dH {a b c : Val} (r : RL φ h [a, b, c] Vs) : pN φ h a b c Vs := by
 unfold RL at r;obtain ⟨V, Ws, rfl, r1, r⟩ := r;obtain ⟨W, Z, rfl, r2, r3⟩ := bO r;exact ⟨V, W, Z, rfl, r1, r2, r3⟩
theorem iQ {x : Str} {a b : Val} (hix : F.names[i]? = some x) (hiy : F.names[j]? = some y) (hbx : Bnd F x) (hby : Bnd F y)
  (hP : Pu ((vals.set i (some a)).set j (some b)) σ) : TA K true d F vals σ (.tup [a, b]) (assign (.Tuple [.Name x p1, .Name y p2] k tp) F.env) Pu := fun A φ s V R G I r Q E hQ => by
 show wpAny _ _ (do standAt tp; unpack V (assignEach [.Name x p1, .Name y p2] F.env)) Q E s;refine za (wpAny_standAt ?_);show wpAny _ _ (do assignInOrder [assign (.Name x p1) F.env, assign (.Name y p2) F.env] (← holding [V] (unpackItems V 2 none))) Q E s;refine za (yP (j4 (R.hand rfl) G r rfl fun s1 Vs X1 G1 r1 => ?_));obtain ⟨V1, V2, rfl, q1, q2⟩ := bO r1;show wpAny _ _ (do holding [V2] (assign (.Name x p1) F.env V1); assignInOrder [assign (.Name y p2) F.env] [V2]) Q E s1;refine za (yP (wpAny_assign_Name (aN G1 (I.ext G X1) hix hbx q1 fun s2 X2 G2 I2 => ?_)));show wpAny _ _ (do holding [] (assign (.Name y p2) F.env V2); pure ()) Q E s2;refine za (yP (wpAny_assign_Name (aN G2 I2 hiy hby (q2.extS G1 (I.ext G X1) X2) fun s3 X3 G3 I3 => zb ?_)));exact hQ φ s3 _ _ (((X1.toS _).trans X2).trans X3) G3 I3 hP
theorem eU {x : Str} {value : Expr} {a b : Val} (h : EvE K true d F vals σ value (.tup [a, b]) σ1) (hix : F.names[i]? = some x) (hiy : F.names[j]? = some y) (hbx : Bnd F x) (hby : Bnd F y)
  (hP : P .next ((vals.set i (some a)).set j (some b)) σ1) (hs : swapsWithSole [.Tuple [.Name x p1, .Name y p2] k tp] value pos.line F.env = pure false := by rfl)
  (hw : swappedStores [.Tuple [.Name x p1, .Name y p2] k tp] value F.env = pure none := by rfl) :
  TSt K true d F vals σ (exec (.Assign [.Tuple [.Name x p1, .Name y p2] k tp] value pos) F.env) P := fun A φ s R G I Q E hQ => by
 refine Assign_Tuple (h A φ s R G I _ _ fun φ1 s1 V1 X1 G1 r1 => ?_) hs hw;refine iQ (Pu := fun v' σ' => P .next v' σ') hix hiy hbx hby hP A φ1 s1 V1 R G1 (I.ext G X1) r1 _ _ fun φ2 s2 v2 σ2 X2 G2 I2 p2 => ?_
 exact hQ φ2 s2 .next .next v2 σ2 ((X1.toS _).trans X2) G2 I2 rfl p2
theorem ji {x : Str} {value : Expr} {a b : Val} (h : EvE K true d F vals σ value (.tup [a, b]) σ1) (hix : F.names[i]? = some x) (hiy : F.names[j]? = some y) (hbx : Bnd F x) (hby : Bnd F y)
  (hP : P .next ((vals.set j (some b)).set i (some a)) σ1) (hs : swapsWithSole [.Tuple [.Name x p1, .Name y p2] k tp] value pos.line F.env = pure false := by rfl)
  (hw : swappedStores [.Tuple [.Name x p1, .Name y p2] k tp] value F.env = pure (some [x, y])) :
  TSt K true d F vals σ (exec (.Assign [.Tuple [.Name x p1, .Name y p2] k tp] value pos) F.env) P := fun A φ s R G I Q E hQ => by
 refine Assign_Tuple_swapped (h A φ s R G I _ _ fun φ1 s1 V1 X1 G1 r1 => ?_) hs hw;have I1 := I.ext G X1;refine j4 (R.hand rfl) G1 r1 rfl fun s2 Vs X2 G2 r2 => ?_
 obtain ⟨V1, V2, rfl, q1, q2⟩ := bO r2;have I2 := I1.ext G1 X2;show wpAny _ _ (do holding [V1] (bindName F.env y V2); assignInOrder [fun v => bindName F.env x v] [V1]) _ E s2;refine za (yP (wpAny_bindName (aN G2 I2 hiy hby q2 fun s3 X3 G3 I3 => ?_)));show wpAny _ _ (do holding [] (bindName F.env x V1); pure ()) _ E s3;refine za (yP (wpAny_bindName (aN G3 I3 hix hbx (q1.extS G2 I2 X3) fun s4 X4 G4 I4 => zb ?_)));exact hQ φ1 s4 .next .next _ _ ((((X1.toS _).trans (X2.toS _)).trans X3).trans X4) G4 I4 rfl hP
def oS (K : KC) (σ : a8) (a : Val) (name : Str) (f : Value) : Prop :=
 ∀ (A : Around) (φ : List Addr) (s : Shared) (V : Value) (pl : Sem Bool), af K φ σ s → RV φ s.heap a V → ∀ (Q : Value × List Value → Shared → Prop) (E : Value → Shared → Prop), Q (f, [V]) s → wpAny (model pw K.w) A (getMethod V name pl) Q E s
theorem bZ {o : Expr} {name : Str} {a : Val} (h1 : EvE K hn d F vals σ o a σ1) (hm : oS K σ1 a name f) (hc : cS K.toKB f)
  (ha : EvL K hn d F vals σ1 pos (e :: args) l σ2) (hp : PC K hn d σ2 f (a :: l) [] v σ3)
  (hbase : attributeBase o name F.env (eval o F.env) = eval o F.env := by rfl)
  (hfew : methodCallForm ((e :: args).length + ([] : List Keyword).length) (backTo pos (starEach (e :: args) F.env)) (backToKw pos (keywordEach [] F.env)) = true := by rfl) (hline : (apos.endLine == pos.line) = true := by rfl)
  (he : starEach (e :: args) F.env = (false, eval e F.env) :: starEach args F.env := by rfl)
  (hs : (backTo pos (starEach args F.env)).any (·.1) = false := by rfl) :
  EvE K hn d F vals σ (.Call (.Attribute o name apos) (e :: args) [] pos) v σ3 := fun A φ s R G I Q E hQ => by
 rw [arm_eval_Call, hbase];refine za (h1 A φ s R G I _ _ fun φ1 s1 V1 X1 G1 r1 => ?_);refine za (wpAny_standAt ?_);have hpos : methodCallPos true o F.env apos pos = pure pos := by unfold methodCallPos; simp [hline]
 unfold methodCall;rw [hfew];refine za (yP (hm A φ1 s1 V1 _ G1 r1 _ _ ?_));refine za (z9 hpos ?_);have I1 := I.ext G X1;refine aT hc ?_ ?_
 ·rw [he]; exact xk ⟨xk ⟨rfl, hs⟩, rfl⟩
 have ha' := ha A φ1 s1 R G1 I1;rw [he] at ha' ⊢;refine evalArgs_kw rfl (ha' _ _ fun φ2 s2 Vs X2 G2 r2 => wpAny_evalAll_nil ⟨G2.base, ?_⟩);refine hp A φ2 s2 (V1 :: Vs) [] R G2 (by unfold RL; exact ⟨V1, Vs, rfl, r1.ext G1 X2, r2⟩) (by show RL _ _ [] _; unfold RL; rfl) Q E fun φ3 s3 V X3 G3 r3 => hQ φ3 s3 V ((X1.trans X2).trans X3) G3 r3
theorem pC {o : Expr} {name : Str} {a : Val} (h1 : EvE K hn d F vals σ o a σ1) (hm : oS K σ1 a name f) (hc : cS K.toKB f)
  (hp : PC K hn d σ1 f [a] [] v σ3)
  (hbase : attributeBase o name F.env (eval o F.env) = eval o F.env := by rfl) (hline : (apos.endLine == pos.line) = true := by rfl) :
  EvE K hn d F vals σ (.Call (.Attribute o name apos) [] [] pos) v σ3 := fun A φ s R G I Q E hQ => by
 rw [arm_eval_Call, hbase];refine za (h1 A φ s R G I _ _ fun φ1 s1 V1 X1 G1 r1 => ?_);refine za (wpAny_standAt ?_);have hpos : methodCallPos true o F.env apos pos = pure pos := by unfold methodCallPos; simp [hline]
 have hfew : methodCallForm (([] : List Expr).length + ([] : List Keyword).length) (backTo pos (starEach [] F.env)) (backToKw pos (keywordEach [] F.env)) = true := rfl;unfold methodCall;rw [hfew];refine za (yP (hm A φ1 s1 V1 _ G1 r1 _ _ ?_));refine za (z9 hpos ?_);refine aT hc rfl (PySem.evalArgs_none ⟨G1.base, ?_⟩);refine hp A φ1 s1 [V1] [] R G1 (by unfold RL; exact ⟨V1, [], rfl, r1, by unfold RL; rfl⟩) (by show RL _ _ [] _; unfold RL; rfl) Q E fun φ3 s3 V X3 G3 r3 => hQ φ3 s3 V (X1.trans X3) G3 r3
theorem cw {name : Str} {id : String} (hk : σ[k]? = some (.list l)) (slot : Slot "list" name id) (hty : typeOf (.builtin id) = pure (.type "method_descriptor")) : oS K σ (.ref k) name (.builtin id) := fun A φ s V pl G r Q E hQ => by
 unfold RV at r;obtain ⟨a, e, rfl⟩ := r;obtain ⟨o, xs, n, ho, hc, hd, r⟩ := G.cells k a _ e hk;exact getMethod_builtin ⟨o, ho, hc.1⟩ PySem.F.plainAttrs_list slot hty (fun b e => by cases e; exact ⟨o, ho, hc.2.1⟩) hQ
theorem uT {x : Str} {name : Str} {id : String} (slot : Slot "str" name id) (hty : typeOf (.builtin id) = pure (.type "method_descriptor")) : oS K σ (.str x) name (.builtin id) := fun A φ s V pl G r Q E hQ => by
 unfold RV at r;obtain ⟨t, rfl⟩ := r;exact getMethod_builtin (typeIs_str s x t) PySem.F.plainAttrs_str slot hty (fun b e => nomatch e) hQ
theorem fL {l : List Addr} (h : l.Nodup) {i j : Nat} {x : Addr} (h1 : l[i]? = some x) (h2 : l[j]? = some x) : i = j := by
 obtain ⟨hi, e1⟩ := x7 h1;obtain ⟨hj, e2⟩ := x7 h2;have hp := List.pairwise_iff_getElem.mp h;rcases Nat.lt_trichotomy i j with q | q | q
 ·exact absurd (e1.trans e2.symm) (hp i j hi hj q)
 ·exact q
 exact absurd (e2.trans e1.symm) (hp j i hj hi q)
theorem af.upd {s : Shared} {c' : ag} {t : Nat} (G : af K φ σ s) (ha : φ[k]? = some a) (hs : Heap.SameBut a s.heap h') (hnt : ∀ o, s.heap.get? a = some o → o.cls ≠ .type "tuple" ∧ o.cls ≠ .ref 387)
  (hc : b5 K.w φ h' a c') : af K φ (σ.set k c') { s with heap := h', toks := t } := by
 have hm : a ∈ φ := xB ha;refine ⟨fun b x e => ?_, ?_, by rw [yB]; exact G.len, G.nod, fun b hb => ?_, fun j b c e1 e2 => ?_, G.os, G.gens, fun env he => (G.frs env he).keep fun b o e ⟨es, n, hd⟩ hb => ⟨o, es, n, (hs.2 b fun q => hb (q ▸ hm)).trans e, hd⟩⟩
 ·exact (hs.2 b (yZ (xU (al e) (G.hi a hm).1))).trans (G.base b x e)
 ·show _ ≤ h'.objs.size;rw [hs.1]; exact G.grown
 ·show _ ∧ b < h'.objs.size;rw [hs.1]; exact G.hi b hb
 by_cases hj : j = k
 ·subst hj;have : b = a := by rw [ha] at e1; cases e1; rfl
  subst this;have hl : j < σ.length := by rw [← G.len]; exact (x7 ha).1
  rw [xq hl] at e2;cases e2;exact hc
 rw [xF (Ne.symm hj)] at e2;have hba : b ≠ a := fun q => hj (by
  subst q;exact fL G.nod e1 ha)
 refine (G.cells j b c e1 e2).keep (fun y o e h => (hs.2 y fun q => ?_).trans e) ⟨[], by simp⟩;subst q;rcases h with ⟨h | h, _⟩ | h
 ·exact (hnt o e).1 h
 ·exact (hnt o e).2 h
 exact hba h.symm
theorem Ext.upd {s : Shared} {t : Nat} (ha : a ∈ φ) (hs : Heap.SameBut a s.heap h') : Ext φ s φ { s with heap := h', toks := t } :=
 ⟨fun b o e hb => .inl ((hs.2 b fun q => hb (q ▸ ha)).trans e), by show _ ≤ h'.objs.size; rw [hs.1]; exact z6 _, [], by simp, by simp⟩
inductive LstOb (φ : List Addr) (s : Shared) (k : Nat) (l : List Val) (V : Value) : Prop
 | mk (a : Addr) (xs : Array Value) (n : Nat) (e : V = .ref a) (h : φ[k]? = some a) (x : s.heap.get? a = some { cls := .type "list", dict := none, data := .seq xs n, slots := #[] }) (r : RL φ s.heap l xs.toList)
theorem af.listObj {s : Shared} (G : af K φ σ s) (r : RV φ s.heap (.ref k) V) (hk : σ[k]? = some (.list l)) :
  LstOb φ s k l V := by
 unfold RV at r;obtain ⟨a, e, rfl⟩ := r;obtain ⟨⟨cls, dd, data, sl⟩, xs, n, ho, hc, hd, r⟩ := G.cells k a _ e hk;simp only at hc hd;obtain ⟨rfl, rfl, rfl⟩ := hc;subst hd;exact ⟨a, xs, n, rfl, e, ho, r⟩
theorem RL.in_heap {s : Shared} (hs : Heap.SameBut a s.heap h') (hnt : ∀ o, s.heap.get? a = some o → o.cls ≠ .type "tuple" ∧ o.cls ≠ .ref 387) (r : RL φ s.heap l Vs) : RL φ h' l Vs :=
 r.keep (fun b o e h => (hs.2 b fun q => by subst q; exact h.1.elim (hnt o e).1 (hnt o e).2).trans e) ⟨[], by simp⟩
theorem RV.in_heap {s : Shared} (hs : Heap.SameBut a s.heap h') (hnt : ∀ o, s.heap.get? a = some o → o.cls ≠ .type "tuple" ∧ o.cls ≠ .ref 387) (r : RV φ s.heap v V) : RV φ h' v V :=
 r.keep (fun b o e h => (hs.2 b fun q => by subst q; exact h.1.elim (hnt o e).1 (hnt o e).2).trans e) ⟨[], by simp⟩
theorem af.mapList {s : Shared} {f : Array Value → Array Value} {t : Nat} (G : af K φ σ s) (ha : φ[k]? = some a)
  (ho : s.heap.get? a = some { cls := .type "list", dict := none, data := .seq xs n, slots := #[] }) (r : RL φ s.heap l' (f xs).toList) :
  af K φ (σ.set k (.list l')) { s with heap := s.heap.update a (Obj.mapSeq f), toks := t } ∧ Ext φ s φ { s with heap := s.heap.update a (Obj.mapSeq f), toks := t } ∧
   ∀ v V, RV φ s.heap v V → RV φ (s.heap.update a (Obj.mapSeq f)) v V := by
 have hs : Heap.SameBut a s.heap (s.heap.update a (Obj.mapSeq f)) := Heap.SameBut.update ..
 have hnt : ∀ o, s.heap.get? a = some o → o.cls ≠ .type "tuple" ∧ o.cls ≠ .ref 387 := fun o e => by rw [ho] at e; cases e; exact ⟨fun q => absurd q (by show ¬ (Value.type "list" = _); decide), nofun⟩
 obtain ⟨n', hd'⟩ := Obj.data_mapSeq (o := { cls := .type "list", dict := none, data := .seq xs n, slots := #[] }) rfl f;refine ⟨G.upd ha hs hnt ?_, Ext.upd (xB ha) hs, fun v V r => r.in_heap hs hnt⟩;exact ⟨_, f xs, n', xv _ ho (Obj.isFreed_of_seq hd'), ⟨rfl, rfl, rfl⟩, hd', r.in_heap hs hnt⟩
theorem fK {a : Val} (r : RL φ h [a] Vs) : ∃ V, Vs = [V] ∧ RV φ h a V := by
 unfold RL at r;obtain ⟨V, Ws, rfl, r1, r⟩ := r;unfold RL at r;subst r;exact ⟨V, rfl, r1⟩
theorem cN (hk : σ[k]? = some (.list l)) (hsz : l.length ≤ sizeLine) : PC K hn d σ (.builtin "list.append") [.ref k, v] [] .none (σ.set k (.list (l ++ [v]))) := fun A φ s Vs Ws R G r1 r2 Q E hQ => by
 obtain ⟨V, W, rfl, q1, q2⟩ := bO r1;have r2 : Ws = [] := by unfold RL at r2; exact r2
 subst r2;obtain ⟨a, xs, n, rfl, ha, ho, r⟩ := G.listObj q1 hk;have e := r.length;rw [xK] at e;refine call_meets xh ⟨_, ho, rfl⟩ PySem.F.entry_list_append (PySem.F.args_list_append_2 _ _) (PySem.AutoListH.list_append_list_val_0 a xs n W (by exact e ▸ hsz)) ⟨ho, ?_⟩;obtain ⟨G', X', _⟩ := G.mapList (f := fun l => l.push W) (t := s.toks) ha ho (l' := l ++ [v]) (by rw [Array.toList_push]; exact RL.append r (by unfold RL; exact ⟨W, [], rfl, q2, by unfold RL; rfl⟩));exact hQ φ _ _ X' G' (by unfold RV; rfl)
theorem RL.dropLast (r : RL φ h l Vs) : RL φ h l.dropLast Vs.dropLast := by
 have e := r.length;rw [List.dropLast_eq_take, List.dropLast_eq_take, e];exact RL.take _ r
theorem oH (xs : Array Value) : (xs.eraseIdxIfInBounds (xs.size - 1)).toList = xs.toList.dropLast := by
 unfold Array.eraseIdxIfInBounds;split
 ·rw [Array.toList_eraseIdx, List.eraseIdx_eq_take_drop_succ, List.dropLast_eq_take, xK];rw [List.drop_eq_nil_of_le (by rw [xK]; exact sL), yG]
 have : xs = #[] := Array.eq_empty_of_size_eq_zero (Nat.eq_zero_of_not_pos fun q => absurd (sK q) ‹_›);subst this; rfl
theorem uW (hk : σ[k]? = some (.list (l ++ [v]))) (hsz : l.length < sizeLine) : PC K hn d σ (.builtin "list.pop") [.ref k] [] v (σ.set k (.list l)) := fun A φ s Vs Ws R G r1 r2 Q E hQ => by
 obtain ⟨V, rfl, q1⟩ := fK r1;have r2 : Ws = [] := by unfold RL at r2; exact r2
 subst r2;obtain ⟨a, xs, n, rfl, ha, ho, r⟩ := G.listObj q1 hk;have e := r.length;rw [xK, xR, xt] at e;obtain ⟨V, hV, rV⟩ := r.get l.length (v := v) (by simp);have hy : xs[xs.size - 1]? = some V := by
  rw [e, Nat.add_sub_cancel]; simpa using hV
 refine call_meets PySem.F.slot_list_pop ⟨_, ho, rfl⟩ PySem.F.entry_list_pop (PySem.F.args_list_pop_1 _) (PySem.MeetsSeq.list_pop_last a xs n V hy (by exact e ▸ hsz)) ⟨ho, ?_⟩;obtain ⟨G', X', hv⟩ := G.mapList (f := fun l => l.eraseIdxIfInBounds (xs.size - 1)) (t := s.toks) ha ho (l' := l) (by
  have := r.dropLast;rw [xJ] at this;rw [oH]; exact this)
 exact hQ φ _ _ X' G' (hv _ _ rV)
theorem n9 (hk : σ[k]? = some (.list l)) (hj : σ[j]? = some (.list l')) (hsz : l.length + l'.length ≤ 4096) : PC K hn d σ (.builtin "list.extend") [.ref k, .ref j] [] .none (σ.set k (.list (l ++ l'))) := fun A φ s Vs Ws R G r1 r2 Q E hQ => by
 obtain ⟨V, W, rfl, q1, q2⟩ := bO r1;have r2 : Ws = [] := by unfold RL at r2; exact r2
 subst r2;obtain ⟨a, xs, n, rfl, ha, ho, r⟩ := G.listObj q1 hk;obtain ⟨b, ys, m, rfl, hb, ho', r'⟩ := G.listObj q2 hj;have e := r.length;have e' := r'.length;rw [xK] at e e';have hl : sizeLine = 16777216 := rfl;have h1 : ¬(!xs.isEmpty && Builtin.List.listTooLong (xs.size + ys.size)) = true := by
  unfold Builtin.List.listTooLong;simp only [yu, not_and, yh];intro _;exact yO (yT (yT (yN (yV e) (yV e')) hsz) (hl ▸ (by decide)))
 refine call_meets PySem.F.slot_list_extend ⟨_, ho, rfl⟩ PySem.F.entry_list_extend (PySem.F.args_list_extend_2 _ _) (PySem.AutoSeq1.list_extend_list_list_0 a xs n b ys m h1 (by exact yT (yT (yV e) (yT (yp ..) hsz)) (hl ▸ (by decide))) (by exact yT (yT (yN (yV e) (yV e')) hsz) (hl ▸ (by decide)))) ⟨ho, ho', ?_⟩;obtain ⟨G', X', _⟩ := G.mapList (f := fun l => l ++ ys) (t := s.toks) ha ho (l' := l ++ l') (by rw [xO]; exact RL.append r r');exact hQ φ _ _ X' G' (by unfold RV; rfl)
theorem bW : Slot "frozenset" "isdisjoint" "frozenset.isdisjoint" :=
 .of (owner := "frozenset") (n := "isdisjoint") (by rw [typeLookup_type, builtinLookup_eq_fast]; kernel_rfl) (by decide +kernel) (by decide +kernel) (by decide +kernel)
  (by first | exact .inl (by decide +kernel) | exact .inr (by decide +kernel)) (by rw [isSubtype_type]; kernel_rfl)
theorem bV : Slot "frozenset" "issuperset" "frozenset.issuperset" :=
 .of (owner := "frozenset") (n := "issuperset") (by rw [typeLookup_type, builtinLookup_eq_fast]; kernel_rfl) (by decide +kernel) (by decide +kernel) (by decide +kernel)
  (by first | exact .inl (by decide +kernel) | exact .inr (by decide +kernel)) (by rw [isSubtype_type]; kernel_rfl)
theorem fm : entryFor table "frozenset.isdisjoint" = some Builtin.«frozenset.isdisjoint» := entryFor_of_tree (by kernel_rfl)
theorem fk : entryFor table "frozenset.issuperset" = some Builtin.«frozenset.issuperset» := entryFor_of_tree (by kernel_rfl)
theorem bS : entryFor table "frozenset.isdisjoint.loop" = some Builtin.«frozenset.isdisjoint.loop» := entryFor_of_tree (by kernel_rfl)
theorem bR : entryFor table "frozenset.issuperset.loop" = some Builtin.«frozenset.issuperset.loop» := entryFor_of_tree (by kernel_rfl)
theorem aY : plainId "frozenset.isdisjoint.loop" = true := by decide +kernel
theorem aX : plainId "frozenset.issuperset.loop" = true := by decide +kernel
theorem fX (a b : Value) : argsOk "frozenset.isdisjoint" ⟨[a, b], []⟩ := by
 unfold argsOk; rw [signature?_of (id := "frozenset.isdisjoint") (n := ['t', 'n', 'i', 'o', 'j', 's', 'i', 'd', 's', 'i']) (o := ['t', 'e', 's', 'n', 'e', 'z', 'o', 'r', 'f']) (by kernel_rfl) FB.owner_frozenset]; kernel_rfl
theorem fW (a b : Value) : argsOk "frozenset.issuperset" ⟨[a, b], []⟩ := by
 unfold argsOk; rw [signature?_of (id := "frozenset.issuperset") (n := ['t', 'e', 's', 'r', 'e', 'p', 'u', 's', 's', 'i']) (o := ['t', 'e', 's', 'n', 'e', 'z', 'o', 'r', 'f']) (by kernel_rfl) FB.owner_frozenset]; kernel_rfl
theorem gJ : typeOf (.builtin "frozenset.isdisjoint") = pure (.type "method_descriptor") := by show builtinType _ = _; rw [builtinType_eq_fast]; kernel_rfl
theorem gH : typeOf (.builtin "frozenset.issuperset") = pure (.type "method_descriptor") := by show builtinType _ = _; rw [builtinType_eq_fast]; kernel_rfl
theorem jS : PlainAttrs "frozenset" :=
 ⟨⟨"object.__getattribute__", by rw [typeLookup_type, builtinLookup_eq_fast]; kernel_rfl, by decide +kernel⟩, by rw [typeLookup_type, builtinLookup_eq_fast]; kernel_rfl⟩
section
variable {w : World} {A : Around} {E : Value → Shared → Prop} {s : Shared}
theorem p0 {x : Str} {Q : Bool → Shared → Prop} (hS : FrozAt (strKind pw w) s.heap a S n) (hb : n < 4096) (h : Q (S x) { s with toks := s.toks + 1 }) :
  wpAny (model pw w) A (setContains a (.str x t)) Q E s := by
 obtain ⟨es, ep, tb, ho, hel, hmem, hn, hf⟩ := hS
 delta setContains
 refine yP ?_;refine za ((strKind pw w).pyHash (k := x) (strKind_is _ _ _ _) ?_);refine za (setFind_any (s := { s with toks := s.toks + 1 }) (strKind_is _ _ _ _) rfl ho rfl hel hmem (by rw [hn]; exact hb) hf fun r hr => ?_);refine zb ?_;rw [hr]; exact h
theorem FrozAt.keep (hS : FrozAt (strKind pw w) h a S n) (hk : ∀ o, h.get? a = some o → h'.get? a = some o) : FrozAt (strKind pw w) h' a S n := by
 obtain ⟨es, ep, tb, ho, r⟩ := hS;exact ⟨es, ep, tb, hk _ ho, r⟩
theorem qy (hh : A.handled = none) {a I : Addr} {S : Str → Bool} {n : Nat} (hb : n < 4096) (haI : a ≠ I) {x : Str} {t : Tok} {R : Result → Shared → Prop} :
  ∀ (k i : Nat) (s : Shared), x.cps.size - i = k → i ≤ x.cps.size → s.heap.IsStrIter I "str_ascii_iterator" x t i → FrozAt (strKind pw w) s.heap a S n →
   (∀ h' tk, (∀ b o, b ≠ I → s.heap.get? b = some o → h'.get? b = some o) → R (.ok (.ret (.bool ((x.cps.toList.drop i).all fun c => !S ⟨#[c]⟩)))) { s with heap := h', toks := tk }) →
   codeAny (model pw w) A (.builtin "frozenset.isdisjoint.loop" ⟨[.ref a, .ref I], []⟩) R s := by
 intro k
 induction k with
 | zero =>
  intro i s hk hi hit hS hR;obtain rfl : i = x.cps.size := by exact sD hk hi
  refine codeAny_builtin bS ?_;rw [xD aY _];show wpAny _ A.in1 (pyNext (.ref I) >>= _) _ _ s;refine za (wpAny_pyNext_ascii_end (A := A.in1) hh hit (by simp) fun h' hs => ?_);refine zb ?_;have := hR h' s.toks (fun b o hb e => hs b o hb e);rw [List.drop_eq_nil_of_le (by simp)] at this;exact this
 | succ k ih =>
  intro i s hk hi hit hS hR;have hlt : i < x.cps.size := by exact sC hk
  have hd : x.cps.toList.drop i = x.cps[i] :: x.cps.toList.drop (i + 1) := by rw [xd (by simpa using hlt)]; simp
  refine codeAny_builtin bS ?_;rw [xD aY _];show wpAny _ A.in1 (pyNext (.ref I) >>= _) _ _ s;refine za (wpAny_pyNext_ascii_item hit (c := x.cps[i]) (by simp [hlt]) fun h1 hit1 hs1 => ?_);show wpAny _ A.in1 (holding [Value.str ⟨#[x.cps[i]]⟩ s.toks] (setContains a (.str ⟨#[x.cps[i]]⟩ s.toks)) >>= _) _ _ _;refine za (yP ?_);have hS1 : FrozAt (strKind pw w) h1 a S n := FrozAt.keep hS fun o e => (hs1.2 a haI).trans e
  refine p0 (s := { s with heap := h1, toks := s.toks + 1 }) hS1 hb ?_;cases hc : S ⟨#[x.cps[i]]⟩ with
  | true =>
   refine zb ?_;have := hR h1 (s.toks + 1 + 1) (fun b o hb e => (hs1.2 b hb).trans e);rw [hd, List.all_cons, hc] at this;exact this
  | false =>
   refine zb ⟨plainId_quiet aY _, ?_⟩;refine ih (i + 1) _ (sB hk) hlt hit1 hS1 fun h' tk hk' => ?_
   have := hR h' tk (fun b o hb e => hk' b o hb ((hs1.2 b hb).trans e));rw [hd, List.all_cons, hc] at this;exact this
theorem nF (hh : A.handled = none) {a I : Addr} {S : Str → Bool} {n : Nat} (hb : n < 4096) (haI : a ≠ I) {x : Str} {t : Tok} {R : Result → Shared → Prop} :
  ∀ (k i : Nat) (s : Shared), x.cps.size - i = k → i ≤ x.cps.size → s.heap.IsStrIter I "str_ascii_iterator" x t i → FrozAt (strKind pw w) s.heap a S n →
   (∀ h' tk, (∀ b o, b ≠ I → s.heap.get? b = some o → h'.get? b = some o) → R (.ok (.ret (.bool ((x.cps.toList.drop i).all fun c => S ⟨#[c]⟩)))) { s with heap := h', toks := tk }) →
   codeAny (model pw w) A (.builtin "frozenset.issuperset.loop" ⟨[.ref a, .ref I], []⟩) R s := by
 intro k
 induction k with
 | zero =>
  intro i s hk hi hit hS hR;obtain rfl : i = x.cps.size := by exact sD hk hi
  refine codeAny_builtin bR ?_;rw [xD aX _];show wpAny _ A.in1 (pyNext (.ref I) >>= _) _ _ s;refine za (wpAny_pyNext_ascii_end (A := A.in1) hh hit (by simp) fun h' hs => ?_);refine zb ?_;have := hR h' s.toks (fun b o hb e => hs b o hb e);rw [List.drop_eq_nil_of_le (by simp)] at this;exact this
 | succ k ih =>
  intro i s hk hi hit hS hR;have hlt : i < x.cps.size := by exact sC hk
  have hd : x.cps.toList.drop i = x.cps[i] :: x.cps.toList.drop (i + 1) := by rw [xd (by simpa using hlt)]; simp
  refine codeAny_builtin bR ?_;rw [xD aX _];show wpAny _ A.in1 (pyNext (.ref I) >>= _) _ _ s;refine za (wpAny_pyNext_ascii_item hit (c := x.cps[i]) (by simp [hlt]) fun h1 hit1 hs1 => ?_);show wpAny _ A.in1 (holding [Value.str ⟨#[x.cps[i]]⟩ s.toks] (setContains a (.str ⟨#[x.cps[i]]⟩ s.toks)) >>= _) _ _ _;refine za (yP ?_);have hS1 : FrozAt (strKind pw w) h1 a S n := FrozAt.keep hS fun o e => (hs1.2 a haI).trans e
  refine p0 (s := { s with heap := h1, toks := s.toks + 1 }) hS1 hb ?_;cases hc : S ⟨#[x.cps[i]]⟩ with
  | false =>
   refine zb ?_;have := hR h1 (s.toks + 1 + 1) (fun b o hb e => (hs1.2 b hb).trans e);rw [hd, List.all_cons, hc] at this;exact this
  | true =>
   refine zb ⟨plainId_quiet aX _, ?_⟩;refine ih (i + 1) _ (sB hk) hlt hit1 hS1 fun h' tk hk' => ?_
   have := hR h' tk (fun b o hb e => hk' b o hb ((hs1.2 b hb).trans e));rw [hd, List.all_cons, hc] at this;exact this
end
theorem rM {name : Str} {id : String} (hS : cQ K.toKB a S) (slot : Slot "frozenset" name id) (hty : typeOf (.builtin id) = pure (.type "method_descriptor")) : oS K σ (.glob (.ref a)) name (.builtin id) := fun A φ s V pl G r Q E hQ => by
 unfold RV at r;subst r;obtain ⟨n, ⟨es, ep, tb, ho, _⟩, _⟩ := hS;exact getMethod_builtin ⟨_, G.base _ _ ho, rfl⟩ jS slot hty (fun b e => by cases e; exact ⟨_, G.base _ _ ho, rfl⟩) hQ
theorem lX {x : Str} (hS : cQ K.toKB a S) (hx : x.cps.all (· < 128) = true) :
  PC K true d σ (.builtin "frozenset.isdisjoint") [.glob (.ref a), .str x] [] (.bool (x.cps.toList.all fun c => !S ⟨#[c]⟩)) σ := fun A φ s Vs Ws R G r1 r2 Q E hQ => by
 obtain ⟨V, W, rfl, q1, q2⟩ := bO r1;have r2 : Ws = [] := by unfold RL at r2; exact r2
 subst r2;unfold RV at q1 q2;subst q1;obtain ⟨t, rfl⟩ := q2;obtain ⟨n, hS, hn⟩ := hS;have hS := FrozAt.keep hS (G.base a);obtain ⟨es, ep, tb, ho, _⟩ := id hS;have hT : s.TypeIs (.ref a) "frozenset" := ⟨_, ho, rfl⟩
 refine aU (wpAny_call (codeAny_call_builtin bW.plain fm (bW.check _ _ _ _ _ _ _ _ hT (fX _ _) ?_)))
 delta Builtin.«frozenset.isdisjoint»
 refine za (m := Builtin.Frozenset.oneOther _ _) (z9 (a := (a, .str x t)) rfl ?_);show wpAny _ _ (if (Value.str x t == Value.ref a) = true then _ else _) _ _ _;rw [if_neg (by rw [show (Value.str x t == Value.ref a) = false from rfl]; exact xS)];refine za (zb ?_);refine wpAny_ite_false rfl ?_;refine za (wpAny_pyIter_ascii hx ?_);refine zb ⟨plainId_quiet aY _, ?_⟩;have hne : a ≠ s.heap.objs.size := yZ (al ho);refine qy (R.hand rfl) hn hne _ 0 _ rfl (z7 _) ⟨_, xL _ rfl, rfl, rfl⟩ (FrozAt.keep hS fun o e => xo _ e) fun h' tk hk hz => ?_
 have hkk : ∀ b o, s.heap.get? b = some o → h'.get? b = some o := fun b o e => hk b o (yZ (al e)) (xo _ e)
 exact hQ φ { s with heap := h', toks := tk } _ (Ext.keepAll hkk hz) (G.keepAll hkk hz rfl rfl) (az _)
theorem lW {x : Str} (hS : cQ K.toKB a S) (hx : x.cps.all (· < 128) = true) :
  PC K true d σ (.builtin "frozenset.issuperset") [.glob (.ref a), .str x] [] (.bool (x.cps.toList.all fun c => S ⟨#[c]⟩)) σ := fun A φ s Vs Ws R G r1 r2 Q E hQ => by
 obtain ⟨V, W, rfl, q1, q2⟩ := bO r1;have r2 : Ws = [] := by unfold RL at r2; exact r2
 subst r2;unfold RV at q1 q2;subst q1;obtain ⟨t, rfl⟩ := q2;obtain ⟨n, hS, hn⟩ := hS;have hS := FrozAt.keep hS (G.base a);obtain ⟨es, ep, tb, ho, _⟩ := id hS;have hT : s.TypeIs (.ref a) "frozenset" := ⟨_, ho, rfl⟩
 refine aU (wpAny_call (codeAny_call_builtin bV.plain fk (bV.check _ _ _ _ _ _ _ _ hT (fW _ _) ?_)))
 delta Builtin.«frozenset.issuperset»
 refine za (m := Builtin.Frozenset.oneOther _ _) (z9 (a := (a, .str x t)) rfl ?_);dsimp only
 delta Builtin.Frozenset.isAnySet
 refine za (zb ?_);refine za (wpAny_pyIter_ascii hx ?_);refine zb ⟨plainId_quiet aX _, ?_⟩;have hne : a ≠ s.heap.objs.size := yZ (al ho);refine nF (R.hand rfl) hn hne _ 0 _ rfl (z7 _) ⟨_, xL _ rfl, rfl, rfl⟩ (FrozAt.keep hS fun o e => xo _ e) fun h' tk hk hz => ?_
 have hkk : ∀ b o, s.heap.get? b = some o → h'.get? b = some o := fun b o e => hk b o (yZ (al e)) (xo _ e)
 exact hQ φ { s with heap := h', toks := tk } _ (Ext.keepAll hkk hz) (G.keepAll hkk hz rfl rfl) (az _)
def PCR (K : KC) (hn : Bool) (d : Nat) (σ : a8) (f : Value) (l : List Val) (Rel : List Addr → Heap → Value → Prop) (σ' : a8) : Prop :=
 ∀ (A : Around) (φ : List Addr) (s : Shared) (Vs : List Value), bj K hn d A → af K φ σ s → RL φ s.heap l Vs → ∀ (Q : Value → Shared → Prop) (E : Value → Shared → Prop),
  (∀ φ' s' V, Ext φ s φ' s' → af K φ' σ' s' → Rel φ' s'.heap V → Q V s') → wpAny (model pw K.w) A (call f Vs) Q E s
theorem PCR.pc (h : PCR K hn d σ f l (fun φ h V => RV φ h v V) σ') : PC K hn d σ f l [] v σ' := fun A φ s Vs Ws R G r1 r2 Q E hQ => by
 have r2 : Ws = [] := by unfold RL at r2; exact r2
 subst r2;exact h A φ s Vs R G r1 Q E hQ
theorem cH {n : Str} {Rel : List Addr → Heap → Value → Prop} (hf : EvE K hn d F vals σ (.Name n p) (.glob f) σ) (hc : cS K.toKB f)
  (ha : EvL K hn d F vals σ pos (e :: args) l σ1) (hp : PCR K hn d σ1 f l Rel σ3)
  (he : starEach (e :: args) F.env = (false, eval e F.env) :: starEach args F.env := by rfl)
  (hs : (backTo pos (starEach args F.env)).any (·.1) = false := by rfl) : TV K hn d F vals σ (eval (.Call (.Name n p) (e :: args) [] pos) F.env) Rel σ3 := fun A φ s R G I Q E hQ => by
 refine wpAny_Call_Name_kw (hf A φ s R G I _ _ fun φ0 s0 V0 X0 G0 r0 => ?_);unfold RV at r0;subst r0;have I0 := I.ext G X0;refine aT hc ?_ ?_
 ·rw [he]; exact xk ⟨xk ⟨rfl, hs⟩, rfl⟩
 have ha' := ha A φ0 s0 R G0 I0;rw [he] at ha' ⊢;refine evalArgs_kw rfl (ha' _ _ fun φ1 s1 Vs X1 G1 r1 => wpAny_evalAll_nil ⟨G1.base, ?_⟩);exact hp A φ1 s1 Vs R G1 r1 Q E fun φ3 s3 V X3 G3 r3 => hQ φ3 s3 V ((X0.trans X1).trans X3) G3 r3
noncomputable def ei (a b c : Int) : List Addr → Heap → Value → Prop := fun _ h V => ∃ r t u v, V = .ref r ∧ IsRange h r a b c t u v
theorem jE {n : Int} : PCR K hn d σ (.type "range") [.int n] (ei 0 n 1) σ := fun A φ s Vs R G r Q E hQ => by
 obtain ⟨V, rfl, q⟩ := fK r;unfold RV at q;obtain ⟨t, rfl⟩ := q;refine call_range_1 (hQ φ _ _ ((Ext.push φ s _).trans (Ext.toks ..)) ((G.push _).toks _) ⟨_, _, _, _, rfl, xL _ rfl⟩)
theorem dR {a : Int} : PCR K hn d σ (.type "range") [.int a, .int b] (ei a b 1) σ := fun A φ s Vs R G r Q E hQ => by
 obtain ⟨V, W, rfl, q1, q2⟩ := bO r;unfold RV at q1 q2;obtain ⟨t, rfl⟩ := q1;obtain ⟨u, rfl⟩ := q2;refine call_range_2 (hQ φ _ _ ((Ext.push φ s _).trans (Ext.toks ..)) ((G.push _).toks _) ⟨_, _, _, _, rfl, xL _ rfl⟩)
theorem three_ofL {a b c : Val} (r : RL φ h [a, b, c] Vs) : pN φ h a b c Vs := dH r
theorem tj {a c : Int} (hc : c ≠ 0) (hpl : Builtin.divisionGoesByPylong (b - a) c = false) : PCR K hn d σ (.type "range") [.int a, .int b, .int c] (ei a b c) σ := fun A φ s Vs R G r Q E hQ => by
 obtain ⟨V, W, Z, rfl, q1, q2, q3⟩ := dH r;unfold RV at q1 q2 q3;obtain ⟨t, rfl⟩ := q1;obtain ⟨u, rfl⟩ := q2;obtain ⟨v, rfl⟩ := q3;refine call_range_3 hc (hQ φ _ _ ((Ext.push φ s _).trans (Ext.toks ..)) ((G.push _).toks _) ⟨_, _, _, _, rfl, xL _ rfl⟩) (hp := .inl hpl)
theorem eG {iter : Expr} {a c : Int} (h : TV K true d F vals σ (eval iter F.env) (ei a b c) σ1) (hs : Builtin.Range.small a b c = true) (hn : Builtin.Range.rangeSize a b c = (n : Int)) : eR K d F vals σ iter (bd K a c n) σ1 := fun A φ s R G I Q E hQ => by
 refine h A φ s R G I _ _ fun φ1 s1 V1 X1 G1 r1 => ?_
 obtain ⟨r, t, u, v, rfl, hr⟩ := r1;refine wpAny_pyIter_range hr hs ?_;refine hQ φ1 _ _ (X1.trans (Ext.push ..)) (G1.push _) X1.size (fun q => absurd (G1.hi _ q).2 (yQ _)) ?_;show IsRangeIter _ _ _ _ _;have : Heap.get? (s1.heap.push { cls := .type "range_iterator", data := .fields #[rawInt a, rawInt (Builtin.Range.rangeSize a b c), rawInt c] }) s1.heap.objs.size = some { cls := .type "range_iterator", data := .fields #[rawInt a, rawInt (Builtin.Range.rangeSize a b c), rawInt c] } := xL _ rfl;rw [hn] at this;rw [hn];simpa using this
theorem mV (u v : Tok) : Gives (Builtin.«int.__new__» ⟨[.type "int", .str ⟨#[48,48,54,49]⟩ u, .int 16 v], []⟩) (.int 97) :=
 .of_wp fun M A E s Q h => by
  obtain ⟨hp, g, d, tk, os⟩ := s;have f1 := F.conv_sub_int;have f2 := F.madeHere_int;have f6 : typeOf (.str ⟨#[48,48,54,49]⟩ u) = pure (.type "str") := rfl;have hr : (int_private% "readNumeral") 0 (Int.toNat 16) (List.takeWhile (fun x => x != 0) (if ((⟨#[48,48,54,49]⟩ : Str).cps.all fun x => decide (x < 128)) = true then (⟨#[48,48,54,49]⟩ : Str).cps.toList else Unicode.numberText (⟨#[48,48,54,49]⟩ : Str).cps.toList)) = (int_private% "Numeral.value") 97 := by kernel_rfl
  repeat (any_goals (first | assumption | wp_step))
  all_goals (try rw [hr])
  all_goals (try dsimp only)
  repeat (any_goals (first | assumption | wp_step))
  all_goals first | exact ⟨_, rfl, h⟩ | skip
theorem mW (u v : Tok) : Gives (Builtin.«int.__new__» ⟨[.type "int", .str ⟨#[48,48,50,69]⟩ u, .int 16 v], []⟩) (.int 46) :=
 .of_wp fun M A E s Q h => by
  obtain ⟨hp, g, d, tk, os⟩ := s;have f1 := F.conv_sub_int;have f2 := F.madeHere_int;have f6 : typeOf (.str ⟨#[48,48,50,69]⟩ u) = pure (.type "str") := rfl;have hr : (int_private% "readNumeral") 0 (Int.toNat 16) (List.takeWhile (fun x => x != 0) (if ((⟨#[48,48,50,69]⟩ : Str).cps.all fun x => decide (x < 128)) = true then (⟨#[48,48,50,69]⟩ : Str).cps.toList else Unicode.numberText (⟨#[48,48,50,69]⟩ : Str).cps.toList)) = (int_private% "Numeral.value") 46 := by kernel_rfl
  repeat (any_goals (first | assumption | wp_step))
  all_goals (try rw [hr])
  all_goals (try dsimp only)
  repeat (any_goals (first | assumption | wp_step))
  all_goals first | exact ⟨_, rfl, h⟩ | skip
theorem er (a b : Value) : checkTypeCall "int" ⟨[a, b], []⟩ = pure () := by kernel_rfl
theorem fy (a b : Value) : checkBuiltinCall "int.__new__" ⟨[.type "int", a, b], []⟩ = pure () := by kernel_rfl
theorem c_hex {x : Str} {n : Int} (h : (x = ⟨#[48,48,54,49]⟩ ∧ n = 97) ∨ (x = ⟨#[48,48,50,69]⟩ ∧ n = 46)) : PC K hn d σ (.type "int") [.str x, .int 16] [] (.int n) σ := fun A φ s Vs Ws R G r1 r2 Q E hQ => by
 obtain ⟨V, W, rfl, q1, q2⟩ := bO r1;have r2 : Ws = [] := by unfold RL at r2; exact r2
 subst r2;unfold RV at q1 q2;obtain ⟨t, rfl⟩ := q1;obtain ⟨u, rfl⟩ := q2;have fin : ∀ k : Nat, Q (.int n k) { s with toks := k + 1 } := fun k => hQ φ _ _ (Ext.toks ..) (G.toks _) (bq ..)
 rcases h with ⟨rfl, rfl⟩ | ⟨rfl, rfl⟩
 ·exact callType_new F.called_int F.newNe_int (er _ _) (fy _ _) (fun obj => F.args_object_init_3 obj _ _) F.entry_int_new (mV t u).meets ⟨rfl, fin _⟩
 exact callType_new F.called_int F.newNe_int (er _ _) (fy _ _) (fun obj => F.args_object_init_3 obj _ _) F.entry_int_new (mW t u).meets ⟨rfl, fin _⟩
theorem c_chr (h : n < 0x10FFFF) : PC K hn d σ (.builtin "chr") [.int n] [] (.str ⟨#[n]⟩) σ := fun A φ s Vs Ws R G r1 r2 Q E hQ => by
 obtain ⟨V, rfl, q1⟩ := fK r1;have r2 : Ws = [] := by unfold RL at r2; exact r2
 subst r2;unfold RV at q1;obtain ⟨t, rfl⟩ := q1;exact P.chr_of_int (by rw [Bool.or_eq_false_iff, decide_eq_false_iff_not, decide_eq_false_iff_not]; exact ⟨Int.not_lt.mpr (xX n), Int.not_lt.mpr (Int.ofNat_le.mpr (yU h))⟩) (hQ φ _ _ (Ext.toks ..) (G.toks _) (d9 ..))
theorem gZ (x y : Str) (i : Int) (t u v : Tok) (k : Nat) (rest : List Nat) (h : Builtin.Str.occurrences x y (fromIndex x.length i) x.length 1 = k :: rest) : Gives (Builtin.«str.index» ⟨[.str x t, .str y u, .int i v], []⟩) (.int k) := by
 show Gives (match Builtin.Str.occurrences x y (fromIndex x.length i) (min x.length x.length) 1 with | k :: _ => retInt k | [] => (do rule "str.index.not-found"; raiseError "ValueError" "substring not found")) _;rw [Nat.min_self, h];exact .of_eq rfl
theorem qh (s sub : Str) (hi : Nat) : ∀ (l : List Nat) (free k : Nat) (pre post : List Nat), l = pre ++ k :: post → (∀ i ∈ l, free ≤ i) → (∀ i ∈ pre, ¬ (i + sub.length ≤ hi ∧ Builtin.Str.subAt s sub i = true)) → (k + sub.length ≤ hi ∧ Builtin.Str.subAt s sub k = true) →
  (forIn l ((#[] : Array Nat), free) (StrLaws.occBody s sub hi 1)).run.fst = #[k] := by
 have stay : ∀ (l : List Nat) (free : Nat) (k : Nat), (forIn l ((#[k] : Array Nat), free) (StrLaws.occBody s sub hi 1)).run.fst = #[k] := by
  intro l
  induction l with
  | nil => intro free k; rfl
  | cons a l ih =>
   intro free k;rw [List.forIn_cons];unfold StrLaws.occBody;rw [if_neg (by intro h; exact absurd h.1.1.1 (by show ¬ (1 < 1); decide))];exact ih free k
 intro l free k pre post hl hf hno hk;subst hl
 induction pre generalizing free with
 | nil =>
  rw [List.nil_append, List.forIn_cons];unfold StrLaws.occBody;rw [if_pos ⟨⟨⟨by show 0 < 1; decide, hf k (by simp)⟩, hk.1⟩, hk.2⟩];exact stay post _ k
 | cons a pre ih =>
  rw [List.cons_append, List.forIn_cons];unfold StrLaws.occBody;rw [if_neg (fun h => hno a (xT ..) ⟨h.1.2, h.2⟩)];exact ih free (fun i hi => hno i (xC _ hi)) (fun i hi => hf i (xC _ hi))
theorem uH {x : Str} {c : Nat} (hik : i ≤ k) (hk : x.cps.toList[k]? = some c) (hno : ∀ j, i ≤ j → j < k → x.cps.toList[j]? ≠ some c) : PC K hn d σ (.builtin "str.index") [.str x, .str ⟨#[c]⟩, .int i] [] (.int k) σ := fun A φ s Vs Ws R G r1 r2 Q E hQ => by
 obtain ⟨V, W, Z, rfl, q1, q2, q3⟩ := dH r1;have r2 : Ws = [] := by unfold RL at r2; exact r2
 subst r2;unfold RV at q1 q2 q3;obtain ⟨t, rfl⟩ := q1;obtain ⟨u, rfl⟩ := q2;obtain ⟨v, rfl⟩ := q3;have hlt : k < x.length := by have := (x7 hk).1; simpa [Str.length] using this
 have hfi : fromIndex x.length (i : Int) = i := by unfold fromIndex; rw [if_neg (Int.not_lt.mpr (xX _))]; exact Nat.add_zero _
 have hocc : Builtin.Str.occurrences x ⟨#[c]⟩ i x.length 1 = [k] := by
  rw [StrLaws.occ_eq];have hsplit : List.range' i (x.length + 1 - i) = List.range' i (k - i) ++ k :: List.range' (k + 1) (x.length - k) := by
   have e1 : x.length + 1 - i = (k - i) + (x.length - k + 1) := by exact sS hik hlt
   rw [e1, ← List.range'_append_1, List.range'_succ];have e2 : i + (k - i) = k := by exact sG hik
   rw [e2]
  rw [qh x ⟨#[c]⟩ x.length _ i k _ _ hsplit (fun j hj => (List.mem_range'_1.mp hj).1) (fun j hj h => ?_) ((StrLaws.subAt_one x c k).mpr hk)];have := List.mem_range'_1.mp hj;exact hno j this.1 (Nat.lt_of_lt_of_eq this.2 (sG hik)) ((StrLaws.subAt_one x c j).mp h)
 refine call_gives PySem.F.slot_str_index (typeIs_str s x t) PySem.F.entry_str_index (PySem.F.args_str_index_3 _ _ _) (gZ x ⟨#[c]⟩ i t u v k [] (by rw [hfi]; exact hocc)) ?_;exact hQ φ _ _ (Ext.toks ..) (G.toks _) (bq ..)
theorem n4 {l r1 r2 : Expr} {a c : Int} (h1 : EvE K hn d F vals σ l (.int a) σ1) (h2 : EvE K hn d F vals σ1 r1 (.int b) σ2) (h3 : EvE K hn d F vals σ2 r2 (.int c) σ3) (hab : a ≤ b)
  (hm : lastMarks [.LtE, .LtE] [r1, r2] = false := by with_unfolding_all rfl) : EvE K hn d F vals σ (.Compare l [.LtE, .LtE] [r1, r2] pos) (.bool (decide (b ≤ c))) σ3 := fun A φ s R G I Q E hQ => by
 refine Compare_chain (h1 A φ s R G I _ _ fun φ1 s1 V1 X1 G1 q1 => ?_) hm;refine chain_link (h2 A φ1 s1 R G1 (I.ext G X1) _ _ fun φ2 s2 V2 X2 G2 q2 => ?_);have I2 := (I.ext G X1).ext G1 X2;refine mA (a := a) (b := b) A φ2 s2 V1 V2 R G2 (q1.ext G1 X2) q2 _ _ fun φ3 s3 V3 X3 G3 q3 => ?_
 unfold RV at q3;subst q3;refine wpAny_truthy_bool ?_;rw [decide_eq_true hab];simp only [if_true];refine chain_last (h3 A φ3 s3 R G3 (I2.ext G2 X3) _ _ fun φ4 s4 V4 X4 G4 q4 => ?_);exact mA (a := b) (b := c) A φ4 s4 V2 V4 R G4 ((q2.ext G2 X3).ext G3 X4) q4 _ _ fun φ5 s5 V5 X5 G5 q5 => hQ φ5 s5 V5 ((((X1.trans X2).trans X3).trans X4).trans X5) G5 q5
theorem oJ {e1 e2 : Expr} {rest : List Expr} (h : EvE K hn d F vals σ e1 (.bool true) σ1) : EvE K hn d F vals σ (.BoolOp .Or (e1 :: e2 :: rest) pos) (.bool true) σ1 := fun A φ s R G I Q E hQ => by
 refine BoolOp_or (h A φ s R G I _ _ fun φ1 s1 V1 X1 G1 q1 => ?_);have q := q1;unfold RV at q1;subst q1;exact wpAny_truthy_bool (hQ φ1 s1 _ X1 G1 q)
noncomputable def stm (i : Nat) : Stmt := (pw.main.body[i]?).getD (.Pass default)
noncomputable def nmOf : Stmt → Str
 | .FunctionDef n .. => n
 | .ClassDef n .. => n
 | _ => ⟨#[]⟩
noncomputable def prmOf : Stmt → Arguments
 | .FunctionDef _ p .. => p
 | _ => default
noncomputable def ax : Stmt → List Stmt
 | .FunctionDef _ _ b .. => b
 | .ClassDef _ _ _ b .. => b
 | _ => []
noncomputable def ch : Stmt → Scope
 | .FunctionDef _ _ _ _ _ _ s .. => s
 | .ClassDef _ _ _ _ _ _ s .. => s
 | _ => default
noncomputable def sub (i j : Nat) : Stmt := ((ax (stm i))[j]?).getD (.Pass default)
structure FT where
 st : Stmt
 q : Str
 a : Addr
 kd : Value
noncomputable def iM (t : FT) : FuncData :=
 { name := nmOf t.st, qualname := t.q, params := prmOf t.st, body := .stmts (ax t.st), scope := ch t.st, globals := mainGlobals, closure := [], defaults := .none, kwdefaults := t.kd, code := .ref (t.a - 1), builtins := builtinsNs }
noncomputable def top (i a : Nat) (kd : Value := .none) : FT := ⟨stm i, nmOf (stm i), a, kd⟩
noncomputable def bM := top 23 153
noncomputable def cT := top 24 160
noncomputable def eu := top 25 167
noncomputable def bN := top 26 174
noncomputable def fC := top 27 181
noncomputable def gb := top 28 189 (.ref 182)
noncomputable def tX := top 29 196
noncomputable def qW := top 30 203
noncomputable def gK := top 31 210
noncomputable def iR := top 32 217
noncomputable def ja := top 34 231
noncomputable def gL := top 36 238
noncomputable def gN := top 37 245
noncomputable def fB := top 38 252
noncomputable def g9 := top 39 259
noncomputable def dE := top 42 309
noncomputable def cZ := top 43 316
noncomputable def dT := top 46 397
noncomputable def nD := top 48 404
noncomputable def nC := top 49 411
noncomputable def j8 := top 50 418
noncomputable def va := top 51 425
noncomputable def jb := top 52 430
noncomputable def j9 := top 53 435
noncomputable def ew := top 54 442
noncomputable def lg := top 55 447
noncomputable def oW := top 56 452
noncomputable def qV : FT := ⟨sub 22 0, "NestedDict.__init__", 124, .none⟩
noncomputable def lf : FT := ⟨sub 22 1, "NestedDict.get_or_create_nest", 132, .ref 125⟩
noncomputable def uN : FT := ⟨sub 44 4, "Mismatch.__new__", 334, .none⟩
noncomputable def iO : List FT := [bM, cT, eu, bN, fC, gb, tX, qW, gK, iR, ja, gL, gN, fB, g9,
 dE, cZ, dT, nD, nC, j8, va, jb, j9, ew, lg, oW, qV, lf, uN]
noncomputable def vD : List (Str × Val) := ((iO.take 27).map fun t => (t.q, Val.glob (.ref t.a))) ++
 ([("NestedDict", .glob (.ref 142)), ("_Mismatch", .glob (.ref 387)), ("MAX_KEY_PARTS", .int 1000), ("ILLEGAL_BASIC_STR_CHARS", .glob (.ref 72)), ("ILLEGAL_LITERAL_STR_CHARS", .glob (.ref 72)),
  ("TOML_WS", .glob (.ref 78)), ("BARE_KEY_CHARS", .glob (.ref 87)), ("HEXDIGIT_CHARS", .glob (.ref 91))] : List (Str × Val))
noncomputable def tu : List (Str × Value) := [("len", .builtin "len"), ("isinstance", .builtin "isinstance"), ("list", .type "list"), ("dict", .type "dict"), ("range", .type "range"), ("reversed", .type "reversed"), ("enumerate", .type "enumerate"),
 ("object", .type "object"), ("int", .type "int"), ("chr", .builtin "chr"), ("min", .builtin "min"), ("sum", .builtin "sum"), ("sorted", .builtin "sorted"), ("tuple", .type "tuple"), ("IndexError", .type "IndexError"), ("ValueError", .type "ValueError"), ("KeyError", .type "KeyError")]
def illS (T : Str → Bool) : Prop := ∀ y, T y = true → ∃ c, y = ⟨#[c]⟩ ∧ (c < 32 ∨ c = 127)
noncomputable def lU (G : Frag) : Bool :=
 makesIn G 142 && findIn G (.ref 142) "__init__" == some (some (.ref 124)) && typeIn G (.ref 124) == some (.type "function") &&
 findIn G (.ref 142) "__getattribute__" == some (some (.builtin "object.__getattribute__")) && findIn G (.ref 142) "__getattr__" == some none &&
 findIn G (.ref 142) "dict" == some none && (clsIn G 142).any (·.hasDict) && findIn G (.ref 142) "get_or_create_nest" == some (some (.ref 132)) && typeIn G (.ref 132) == some (.type "function") &&
 findIn G (.ref 142) "__setattr__" == some (some (.builtin "object.__setattr__")) && plainOver G 142 && takerIn G 142 "dict" == some none
noncomputable def mG (G : Frag) : Bool :=
 (match G.lookup 387 with
  | some ⟨_, _, .cls cd, sl⟩ => !cd.abstract && !cd.hasDel && (sl.toList[4]?).join == some .none && cd.mro == [.ref 387, .type "tuple", .type "object"] && cd.bases == [.type "tuple"]
  | _ => false) &&
 specialIn G (.ref 387) "__call__" == some (some (.builtin "type.__call__")) && instIn G (.ref 387) (.type "type") == some true && readsIn G 387 (.type "type") &&
 (match findCls G (.ref 387) (.type "type") "__new__" with
  | some (.get g a obj tp) => g == .builtin "staticmethod.__get__" && a == .ref 388 && obj == .none && tp == .ref 387
  | _ => false) &&
 recIn G 388 "staticmethod" == some [.ref 334] && findIn G (.ref 387) "__init__" == some (some (.builtin "object.__init__")) && findIn G (.ref 387) "__iter__" == some (some (.builtin "tuple.__iter__"))
structure Wld (K : KB) : Prop where
 frag : ∃ G : Frag, G.In K.h0 ∧ lU G = true ∧ mG G = true
 lim : K.h0.NoLimit
 glb : ∃ mg, K.h0.Ns mainGlobals mg ∧ (∀ x v, vD.lookup x = some v → ∃ V, mg x = some V ∧ ∀ φ h, RV φ h v V) ∧ ∀ p ∈ tu, mg p.1 = none
 blt : ∃ mb, K.h0.Ns builtinsNs mb ∧ ∀ x V, tu.lookup x = some V → mb x = some V
 fn : ∀ t ∈ iO, ∃ o doc pm ct an, K.h0.get? t.a = some o ∧ o.data = .func { iM t with doc := doc, pyModule := pm, closureTuple := ct, annotations := an } ∧ K.h0.CodeRec (.ref (t.a - 1)) t.q
 ill : ∃ T, cQ K 72 T ∧ illS T
 ws : cQ K 78 (fh [32, 9])
 bare : cQ K 87 (fh ef)
 hex : cQ K 91 (fh jA)
 acc : ∃ m, K.h0.Ns 125 m ∧ m "access_lists" = some (.bool true)
 mul : ∃ m, K.h0.Ns 182 m ∧ m "multiline" = some (.bool false)
noncomputable def frm (t : FT) (L : Addr) (names : List Str) : Frm := kP (iM t) L t.a names
theorem fM {α : Type} {l : List (Str × α)} {x : Str} {v : α} (h : l.lookup x = some v) : (x, v) ∈ l := by
 induction l with
 | nil => cases h
 | cons p l ih =>
  rw [List.lookup_cons] at h;split at h
  ·rename_i he;cases h;have : x = p.1 := by simpa using he
   subst this;exact xT ..
  exact xC _ (ih h)
theorem Wld.name (H : Wld K.toKB) {x : Str} {pos : Pos} {v : Val} (h : vD.lookup x = some v) (hx : F.env.kindOf x = some .globalImplicit) (hd : (x == ("__debug__" : Str)) = false := by rfl) : EvE K hn d F vals σ (.Name x pos) v σ := by
 obtain ⟨mg, hg, h1, _⟩ := H.glb;obtain ⟨V, hV, hr⟩ := h1 x v h;exact vJ hg hV hx hr hd
theorem Wld.built (H : Wld K.toKB) {x : Str} {pos : Pos} {V : Value} (h : tu.lookup x = some V) (hx : F.env.kindOf x = some .globalImplicit) (hd : (x == ("__debug__" : Str)) = false := by rfl) : EvE K hn d F vals σ (.Name x pos) (.glob V) σ := by
 obtain ⟨mg, hg, _, h2⟩ := H.glb;obtain ⟨mb, hb, h3⟩ := H.blt;exact uC hg (h2 _ (fM h)) hb (h3 x V h) hx hd
theorem Wld.callee (H : Wld K.toKB) {t : FT} (ht : t ∈ iO) : cS K.toKB (.ref t.a) := by
 obtain ⟨o, doc, pm, ct, an, ho, hd, _⟩ := H.fn t ht;exact .fn ho hd
def bL (K : KB) (t : FT) (n : Nat) (kws params : List Str) (dflt : List Val) : Prop :=
 ∃ Ds, (∀ φ h, RL φ h dflt Ds) ∧ ∀ (doc pm ct : Value) (an : Option Addr) (s : Shared) (Vs Ws : List Value), (∀ b o, K.h0.get? b = some o → s.heap.get? b = some o) → Vs.length = n → Ws.length = kws.length →
  BindsTo s { iM t with doc := doc, pyModule := pm, closureTuple := ct, annotations := an } ⟨Vs, kws.zip Ws⟩ (params.zip (Vs ++ Ws ++ Ds))
theorem Wld.def (H : Wld K.toKB) {t : FT} (ht : t ∈ iO) {l dflt : List Val} {kw : List (Str × Val)} {v : Val} {params rest : List Str} {σ' : a8} (hbind : bL K.toKB t l.length (kw.map (·.1)) params dflt)
  (hlen : params.length = l.length + kw.length + dflt.length) (hnod : (params ++ rest).Nodup)
  (hkind : ∀ x ∈ params, (ch t.st).names.lookup x = some .local ∨ ((ch t.st).names.lookup x = some .cell ∧ ∀ n, ((cellsFrom n (ch t.st).names []).lookup x).isSome = true))
  (hco : (ch t.st).isCoroutine = false) (hgen : (ch t.st).isGenerator = false) (hki : (ch t.st).kind = .function)
  (hb : ∀ L, Wld (K.push (frm t L (params ++ rest)).env).toKB → TSt (K.push (frm t L (params ++ rest)).env) hn d (frm t L (params ++ rest)) ((l ++ kw.map (·.2) ++ dflt).map some ++ List.replicate rest.length none) σ (execs (ax t.st) (frm t L (params ++ rest)).env)
   (fnV v σ')) :
  PC K hn (d + 1) σ (.ref t.a) l kw v σ' := by
 obtain ⟨o, doc, pm, ct, an, ho, hd, hc⟩ := H.fn t ht;obtain ⟨Ds, hDs, hB⟩ := hbind;exact c_def (fd := { iM t with doc := doc, pyModule := pm, closureTuple := ct, annotations := an }) (body := ax t.st) ⟨⟨o, ho, hd⟩, hc, rfl, rfl, rfl, rfl, hco, hgen, hki⟩ H.lim
  ⟨Ds, hDs, fun s Vs Ws h1 h2 h3 => hB doc pm ct an s Vs Ws h1 h2 (by rw [h3, yA])⟩ hlen hnod hkind fun L => hb L H
theorem vr {α : Type} {l : List α} (h : l.length = 1) : ∃ a, l = [a] := by
 match l, h with | [a], _ => exact ⟨a, rfl⟩
theorem oj {α : Type} {l : List α} (h : l.length = 2) : ∃ a b, l = [a, b] := by
 match l, h with | [a, b], _ => exact ⟨a, b, rfl⟩
theorem vq {α : Type} {l : List α} (h : l.length = 3) : ∃ a b c, l = [a, b, c] := by
 match l, h with | [a, b, c], _ => exact ⟨a, b, c, rfl⟩
theorem eM {K : KB} {t : FT} {x : Str} (h : ∀ (doc pm ct : Value) (an : Option Addr) (V1 : Value), bindArgs { iM t with doc := doc, pyModule := pm, closureTuple := ct, annotations := an } ⟨[V1], []⟩ = pure [(x, V1)]) : bL K t 1 [] [x] [] :=
 ⟨[], fun _ _ => by unfold RL; rfl, fun doc pm ct an s Vs Ws _ h1 h2 => by
  obtain ⟨a, rfl⟩ := vr h1;exact .of_eq (h doc pm ct an a)⟩
theorem cD {K : KB} {t : FT} {x : Str} (h : ∀ (doc pm ct : Value) (an : Option Addr) (V1 V2 : Value), bindArgs { iM t with doc := doc, pyModule := pm, closureTuple := ct, annotations := an } ⟨[V1, V2], []⟩ = pure [(x, V1), (y, V2)]) : bL K t 2 [] [x, y] [] :=
 ⟨[], fun _ _ => by unfold RL; rfl, fun doc pm ct an s Vs Ws _ h1 h2 => by
  obtain ⟨a, b, rfl⟩ := oj h1;exact .of_eq (h doc pm ct an a b)⟩
theorem oP {K : KB} {t : FT} {x z : Str} (h : ∀ (doc pm ct : Value) (an : Option Addr) (V1 V2 V3 : Value), bindArgs { iM t with doc := doc, pyModule := pm, closureTuple := ct, annotations := an } ⟨[V1, V2, V3], []⟩ = pure [(x, V1), (y, V2), (z, V3)]) : bL K t 3 [] [x, y, z] [] :=
 ⟨[], fun _ _ => by unfold RL; rfl, fun doc pm ct an s Vs Ws _ h1 h2 => by
  obtain ⟨a, b, c, rfl⟩ := vq h1;exact .of_eq (h doc pm ct an a b c)⟩
theorem aL {sc : Scope} (h : (params.all fun x => decide (sc.names.lookup x = some NameKind.local)) = true) : ∀ x ∈ params, sc.names.lookup x = some .local ∨ (sc.names.lookup x = some .cell ∧ ∀ n, ((cellsFrom n sc.names []).lookup x).isSome = true) :=
 fun x hx => .inl (yg (List.all_eq_true.mp h x hx))
inductive skJ (σ : a8) (src : Str) (i j : Nat) (a : Addr) (n : Nat) (v' : ai) (σ' : a8) : Prop
 | mk (k : Nat) (q0 : n = j - k) (q1 : i ≤ k) (q2 : k ≤ j) (q3 : v' = [some (.str src), some (.int k), some (.glob (.ref a))]) (q4 : σ' = σ)
theorem fx (H : Wld K.toKB) {src : Str} {i j : Nat} {a : Addr} {S : Str → Bool} (hS : cQ K.toKB a S) (hij : i ≤ j) (hj : j < src.cps.size) (hsz : src.length < 2 ^ 20)
  (hin : ∀ k c, i ≤ k → k < j → src.cps[k]? = some c → S ⟨#[c]⟩ = true) (hout : ∀ c, src.cps[j]? = some c → S ⟨#[c]⟩ = false) :
  PC K hn (d + 1) σ (.ref 153) [.str src, .int i, .glob (.ref a)] [] (.int j) σ := by
 refine H.def (t := bM) (params := ["src", "pos", "chars"]) (rest := []) (dflt := []) (xB (i := 0) rfl) (oP fun _ _ _ _ _ _ _ => rfl) rfl (by decide +kernel) (aL rfl) rfl rfl rfl fun L H => ?_
 show TSt _ _ _ _ _ _ (execs (ax (stm 23)) _) _;refine a9 (d8 (a9 (dy (skJ σ src i j a) ?_ (j - i) ⟨i, rfl, z6 _, hij, rfl, rfl⟩)));rintro n v' σ' ⟨k, rfl, h1, h2, rfl, rfl⟩;have hk : k < src.cps.size := by exact xV ‹_› ‹_›
 have hc : src.cps[k]? = some src.cps[k] := xe hk;have hsz' : src.cps.size < 2 ^ 20 := hsz;refine ⟨S ⟨#[src.cps[k]]⟩, σ', jK (aV (a7 0 rfl rfl) (a7 1 rfl rfl) bh (bz hc (yW (yW ‹_› ‹_›) (by decide)))) (a7 2 rfl rfl) (dL hS), fun hb => ?_, fun hb => ?_⟩
 ·have hkj : k = j := by
   rcases z0 k j with q | q
   ·rw [hin k _ h1 q hc] at hb; cases hb
   exact yE h2 q
  subst hkj;refine ak (a9 (bm (a7 1 rfl rfl) ⟨rfl, rfl⟩))
 have hkj : k < j := by
  rcases z0 k j with q | q
  ·exact q
  have : k = j := by exact yE ‹_› ‹_›
  subst this;rw [hout _ hc] at hb; cases hb
 refine a9 (cp (i := 1) rfl rfl b7 jo (.inl rfl) (ak ⟨j - (k + 1), by exact xI _ _ hkj, k + 1, rfl, by exact yk ‹_›, by assumption, rfl, rfl⟩))
open PySem.Builtin
theorem ve (a b n : Nat) : Builtin.Str.strSliceIndices (some (a : Int)) (some (b : Int)) 1 n = (List.range (min b n - min a n)).map (min a n + ·) := by
 delta Builtin.Str.strSliceIndices sliceRange
 have h1 : ¬ ((a : Int) < 0) := by exact Int.not_lt.mpr (xX _)
 have h2 : ¬ ((b : Int) < 0) := by lia
 simp only [h1, h2, if_false, show (1 : Int) > 0 by decide, if_true];have e (b : Nat) : max (0 : Int) (min (b : Int) (n : Int)) = ((min b n : Nat) : Int) := by rw [vi]; exact Int.max_eq_right (xX _)
 rw [e, e, sEE];apply xP;intro k _;rw [Int.one_mul]; rfl
noncomputable def sg (x : Str) (a b : Nat) : Str := ⟨((x.cps.toList.drop a).take (b - a)).toArray⟩
theorem pS (x : Str) (a b : Nat) : Txt.slice x (some (a : Int)) (some (b : Int)) = sg x a b := by
 delta Txt.slice sg
 rw [ve];have hl : x.cps.toList.length = x.length := by simp [Str.length]
 by_cases h : ((1 : Int) == 1 && ((List.range (min b x.length - min a x.length)).map (min a x.length + ·)).length == x.length) = true
 ·rw [if_pos h];simp only [yu, yA, List.length_range, zk] at h;have h := h.2;have : (x.cps.toList.drop a).take (b - a) = x.cps.toList := by
   rcases Nat.eq_zero_or_pos x.length with q | q
   ·have e0 : x.cps.toList = [] := x6 ‹_›;rw [e0]; simp
   have ha : a = 0 := sFF q h;subst ha;rw [List.drop_zero, xp (i := b - 0) (yT (yV (hl.trans h.symm)) (yT (Nat.sub_le ..) (Nat.min_le_left ..)))]
  rw [this]
 rw [if_neg h];congr 2;have p := pick_run x.cps (min a x.length) (min b x.length - min a x.length);rw [p];rcases z0 a x.length with q | q
 ·have e : min a x.length = a := yI (yU q);rw [e];rcases z0 b x.length with q' | q'
  ·have e : min b x.length = b := yI (yU q');rw [e]
  have e : min b x.length = x.length := Nat.min_eq_right q';rw [e, xp (by simp [Str.length]), xp (by rw [yr, hl]; exact Nat.sub_le_sub_right q' a)]
 rw [List.drop_eq_nil_of_le (yT (yV hl) (Nat.le_min.mpr ⟨q, z6 _⟩)), List.drop_eq_nil_of_le ‹_›];simp
theorem pV (x : Str) (a b : Nat) : (sg x a b).length ≤ x.length := by
 delta sg Str.length
 simp only [List.size_toArray, yn, yr, xK];exact sR
theorem io {x : Str} {a b : Nat} (hsz : x.length ≤ 2 ^ 20) : PSl K hn d σ (.str x) (some (a : Int)) (some (b : Int)) (.str (sg x a b)) σ := vf (pS x a b) (yT hsz (by decide))
theorem EvE.eq {v' : Val} (h : EvE K hn d F vals σ e v σ1) (q : v = v') : EvE K hn d F vals σ e v' σ1 := q ▸ h
theorem EvB.eq {v v' : Bool} (h : EvB K hn d F vals σ e v σ1) (q : v = v') : EvB K hn d F vals σ e v' σ1 := q ▸ h
theorem aR {i : Int} {k pos} (h : i = (n : Int) := by rfl) : EvE K hn d F vals σ (.Constant (.int i) k pos) (.int (n : Int)) σ := h ▸ b7
theorem dF {a b : Nat} : P2 K hn d σ (binaryOp .Add) (.int (a : Int)) (.int (b : Int)) (.int ((a + b : Nat) : Int)) σ := by
 have := dM (K := K) (hn := hn) (d := d) (σ := σ) (a := (a : Int)) (b := (b : Int));rwa [show (a : Int) + (b : Int) = ((a + b : Nat) : Int) by rfl] at this
theorem bG {a b : Nat} : P2 K hn d σ (inplaceOp .Add) (.int (a : Int)) (.int (b : Int)) (.int ((a + b : Nat) : Int)) σ := by
 have := jo (K := K) (hn := hn) (d := d) (σ := σ) (a := (a : Int)) (b := (b : Int));rwa [show (a : Int) + (b : Int) = ((a + b : Nat) : Int) by rfl] at this
theorem pW (H : Wld K.toKB) {n : Nat} (h : n ≤ 55295) : PC K hn (d + 1) σ (.ref 231) [.int n] [] (.bool true) σ := by
 refine H.def (t := ja) (params := ["codepoint"]) (rest := []) (dflt := []) (xB (i := 10) rfl) (eM fun _ _ _ _ _ => rfl) rfl (by decide +kernel) (aL rfl) rfl rfl rfl fun L H => ?_
 show TSt _ _ _ _ _ _ (execs (ax (stm 34)) _) _;refine a9 (bm (oJ (EvE.eq (n4 b7 (a7 0 rfl rfl) b7 (by lia)) (congrArg Val.bool (by rw [yh]; exact Int.ofNat_le.mpr h)))) ⟨rfl, rfl⟩)
theorem vy (H : Wld K.toKB) {src : Str} {i n : Nat} (hsz : src.length < 2 ^ 20)
  (h : (sg src i (i + 4) = ⟨#[48,48,54,49]⟩ ∧ n = 97) ∨ (sg src i (i + 4) = ⟨#[48,48,50,69]⟩ ∧ n = 46)) :
  PC K true (d + 2) σ (.ref 203) [.str src, .int i, .int 4] [] (.tup [.int ((i + 4 : Nat) : Int), .str ⟨#[n]⟩]) σ := by
 have hlen : (sg src i (i + 4)).length = 4 := by rcases h with ⟨h, _⟩ | ⟨h, _⟩ <;> rw [h] <;> rfl
 have hasc : (sg src i (i + 4)).cps.all (· < 128) = true := by rcases h with ⟨h, _⟩ | ⟨h, _⟩ <;> rw [h] <;> decide +kernel
 have hsup : ((sg src i (i + 4)).cps.toList.all fun c => fh jA ⟨#[c]⟩) = true := by rcases h with ⟨h, _⟩ | ⟨h, _⟩ <;> rw [h] <;> decide +kernel
 have hn : n ≤ 55295 := by rcases h with ⟨_, h⟩ | ⟨_, h⟩ <;> lia
 refine H.def (t := qW) (params := ["src", "pos", "hex_len"]) (rest := ["hex_str", "hex_int"]) (dflt := []) (xB (i := 7) rfl) (oP fun _ _ _ _ _ _ _ => rfl) rfl (by decide +kernel) (aL rfl) rfl rfl rfl fun L H => ?_
 show TSt _ _ _ _ _ _ (execs (ax (stm 30)) _) _;refine a9 (ab 3 (b6 (a7 0 rfl rfl) (ap (a7 1 rfl rfl)) (ap (aS (a7 1 rfl rfl) (a7 2 rfl rfl) (dF (b := 4)))) bh (io (yU hsz))) rfl (.inl rfl) ?_);refine a9 (be (b := false) (i5 (i6 (EvB.eq (av (aj (kl := []) (H.built rfl rfl) (.blt "len") (aa (a7 3 rfl rfl) ac) ao (kY (yT (pV ..) (yT (yU ‹_›) (by decide))))) (a7 2 rfl rfl) jm) (by rw [hlen]; rfl))
  (i6 (EvB.eq (l6 (dp (bZ (H.name (v := .glob (.ref 91)) rfl rfl) (rM H.hex bV gH) (.blt _) (aa (a7 3 rfl rfl) ac) (lW H.hex hasc)) cu)) (by rw [hsup]; rfl)) jL))) nft fun _ => ak ?_)
 refine a9 (cp (i := 1) rfl rfl (a7 2 rfl rfl) (bG (b := 4)) (.inl rfl) ?_);refine a9 (ab 4 (aj (kl := []) (H.built rfl rfl) (.typ "int") (aa (a7 3 rfl rfl) (aa b7 ac)) ao (c_hex (n := (n : Int)) (h.elim (fun z => .inl ⟨z.1, by have := z.2; exact congrArg (Nat.cast (R := Int)) z.2⟩) (fun z => .inr ⟨z.1, by have := z.2; exact congrArg (Nat.cast (R := Int)) z.2⟩)))) rfl (.inl rfl) ?_);refine a9 (be (b := false) (l6 (dp (aj (kl := []) (H.name (v := .glob (.ref 231)) rfl rfl) (H.callee (t := ja) (xB (i := 10) rfl)) (aa (a7 4 rfl rfl) ac) ao (pW H hn)) cu)) nft fun _ => ak ?_);exact a9 (bm (bD (aa (a7 1 rfl rfl) (aa (aj (kl := []) (H.built rfl rfl) (.blt "chr") (aa (a7 4 rfl rfl) ac) ao (c_chr (xV ‹_› (by decide)))) ac)) (by show 2 ≤ sizeLine; decide)) ⟨rfl, rfl⟩)
theorem lY (H : Wld K.toKB) : bL K.toKB gb 2 [] ["src", "pos", "multiline"] [.bool false] :=
 ⟨[.bool false], fun _ _ => by unfold RL; exact ⟨_, [], rfl, az _, by unfold RL; rfl⟩, fun doc pm ct an s Vs Ws hb h1 h2 => by
  obtain ⟨a, b, rfl⟩ := oj h1;intro M A E Q hq;obtain ⟨m, hm, hv⟩ := H.mul;obtain rfl : Ws = [] := x6 h2;unfold bindArgs;refine za (z9 (a := ([(Str.ofString "src", a), (Str.ofString "pos", b)], [])) rfl ?_);refine za (z9 (a := none) rfl ?_);refine wpAny_ite_false rfl ?_;refine wpAny_ite_false rfl ?_;refine za (z9 (a := [(Str.ofString "src", a), (Str.ofString "pos", b)]) rfl ?_);refine za (m := forIn [Str.ofString "multiline"] _ _) ?_;rw [List.forIn_cons];refine za ?_;refine wpAny_ite_true rfl ?_;refine za (m := nsGet 182 (Str.ofString "multiline")) (wpAny_nsGet (hm.keeps hb) ?_);rw [hv];refine zb ?_;refine zb ?_;exact z9 rfl hq⟩
theorem qw (H : Wld K.toKB) {src : Str} {i n : Nat} (hsz : src.length < 2 ^ 20) (h0 : sg src i (i + 2) = ⟨#[92, 117]⟩)
  (h : (sg src (i + 2) (i + 2 + 4) = ⟨#[48,48,54,49]⟩ ∧ n = 97) ∨ (sg src (i + 2) (i + 2 + 4) = ⟨#[48,48,50,69]⟩ ∧ n = 46)) :
  PC K true (d + 3) σ (.ref 189) [.str src, .int i] [] (.tup [.int ((i + 2 + 4 : Nat) : Int), .str ⟨#[n]⟩]) σ := by
 refine H.def (t := gb) (params := ["src", "pos", "multiline"]) (rest := ["escape_id", "char"]) (dflt := [.bool false]) (xB (i := 5) rfl) (lY H) rfl (by decide +kernel) (aL rfl) rfl rfl rfl fun L H => ?_
 show TSt _ _ _ _ _ _ (execs (ax (stm 28)) _) _;refine a9 (ab 3 (b6 (a7 0 rfl rfl) (ap (a7 1 rfl rfl)) (ap (aS (a7 1 rfl rfl) (aR (n := 2)) dF)) bh (io (yU hsz))) rfl (.inl rfl) ?_);refine a9 (cp (i := 1) rfl rfl (aR (n := 2)) bG (.inl rfl) ?_);refine a9 (be (b := false) (i5 (eg (dp (a7 2 rfl rfl) cu))) nft fun _ => ak ?_);refine a9 (be (b := true) (EvB.eq (av (a7 3 rfl rfl) bi cj) (by rw [h0]; decide +kernel)) (fun _ => ?_) ntf);exact a9 (bm (aj (kl := []) (H.name (v := .glob (.ref 203)) rfl rfl) (H.callee (t := qW) (xB (i := 7) rfl)) (aa (a7 0 rfl rfl) (aa (a7 1 rfl rfl) (aa b7 ac))) ao (vy H hsz h)) ⟨rfl, rfl⟩)
theorem jV : typeLookup (.type "tuple") (dunderI "add") = pure none := by rw [typeLookup_type, builtinLookup_eq_fast]; kernel_rfl
theorem jn {x : Str} (h : (x ++ y).length ≤ sizeLine) : P2 K hn d σ (inplaceOp .Add) (.str x) (.str y) (.str (x ++ y)) σ := fun A φ s V1 V2 R G r1 r2 Q E hQ => by
 unfold RV at r1 r2; obtain ⟨t, rfl⟩ := r1; obtain ⟨u, rfl⟩ := r2;refine P.iadd_str ?_;have e0 : ∀ z : Str, (z.length == 0) = true → z.cps = #[] := fun z hz => Array.eq_empty_of_size_eq_zero (by have q : z.length = 0 := (by simpa using hz); exact q)
 by_cases h1 : (x.length == 0) = true
 ·rw [if_pos h1];have : x ++ y = y := by
   show (⟨x.cps ++ y.cps⟩ : Str) = y;rw [e0 x h1]; simp
  rw [this] at hQ;exact hQ φ s _ (Ext.refl ..) G (d9 y u)
 rw [if_neg h1];by_cases h2 : (y.length == 0) = true
 ·rw [if_pos h2];have : x ++ y = x := by
   show (⟨x.cps ++ y.cps⟩ : Str) = x;rw [e0 y h2]; simp
  rw [this] at hQ;exact hQ φ s _ (Ext.refl ..) G (d9 x t)
 rw [if_neg h2];exact ⟨h, hQ φ _ _ (Ext.toks ..) (G.toks _) (d9 ..)⟩
theorem nU (hsz : l.length + l'.length ≤ sizeLine) : P2 K hn d σ (inplaceOp .Add) (.tup l) (.tup l') (.tup (l ++ l')) σ := fun A φ s V1 V2 R G r1 r2 Q E hQ => by
 obtain ⟨a, xs, rfl, x1, q1⟩ := r1.tup;obtain ⟨b, ys, rfl, x2, q2⟩ := r2.tup;obtain ⟨⟨cls, dd, data, sl⟩, ho, hc, n, hd⟩ := id x1;obtain ⟨⟨cls2, dd2, data2, sl2⟩, ho2, hc2, n2, hd2⟩ := id x2;simp only at hc hd hc2 hd2;subst hc hd hc2 hd2;refine wpAny_inplaceOp_concat ⟨_, ho, rfl⟩ ⟨_, ho2, rfl⟩ jV noFill_tuple_add seq_tuple_add ?_;by_cases h1 : xs.isEmpty = true
 ·refine call_meets PySem.F.slot_tuple_add ⟨_, ho, rfl⟩ PySem.F.entry_tuple_add (PySem.F.args_tuple_add_2 _ _) (tuple_addW0 a b xs ys n n2 dd dd2 sl sl2 h1) ⟨ho, ho2, ?_⟩;rw [q1.nil_of h1, List.nil_append] at hQ;exact hQ φ s _ (Ext.refl ..) G (RV.of_tup x2 q2)
 by_cases h2 : ys.isEmpty = true
 ·refine call_meets PySem.F.slot_tuple_add ⟨_, ho, rfl⟩ PySem.F.entry_tuple_add (PySem.F.args_tuple_add_2 _ _) (tuple_addW1 a b xs ys n n2 dd dd2 sl sl2 h1 h2) ⟨ho, ho2, ?_⟩;rw [q2.nil_of h2, yG] at hQ;exact hQ φ s _ (Ext.refl ..) G (RV.of_tup x1 q1)
 refine call_meets PySem.F.slot_tuple_add ⟨_, ho, rfl⟩ PySem.F.entry_tuple_add (PySem.F.args_tuple_add_2 _ _) (tuple_addW2 a b xs ys n n2 dd dd2 sl sl2 h1 h2 (by have e1 := q1.length; have e2 := q2.length; rw [xK] at e1 e2; exact yT (yN (yV e1) (yV e2)) hsz)) ⟨ho, ho2, ?_⟩;refine hQ φ _ _ (Ext.push ..) (G.push _) (RV.of_tup (IsTup.new ..) ?_);rw [xO];exact RL.append (q1.ext G (Ext.push ..)) (q2.ext G (Ext.push ..))
inductive BS (src : Str) : Nat → Nat → List Nat → Prop
 | close {k : Nat} : src.cps[k]? = some 34 → BS src k k []
 | plain {k c e : Nat} {l : List Nat} : src.cps[k]? = some c → c ≠ 34 → c ≠ 92 → 32 ≤ c → c ≠ 127 → BS src (k + 1) e l → BS src k e (c :: l)
 | esc {k n e : Nat} {l : List Nat} : src.cps[k]? = some 92 → sg src k (k + 2) = ⟨#[92, 117]⟩ → ((sg src (k + 2) (k + 2 + 4) = ⟨#[48,48,54,49]⟩ ∧ n = 97) ∨ (sg src (k + 2) (k + 2 + 4) = ⟨#[48,48,50,69]⟩ ∧ n = 46)) →
   BS src (k + 6) e l → BS src k e (n :: l)
theorem BS.le {e : Nat} {l : List Nat} (h : BS src k e l) : k ≤ e := by
 induction h <;> lia
theorem getElem?_lt {c : Nat} (h : src.cps[k]? = some c) : k < src.length := (Array.getElem?_eq_some_iff.mp h).1
theorem lh (x : Str) (a : Nat) : sg x a a = ⟨#[]⟩ := by unfold sg; simp
theorem oZ {x : Str} {a b c : Nat} (hab : a ≤ b) (hc : x.cps[b]? = some c) : (sg x a (b + 1)).cps.toList = (sg x a b).cps.toList ++ [c] := by
 unfold sg;simp only;have e : b + 1 - a = (b - a) + 1 := by exact sE hab
 rw [e, List.take_add_one, List.getElem?_drop, xu, show a + (b - a) = b by exact sG hab, hc];rfl
theorem ny {c : Nat} (h : c ≠ k) : ((⟨#[c]⟩ : Str).cps.toList == (⟨#[k]⟩ : Str).cps.toList) = false := by
 simp [h]
theorem nc : bL K.toKB iR 2 ["multiline"] ["src", "pos", "multiline"] [] :=
 ⟨[], fun _ _ => by unfold RL; rfl, fun doc pm ct an s Vs Ws hb h1 h2 => by
  obtain ⟨a, b, rfl⟩ := oj h1;obtain ⟨c, rfl⟩ := vr h2;exact .of_eq rfl⟩
inductive baJ (σ : a8) (src : Str) (e : Nat) (T : List Nat) : Nat → ai → a8 → Prop
 | mk (k st : Nat) (r : Str) (l : List Nat) (x y : Option Val) (h1 : st ≤ k) (h2 : BS src k e l) (h3 : r.cps.toList ++ (sg src st k).cps.toList ++ l = T) : baJ σ src e T (e + 1 - k) [some (.str src), some (.int k), some (.bool false), some (.glob (.ref 72)), some (.glob (.ref 189)), some (.str r), some (.int st), x, y] σ
theorem tB (H : Wld K.toKB) {src : Str} {i e : Nat} {T : List Nat} (hsz : src.length < 2 ^ 20) (hT : T.length < 2 ^ 20) (hB : BS src i e T) :
  PC K true (d + 4) σ (.ref 217) [.str src, .int i] [("multiline", .bool false)] (.tup [.int ((e + 1 : Nat) : Int), .str ⟨T.toArray⟩]) σ := by
 obtain ⟨IL, hIL, hill⟩ := H.ill;refine H.def (t := iR) (params := ["src", "pos", "multiline"]) (rest := ["error_on", "parse_escapes", "result", "start_pos", "char", "parsed_escape"]) (dflt := []) (xB (i := 9) rfl) nc rfl (by decide +kernel) (aL rfl) rfl rfl rfl fun L H => ?_
 show TSt _ _ _ _ _ _ (execs (ax (stm 32)) _) _;refine a9 (be (b := false) (dp (a7 2 rfl rfl) cu) nft fun _ => a9 (ab 3 (H.name (v := .glob (.ref 72)) rfl rfl) rfl (.inl rfl) (a9 (ab 4 (H.name (v := .glob (.ref 189)) rfl rfl) rfl (.inl rfl) (ak ?_)))));refine a9 (ab 5 bi rfl (.inl rfl) ?_);refine a9 (ab 6 (a7 1 rfl rfl) rfl (.inl rfl) ?_);refine a9 (dy (baJ σ src e T) ?_ (e + 1 - i) ⟨i, i, ⟨#[]⟩, T, none, none, z6 _, hB, by rw [lh]; rfl⟩);rintro n v' σ' ⟨k, st, r, l, x, y, hst, hbs, hl⟩;refine ⟨true, σ, dp h8 cu, ntf, fun _ => ?_⟩;have hle := hbs.le;have hrl : r.cps.toList.length + (sg src st k).cps.toList.length ≤ T.length := by rw [← hl]; simp only [xR]; exact yp _ _
 have hsl : (2 : Nat) ^ 20 ≤ sizeLine := by decide
 have hcat : (r ++ sg src st k).length ≤ sizeLine := by
  have e1 : (r ++ sg src st k).length = r.cps.toList.length + (sg src st k).cps.toList.length := by show (r.cps ++ (sg src st k).cps).size = _; simp
  exact yT (yV e1) (lG hrl hT hsl rfl)
 have hcl : ∀ z : Str, (r ++ z).cps.toList = r.cps.toList ++ z.cps.toList := fun z => by show (r.cps ++ z.cps).toList = _; simp
 cases hbs with
 | close hc =>
  have hk := getElem?_lt hc;refine a9 (d8 (a9 (ab 7 (aV (a7 0 rfl rfl) (a7 1 rfl rfl) bh (bz hc (yW (yW ‹_› ‹_›) (by decide)))) rfl (.inl rfl) (ak ?_))));refine a9 (be (b := true) (EvB.eq (av (a7 7 rfl rfl) bi cj) (by decide +kernel)) (fun _ => ?_) ntf);refine a9 (be (b := true) (l6 (b := false) (dp (a7 2 rfl rfl) cu)) (fun _ => ?_) ntf);refine a9 (bm (bD (aa (aS (a7 1 rfl rfl) (aR (n := 1)) dF) (aa (aS (a7 5 rfl rfl) (b6 (a7 0 rfl rfl) (ap (a7 6 rfl rfl)) (ap (a7 1 rfl rfl)) bh (io (yU hsz))) (eV hcat)) ac)) (by show 2 ≤ sizeLine; decide)) ⟨rfl, ?_⟩);have : r ++ sg src st e = ⟨T.toArray⟩ := by
   have e9 : (r ++ sg src st e).cps.toList = T := by rw [hcl, ← hl, yG]
   show (⟨(r ++ sg src st e).cps⟩ : Str) = _;rw [← e9]
  rw [this]
 | @plain _ c _ l hc h34 h92 h32 h127 hb =>
  have hk := getElem?_lt hc;have h1 := hb.le;refine a9 (d8 (a9 (ab 7 (aV (a7 0 rfl rfl) (a7 1 rfl rfl) bh (bz hc (lC hk hsz rfl))) rfl (.inl rfl) (ak ?_))));refine a9 (be (b := false) (EvB.eq (av (a7 7 rfl rfl) bi cj) (ny h34)) nft fun _ => ak ?_);refine a9 (be (b := false) (EvB.eq (av (a7 7 rfl rfl) bi cj) (ny h92)) nft fun _ => ak ?_);refine a9 (be (b := false) (EvB.eq (jK (a7 7 rfl rfl) (a7 3 rfl rfl) (dL hIL)) (by
   cases hI : IL ⟨#[c]⟩ with
   | false => rfl
   | true =>
    obtain ⟨c', e1, e2⟩ := hill _ hI;injection e1 with e1
    have e1 : c = c' := by simpa using e1
    lia)) nft fun _ => ak ?_)
  refine a9 (cp (i := 1) rfl rfl (aR (n := 1)) bG (.inl rfl) (ak ⟨e + 1 - (k + 1), by exact xI _ _ (yl h1), k + 1, st, r, l, _, _, by exact yk ‹_›, hb, ?_⟩));rw [oZ hst hc, ← hl]; simp
 | @esc _ n _ l hc he hx hb =>
  have hk := getElem?_lt hc;have h1 := hb.le;have hcat2 : ((r ++ sg src st k) ++ (⟨#[n]⟩ : Str)).length ≤ sizeLine := by
   have e1 : ((r ++ sg src st k) ++ (⟨#[n]⟩ : Str)).length = r.cps.toList.length + (sg src st k).cps.toList.length + 1 := by show ((r.cps ++ (sg src st k).cps) ++ #[n]).size = _; simp; exact Nat.add_zero _
   exact yT (yV e1) (yT (xV hrl hT) hsl)
  refine a9 (d8 (a9 (ab 7 (aV (a7 0 rfl rfl) (a7 1 rfl rfl) bh (bz hc (by lia))) rfl (.inl rfl) (ak ?_))));refine a9 (be (b := false) (EvB.eq (av (a7 7 rfl rfl) bi cj) (by decide +kernel)) nft fun _ => ak ?_);refine a9 (be (b := true) (EvB.eq (av (a7 7 rfl rfl) bi cj) (by decide +kernel)) (fun _ => ?_) ntf);refine a9 (cp (i := 5) rfl rfl (b6 (a7 0 rfl rfl) (ap (a7 6 rfl rfl)) (ap (a7 1 rfl rfl)) bh (io (yU hsz))) (jn hcat) (.inl rfl) ?_);refine a9 (eU (i := 1) (j := 8) (aj (kl := []) (a7 4 rfl rfl) (H.callee (t := gb) (xB (i := 5) rfl)) (aa (a7 0 rfl rfl) (aa (a7 1 rfl rfl) ac)) ao (qw H hsz he hx)) rfl rfl (.inl rfl) (.inl rfl) ?_);refine a9 (cp (i := 5) rfl rfl (a7 8 rfl rfl) (jn hcat2) (.inl rfl) ?_);refine a9 (ab 6 (a7 1 rfl rfl) rfl (.inl rfl) ?_);refine a9 (lj ⟨e + 1 - (k + 6), by exact sA (Nat.lt_add_of_pos_right (Nat.zero_lt_succ 5)) (yk h1), k + 6, k + 6, (r ++ sg src st k) ++ ⟨#[n]⟩, l, _, _, z6 _, hb, ?_⟩);rw [lh];show ((r.cps ++ (sg src st k).cps) ++ #[n]).toList ++ [] ++ l = T;rw [← hl]; simp
theorem nV (H : Wld K.toKB) {src : Str} {i e : Nat} {T : List Nat} (hsz : src.length < 2 ^ 20) (hT : T.length < 2 ^ 20) (hB : BS src (i + 1) e T) :
  PC K true (d + 5) σ (.ref 181) [.str src, .int i] [] (.tup [.int ((e + 1 : Nat) : Int), .str ⟨T.toArray⟩]) σ := by
 refine H.def (t := fC) (params := ["src", "pos"]) (rest := []) (dflt := []) (xB (i := 4) rfl) (cD fun _ _ _ _ _ _ => rfl) rfl (by decide +kernel) (aL rfl) rfl rfl rfl fun L H => ?_
 show TSt _ _ _ _ _ _ (execs (ax (stm 27)) _) _;refine a9 (cp (i := 1) rfl rfl (aR (n := 1)) bG (.inl rfl) ?_);exact a9 (bm (aj (kl := [("multiline", .bool false)]) (H.name (v := .glob (.ref 217)) rfl rfl) (H.callee (t := iR) (xB (i := 9) rfl)) (aa (a7 0 rfl rfl) (aa (a7 1 rfl rfl) ac)) (oq h8 ao) (tB H hsz hT hB)) ⟨rfl, rfl⟩)
theorem na : bL K.toKB cT 3 ["error_on", "error_on_eof"] ["src", "pos", "expect", "error_on", "error_on_eof"] [] :=
 ⟨[], fun _ _ => by unfold RL; rfl, fun doc pm ct an s Vs Ws hb h1 h2 => by
  obtain ⟨a, b, c, rfl⟩ := vq h1;obtain ⟨x, y, rfl⟩ := oj h2;exact .of_eq rfl⟩
theorem qK (H : Wld K.toKB) {src : Str} {i j c a : Nat} {S : Str → Bool} (hS : cQ K.toKB a S) (hsz : src.length < 2 ^ 20) (hij : i ≤ j) (hj : src.cps.toList[j]? = some c) (hno : ∀ k, i ≤ k → k < j → src.cps.toList[k]? ≠ some c)
  (hasc : (sg src i j).cps.all (· < 128) = true) (hok : ((sg src i j).cps.toList.all fun c => !S ⟨#[c]⟩) = true) {b : Bool} :
  PC K true (d + 1) σ (.ref 160) [.str src, .int i, .str ⟨#[c]⟩] [("error_on", .glob (.ref a)), ("error_on_eof", .bool b)] (.int j) σ := by
 refine H.def (t := cT) (params := ["src", "pos", "expect", "error_on", "error_on_eof"]) (rest := ["new_pos"]) (dflt := []) (xB (i := 1) rfl) na rfl (by decide +kernel) (aL rfl) rfl rfl rfl fun L H => ?_
 show TSt _ _ _ _ _ _ (execs (ax (stm 24)) _) _;refine a9 (d8 (a9 (ab 5 (bZ (a7 0 rfl rfl) (uT PySem.F.slot_str_index PySem.F.type_str_index) (.blt _) (aa (a7 2 rfl rfl) (aa (a7 1 rfl rfl) ac)) (uH hij hj hno)) rfl (.inl rfl) (ak ?_))));refine a9 (be (b := false) (EvB.eq (l6 (dp (bZ (a7 3 rfl rfl) (rM hS bW gJ) (.blt _) (aa (b6 (a7 0 rfl rfl) (ap (a7 1 rfl rfl)) (ap (a7 5 rfl rfl)) bh (io (yU hsz))) ac) (lX hS hasc)) cu)) (by rw [hok]; rfl)) nft fun _ => ak ?_);exact a9 (bm (a7 5 rfl rfl) ⟨rfl, rfl⟩)
theorem og (H : Wld K.toKB) {src : Str} {i j : Nat} (hsz : src.length < 2 ^ 20) (hij : i + 1 ≤ j) (hj : src.cps.toList[j]? = some 39) (hno : ∀ k, i + 1 ≤ k → k < j → src.cps.toList[k]? ≠ some 39)
  (hall : ∀ c ∈ (sg src (i + 1) j).cps.toList, 32 ≤ c ∧ c < 127) :
  PC K true (d + 2) σ (.ref 210) [.str src, .int i] [] (.tup [.int ((j + 1 : Nat) : Int), .str (sg src (i + 1) j)]) σ := by
 obtain ⟨IL, hIL, hill⟩ := H.ill;have hasc : (sg src (i + 1) j).cps.all (· < 128) = true := by
  rw [Array.all_eq_true];intro k hk;have := hall (sg src (i + 1) j).cps[k] (by rw [← Array.getElem_toList]; exact yw _);exact decide_eq_true (yl this.2)
 have hok : ((sg src (i + 1) j).cps.toList.all fun c => !IL ⟨#[c]⟩) = true := by
  rw [List.all_eq_true];intro c hc;have h1 := hall c hc;cases hI : IL ⟨#[c]⟩ with
  | false => rfl
  | true =>
   obtain ⟨c', e1, e2⟩ := hill _ hI;injection e1 with e1
   have e1 : c = c' := by simpa using e1
   lia
 refine H.def (t := gK) (params := ["src", "pos"]) (rest := ["start_pos"]) (dflt := []) (xB (i := 8) rfl) (cD fun _ _ _ _ _ _ => rfl) rfl (by decide +kernel) (aL rfl) rfl rfl rfl fun L H => ?_
 show TSt _ _ _ _ _ _ (execs (ax (stm 31)) _) _;refine a9 (cp (i := 1) rfl rfl (aR (n := 1)) bG (.inl rfl) ?_);refine a9 (ab 2 (a7 1 rfl rfl) rfl (.inl rfl) ?_);refine a9 (ab 1 (aj (kl := [("error_on", .glob (.ref 72)), ("error_on_eof", .bool true)]) (H.name (v := .glob (.ref 160)) rfl rfl) (H.callee (t := cT) (xB (i := 1) rfl)) (aa (a7 0 rfl rfl) (aa (a7 1 rfl rfl) (aa bi ac))) (oq (H.name (v := .glob (.ref 72)) rfl rfl) (oq h8 ao)) (qK H (c := 39) hIL hsz hij hj hno hasc hok)) rfl (.inl rfl) ?_);exact a9 (bm (bD (aa (aS (a7 1 rfl rfl) (aR (n := 1)) dF) (aa (b6 (a7 0 rfl rfl) (ap (a7 2 rfl rfl)) (ap (a7 1 rfl rfl)) bh (io (yU hsz))) ac)) (by show 2 ≤ sizeLine; decide)) ⟨rfl, rfl⟩)
inductive KP (src : Str) : Nat → Nat → Str → Prop
 | bare {i e : Nat} : i < e → e < src.cps.size → (∀ k c, i ≤ k → k < e → src.cps[k]? = some c → fh ef ⟨#[c]⟩ = true) → (∀ c, src.cps[e]? = some c → fh ef ⟨#[c]⟩ = false) → KP src i e (sg src i e)
 | lit {i j : Nat} : src.cps[i]? = some 39 → i + 1 ≤ j → src.cps.toList[j]? = some 39 → (∀ k, i + 1 ≤ k → k < j → src.cps.toList[k]? ≠ some 39) → (∀ c ∈ (sg src (i + 1) j).cps.toList, 32 ≤ c ∧ c < 127) → KP src i (j + 1) (sg src (i + 1) j)
 | basic {i e : Nat} {T : List Nat} : src.cps[i]? = some 34 → T.length < 2 ^ 20 → BS src (i + 1) e T → KP src i (e + 1) ⟨T.toArray⟩
structure WS (src : Str) (p q : Nat) : Prop where
 le : p ≤ q
 lt : q < src.cps.size
 run : ∀ k c, p ≤ k → k < q → src.cps[k]? = some c → fh [32, 9] ⟨#[c]⟩ = true
 stop : ∀ c, src.cps[q]? = some c → fh [32, 9] ⟨#[c]⟩ = false
inductive KR (src : Str) : Nat → Nat → List Str → Prop
 | stop {p c : Nat} : src.cps[p]? = some c → c ≠ 46 → KR src p p []
 | dot {p q e1 r e : Nat} {n : Str} {l : List Str} : src.cps[p]? = some 46 → WS src (p + 1) q → KP src q e1 n → WS src e1 r → KR src r e l → KR src p e (n :: l)
theorem BS.lt {e : Nat} {l : List Nat} (h : BS src k e l) : e < src.length := by
 induction h with
 | close h => exact getElem?_lt h
 | plain _ _ _ _ _ _ ih => exact ih
 | esc _ _ _ _ ih => exact ih
theorem KP.le {e : Nat} {n : Str} (h : KP src i e n) : i < e := by
 cases h with
 | bare h => exact h
 | lit _ h => exact yl ‹_›
 | basic _ _ h => have := h.le; exact yl ‹_›
theorem KR.le {p e : Nat} {l : List Str} (h : KR src p e l) : p ≤ e := by
 induction h with
 | stop => exact z6 _
 | dot _ h1 h2 h3 _ ih => have := h1.le; have := h2.le; have := h3.le; lia
theorem pi (H : Wld K.toKB) {src : Str} {i e : Nat} {n : Str} (hsz : src.length < 2 ^ 20) (hP : KP src i e n) :
  PC K true (d + 6) σ (.ref 174) [.str src, .int i] [] (.tup [.int (e : Int), .str n]) σ := by
 refine H.def (t := bN) (params := ["src", "pos"]) (rest := ["char", "start_pos"]) (dflt := []) (xB (i := 3) rfl) (cD fun _ _ _ _ _ _ => rfl) rfl (by decide +kernel) (aL rfl) rfl rfl rfl fun L H => ?_
 show TSt _ _ _ _ _ _ (execs (ax (stm 26)) _) _;have hsz' : src.cps.size < 2 ^ 20 := hsz;cases hP with
 | bare hie he hin hout =>
  have hk : i < src.cps.size := by exact yW ‹_› ‹_›
  have hc : src.cps[i]? = some src.cps[i] := xe hk;refine a9 (d8 (a9 (ab 2 (aV (a7 0 rfl rfl) (a7 1 rfl rfl) bh (bz hc (yW (yW ‹_› ‹_›) (by decide)))) rfl (.inl rfl) (ak ?_))));refine a9 (be (b := true) (EvB.eq (jK (a7 2 rfl rfl) (H.name (v := .glob (.ref 87)) rfl rfl) (dL H.bare)) (hin i _ (z6 _) hie hc)) (fun _ => ?_) ntf);refine a9 (ab 3 (a7 1 rfl rfl) rfl (.inl rfl) ?_);refine a9 (ab 1 (aj (kl := []) (H.name (v := .glob (.ref 153)) rfl rfl) (H.callee (t := bM) (xB (i := 0) rfl)) (aa (a7 0 rfl rfl) (aa (a7 1 rfl rfl) (aa (H.name (v := .glob (.ref 87)) rfl rfl) ac))) ao (fx H H.bare (yU hie) he hsz hin hout)) rfl (.inl rfl) ?_);exact a9 (bm (bD (aa (a7 1 rfl rfl) (aa (b6 (a7 0 rfl rfl) (ap (a7 3 rfl rfl)) (ap (a7 1 rfl rfl)) bh (io (yU hsz))) ac)) (by show 2 ≤ sizeLine; decide)) ⟨rfl, rfl⟩)
 | @lit j hc hij hj hno hall =>
  have hk := getElem?_lt hc;refine a9 (d8 (a9 (ab 2 (aV (a7 0 rfl rfl) (a7 1 rfl rfl) bh (bz hc (yW (yW ‹_› ‹_›) (by decide)))) rfl (.inl rfl) (ak ?_))));refine a9 (be (b := false) (EvB.eq (jK (a7 2 rfl rfl) (H.name (v := .glob (.ref 87)) rfl rfl) (dL H.bare)) (by decide +kernel)) nft fun _ => ak ?_);refine a9 (be (b := true) (EvB.eq (av (a7 2 rfl rfl) bi cj) (by decide +kernel)) (fun _ => ?_) ntf);exact a9 (bm (aj (kl := []) (H.name (v := .glob (.ref 210)) rfl rfl) (H.callee (t := gK) (xB (i := 8) rfl)) (aa (a7 0 rfl rfl) (aa (a7 1 rfl rfl) ac)) ao (og H hsz hij hj hno hall)) ⟨rfl, rfl⟩)
 | @basic e T hc hT hB =>
  have hk := getElem?_lt hc;refine a9 (d8 (a9 (ab 2 (aV (a7 0 rfl rfl) (a7 1 rfl rfl) bh (bz hc (lC hk hsz rfl))) rfl (.inl rfl) (ak ?_))));refine a9 (be (b := false) (EvB.eq (jK (a7 2 rfl rfl) (H.name (v := .glob (.ref 87)) rfl rfl) (dL H.bare)) (by decide +kernel)) nft fun _ => ak ?_);refine a9 (be (b := false) (EvB.eq (av (a7 2 rfl rfl) bi cj) (by decide +kernel)) nft fun _ => ak ?_);refine a9 (be (b := true) (EvB.eq (av (a7 2 rfl rfl) bi cj) (by decide +kernel)) (fun _ => ?_) ntf);exact a9 (bm (aj (kl := []) (H.name (v := .glob (.ref 181)) rfl rfl) (H.callee (t := fC) (xB (i := 4) rfl)) (aa (a7 0 rfl rfl) (aa (a7 1 rfl rfl) ac)) ao (nV H hsz hT hB)) ⟨rfl, rfl⟩)
theorem qH (H : Wld K.toKB) {src : Str} {p q : Nat} (hsz : src.length < 2 ^ 20) (h : WS src p q) : PC K hn (d + 1) σ (.ref 153) [.str src, .int p, .glob (.ref 78)] [] (.int q) σ :=
 fx H H.ws h.le h.lt hsz h.run h.stop
inductive keJ (σ : a8) (src : Str) (e : Nat) (n : Str) (l : List Str) (m : Nat) (v' : ai) (σ' : a8) : Prop
 | mk (k : Nat) (done rest : List Str) (x y : Option Val) (q0 : m = e + 1 - k) (q1 : KR src k e rest) (q2 : done ++ rest = n :: l) (q3 : v' = [some (.str src), some (.int k), x, some (kv done), y]) (q4 : σ' = σ)
theorem vv (H : Wld K.toKB) {src : Str} {i e0 p e : Nat} {n : Str} {l : List Str} (hsz : src.length < 2 ^ 20) (h0 : KP src i e0 n) (h1 : WS src e0 p) (hK : KR src p e l) (hl : l.length < 900) :
  PC K true (d + 7) σ (.ref 167) [.str src, .int i] [] (.tup [.int (e : Int), kv (n :: l)]) σ := by
 refine H.def (t := eu) (params := ["src", "pos"]) (rest := ["key_part", "key", "char"]) (dflt := []) (xB (i := 2) rfl) (cD fun _ _ _ _ _ _ => rfl) rfl (by decide +kernel) (aL rfl) rfl rfl rfl fun L H => ?_
 show TSt _ _ _ _ _ _ (execs (ax (stm 25)) _) _;have hsz' : src.cps.size < 2 ^ 20 := hsz;refine a9 (eU (i := 1) (j := 2) (aj (kl := []) (H.name (v := .glob (.ref 174)) rfl rfl) (H.callee (t := bN) (xB (i := 3) rfl)) (aa (a7 0 rfl rfl) (aa (a7 1 rfl rfl) ac)) ao (pi H hsz h0)) rfl rfl (.inl rfl) (.inl rfl) ?_);refine a9 (ab 3 (bD (aa (a7 2 rfl rfl) ac) (by show 1 ≤ sizeLine; decide)) rfl (.inl rfl) ?_);refine a9 (ab 1 (aj (kl := []) (H.name (v := .glob (.ref 153)) rfl rfl) (H.callee (t := bM) (xB (i := 0) rfl)) (aa (a7 0 rfl rfl) (aa (a7 1 rfl rfl) (aa (H.name (v := .glob (.ref 78)) rfl rfl) ac))) ao (qH H hsz h1)) rfl (.inl rfl) ?_);refine a9 (dy (keJ σ src e n l) ?_ (e + 1 - p) ⟨p, [n], l, _, _, rfl, hK, rfl, rfl, rfl⟩);rintro m v' σ' ⟨k, done, rest, x, y, rfl, hr, hdl, rfl, rfl⟩;refine ⟨true, σ', dp h8 cu, ntf, fun _ => ?_⟩;have hle := hr.le;cases hr with
 | @stop _ c hc h46 =>
  have hk := getElem?_lt hc;refine a9 (d8 (a9 (ab 4 (aV (a7 0 rfl rfl) (a7 1 rfl rfl) bh (bz hc (yW (yW ‹_› ‹_›) (by decide)))) rfl (.inl rfl) (ak ?_))));refine a9 (be (b := true) (EvB.eq (av (a7 4 rfl rfl) bi jl) (by show (!((⟨#[c]⟩ : Str).cps.toList == (⟨#[46]⟩ : Str).cps.toList)) = true; rw [ny h46]; rfl)) (fun _ => ?_) ntf);refine a9 (bm (bD (aa (a7 1 rfl rfl) (aa (a7 3 rfl rfl) ac)) (by show 2 ≤ sizeLine; decide)) ⟨rfl, ?_⟩);rw [yG] at hdl;rw [hdl]
 | @dot _ q e1 r _ n' l' hc w1 w2 w3 hr' =>
  have hk := getElem?_lt hc;have h1 := w1.le;have h2 := w2.le;have h3 := w3.le;have h4 := hr'.le;have hdlen : done.length + (n' :: l').length = l.length + 1 := by rw [← xR, hdl]; rfl
  rw [ym] at hdlen;refine a9 (d8 (a9 (ab 4 (aV (a7 0 rfl rfl) (a7 1 rfl rfl) bh (bz hc (lC hk hsz rfl))) rfl (.inl rfl) (ak ?_))));refine a9 (be (b := false) (EvB.eq (av (a7 4 rfl rfl) bi jl) (by decide +kernel)) nft fun _ => ak ?_);refine a9 (cp (i := 1) rfl rfl (aR (n := 1)) bG (.inl rfl) ?_);refine a9 (ab 1 (aj (kl := []) (H.name (v := .glob (.ref 153)) rfl rfl) (H.callee (t := bM) (xB (i := 0) rfl)) (aa (a7 0 rfl rfl) (aa (a7 1 rfl rfl) (aa (H.name (v := .glob (.ref 78)) rfl rfl) ac))) ao (qH H hsz w1)) rfl (.inl rfl) ?_);refine a9 (eU (i := 1) (j := 2) (aj (kl := []) (H.name (v := .glob (.ref 174)) rfl rfl) (H.callee (t := bN) (xB (i := 3) rfl)) (aa (a7 0 rfl rfl) (aa (a7 1 rfl rfl) ac)) ao (pi H hsz w2)) rfl rfl (.inl rfl) (.inl rfl) ?_);refine a9 (cp (i := 3) rfl rfl (bD (aa (a7 2 rfl rfl) ac) (by show 1 ≤ sizeLine; decide)) (nU (by rw [yA]; show done.length + 1 ≤ sizeLine; have : (2:Nat) ^ 20 ≤ sizeLine := (by decide); exact yT (yT (yt (yT (yp _ l'.length) (yV (Nat.succ.inj hdlen)))) hl) (yT (by decide) this))) (.inl rfl) ?_);refine a9 (be (b := false) (EvB.eq (av (aj (kl := []) (H.built rfl rfl) (.blt "len") (aa (a7 3 rfl rfl) ac) ao (cf (by rw [xR, yA]; show done.length + 1 ≤ _; exact yT (yT (yt (yT (yp _ l'.length) (yV (Nat.succ.inj hdlen)))) hl) (by decide)))) (H.name (v := .int 1000) rfl rfl) eE) (by
   rw [xR, yA];show decide (((done.length + 1 : Nat) : Int) > 1000) = false;rw [decide_eq_false_iff_not]; exact Int.not_lt.mpr (Int.ofNat_le.mpr (yT (yT (yt (yT (yp _ l'.length) (yV (Nat.succ.inj hdlen)))) hl) (by decide))))) nft fun _ => ak ?_)
  refine a9 (ab 1 (aj (kl := []) (H.name (v := .glob (.ref 153)) rfl rfl) (H.callee (t := bM) (xB (i := 0) rfl)) (aa (a7 0 rfl rfl) (aa (a7 1 rfl rfl) (aa (H.name (v := .glob (.ref 78)) rfl rfl) ac))) ao (qH H hsz w3)) rfl (.inl rfl) (ak ?_));refine ⟨e + 1 - r, by exact sA (xU (yW h1 h2) h3) (yk h4), r, done ++ [n'], l', some (.str n'), some (.str ⟨#[46]⟩), rfl, hr', by rw [yf]; exact hdl, ?_, rfl⟩;show _ = [some (Val.str src), some (.int r), some (.str n'), some (kv (done ++ [n'])), some (.str ⟨#[46]⟩)]
  unfold kv;rw [yC];rfl
mutual
noncomputable def bel (n : Nat) : Val → Bool
 | .ref k => decide (k < n)
 | .tup l => bx n l
 | .nt l => bx n l
 | .none => true
 | .bool _ => true
 | .int _ => true
 | .str _ => true
 | .glob _ => true
noncomputable def bx (n : Nat) : List Val → Bool
 | [] => true
 | v :: l => bel n v && bx n l
end
noncomputable def jJ (n : Nat) : ag → Bool
 | .list l => bx n l
 | .dict l => bx n (l.map (·.2))
 | .inst k => decide (k < n)
 | .ns d => decide (d < n)
 | .ns0 => true
 | .obj => true
def am (σ : a8) : Prop := ∀ c ∈ σ, jJ σ.length c = true
mutual
theorem bel.mono {n m : Nat} (h : n ≤ m) : ∀ v : Val, bel n v = true → bel m v = true
 | .ref k, x => by unfold bel at x ⊢; have := yg x; exact decide_eq_true (xU ‹_› ‹_›)
 | .tup l, x => by unfold bel at x ⊢; exact bx.mono h l x
 | .nt l, x => by unfold bel at x ⊢; exact bx.mono h l x
 | .none, _ => by unfold bel; rfl
 | .bool _, _ => by unfold bel; rfl
 | .int _, _ => by unfold bel; rfl
 | .str _, _ => by unfold bel; rfl
 | .glob _, _ => by unfold bel; rfl
theorem bx.mono {n m : Nat} (h : n ≤ m) : ∀ l : List Val, bx n l = true → bx m l = true
 | [], _ => by unfold bx; rfl
 | v :: l, x => by
  unfold bx at x ⊢;rw [yu] at x ⊢;exact ⟨bel.mono h v x.1, bx.mono h l x.2⟩
end
theorem bu : bx n l = true ↔ ∀ v ∈ l, bel n v = true := by
 induction l with
 | nil => unfold bx; simp
 | cons v l ih => unfold bx; rw [yu, ih]; simp
theorem jJ.mono (h : n ≤ m) {c : ag} (x : jJ n c = true) : jJ m c = true := by
 cases c with
 | list l => exact bx.mono h l x
 | dict l => exact bx.mono h _ x
 | inst k => have := yg x; exact decide_eq_true (xU ‹_› ‹_›)
 | ns k => have := yg x; exact decide_eq_true (xU this h)
 | ns0 => rfl
 | obj => rfl
theorem nh (h : bx n l = true) (h' : bx n l' = true) : bx n (l ++ l') = true := by
 rw [bu] at h h' ⊢;intro v hv;rcases yd hv with q | q
 ·exact h v q
 exact h' v q
theorem m0 (n : Nat) (k : List Str) : bel n (kv k) = true := by
 unfold kv bel;rw [bu];intro v hv;obtain ⟨x, _, rfl⟩ := yK hv;unfold bel; rfl
theorem aI (n : Nat) (ks : List (List Str)) : bx n (ks.map kv) = true := by
 rw [bu];intro v hv;obtain ⟨x, _, rfl⟩ := yK hv;exact m0 n x
theorem am.push {σ : a8} (h : am σ) {c : ag} (hc : jJ (σ.length + 1) c = true) : am (σ ++ [c]) := by
 intro x hx;rw [xR, xt];rcases yd hx with q | q
 ·exact jJ.mono (z8 _) (h x q)
 have q : x = c := by simpa using q
 rw [q]; exact hc
theorem am.set {σ : a8} (h : am σ) {k : Nat} {c : ag} (hc : jJ σ.length c = true) : am (σ.set k c) := by
 intro x hx;rw [yB];rcases List.mem_or_eq_of_mem_set hx with q | q
 ·exact h x q
 rw [q]; exact hc
mutual
theorem RV.cut {φ : List Addr} {h : Heap} {n : Nat} : ∀ {v : Val} {V : Value}, bel n v = true → RV φ h v V → RV (φ.take n) h v V
 | .none, V, _, x => by unfold RV at x ⊢; exact x
 | .bool b, V, _, x => by unfold RV at x ⊢; exact x
 | .int i, V, _, x => by unfold RV at x ⊢; exact x
 | .str y, V, _, x => by unfold RV at x ⊢; exact x
 | .glob v, V, _, x => by unfold RV at x ⊢; exact x
 | .ref k, V, b, x => by
  unfold RV at x ⊢;unfold bel at b;obtain ⟨a, e, r⟩ := x;exact ⟨a, by rw [xj (yg b)]; exact e, r⟩
 | .tup l, V, b, x => by
  unfold RV at x ⊢;unfold bel at b;obtain ⟨a, o, m, xs, e, ho, hc, hd, r⟩ := x;exact ⟨a, o, m, xs, e, ho, hc, hd, RL.cut b r⟩
 | .nt l, V, b, x => by
  unfold RV at x ⊢;unfold bel at b;obtain ⟨a, o, m, xs, e, ho, hc, hd, r⟩ := x;exact ⟨a, o, m, xs, e, ho, hc, hd, RL.cut b r⟩
theorem RL.cut {φ : List Addr} {h : Heap} {n : Nat} : ∀ {l : List Val} {Vs : List Value}, bx n l = true → RL φ h l Vs → RL (φ.take n) h l Vs
 | [], Vs, _, x => by unfold RL at x ⊢; exact x
 | v :: l, Vs, b, x => by
  unfold RL at x ⊢;unfold bx at b;rw [yu] at b;obtain ⟨V, Ws, e, r1, r2⟩ := x;exact ⟨V, Ws, e, RV.cut b.1 r1, RL.cut b.2 r2⟩
end
theorem RD.cut {φ : List Addr} {h : Heap} {n : Nat} : ∀ {l : List (Str × Val)} {es : List DictEntry}, bx n (l.map (·.2)) = true → RD φ h l es → RD (φ.take n) h l es
 | [], es, _, x => x
 | (y, v) :: l, es, b, x => by
  rw [yR] at b;unfold bx at b;rw [yu] at b;obtain ⟨e, r, he, ht, r1, r2⟩ := x;exact ⟨e, r, he, ht, r1.cut b.1, RD.cut b.2 r2⟩
theorem b5.cut {c : ag} (b : jJ n c = true) (x : b5 w φ h a c) : b5 w (φ.take n) h a c := by
 cases c with
 | list l => obtain ⟨o, xs, m, e, hc, hd, r⟩ := x; exact ⟨o, xs, m, e, hc, hd, r.cut b⟩
 | dict l => obtain ⟨o, es, m, e, hc, hd, hk, r⟩ := x; exact ⟨o, es, m, e, hc, hd, hk, r.cut b⟩
 | inst k => obtain ⟨o, dx, e, hc, hd, hp, hk⟩ := x; exact ⟨o, dx, e, hc, hd, hp, by rw [xj (yg b)]; exact hk⟩
 | ns k => obtain ⟨o, en, m, t, e, hc, hd, ht, r⟩ := x; exact ⟨o, en, m, t, e, hc, hd, ht, r.cut (by unfold bel; exact b)⟩
 | ns0 => exact x
 | obj => exact x
section
variable {K : KC} {hn : Bool} {d : Nat} {F : Frm} {vals : ai} {σ σ1 σ2 σ' g : a8} {P : FR → ai → a8 → Prop}
theorem gF.sub (x : gF n φ h env) (hs : ∀ a ∈ φ', a ∈ φ) : gF n φ' h env := by
 obtain ⟨hkd, L, o, es, m, h1, h2, h3, h4, h5⟩ := x;exact ⟨hkd, L, o, es, m, h1, h2, h3, h4, fun q => h5 (hs L q)⟩
theorem af.cut {s : Shared} (G : af K φ (σ' ++ g) s) (hc : am σ') : af K (φ.take σ'.length) σ' s := by
 have hl : φ.length = σ'.length + g.length := by rw [G.len, xR]
 refine ⟨G.base, G.grown, by rw [yn, hl]; exact yI (yp ..), G.nod.sublist (List.take_sublist ..), fun a ha => G.hi a (xG ha), fun k a c h1 h2 => ?_, G.os, G.gens, fun env he => (G.frs env he).sub fun a ha => xG ha⟩;have hk : k < σ'.length := (x7 h2).1;rw [xj hk] at h1;exact (G.cells k a c h1 (by rw [xc hk]; exact h2)).cut (hc c (xB h2))
theorem Ext.cut {s : Shared} (X : Ext φ s φ' s') {n : Nat} (h : φ.length ≤ n) : Ext φ s (φ'.take n) s' := by
 obtain ⟨new, e, hn⟩ := X.more;refine ⟨X.keep, X.size, new.take (n - φ.length), by rw [e, List.take_append, xp h], fun a ha => hn a (xG ha)⟩
theorem EvE.cut (h : EvE K hn d F vals σ e v (σ' ++ g)) (hl : σ.length ≤ σ'.length) (hc : am σ') (hv : bel σ'.length v = true) : EvE K hn d F vals σ e v σ' := fun A φ s R G I Q E hQ =>
 h A φ s R G I Q E fun φ1 s1 V X1 G1 r1 => hQ _ s1 V (X1.cut (by rw [G.len]; exact hl)) (G1.cut hc) (r1.cut hv)
theorem EvB.cut {b : Bool} (h : EvB K hn d F vals σ e b (σ' ++ g)) (hl : σ.length ≤ σ'.length) (hc : am σ') : EvB K hn d F vals σ e b σ' := fun A φ s R G I Q E hQ =>
 h A φ s R G I Q E fun φ1 s1 V X1 G1 r1 => hQ _ s1 V (X1.cut (by rw [G.len]; exact hl)) (G1.cut hc) r1
theorem PC.cut (h : PC K hn d σ f l kw v (σ' ++ g)) (hl : σ.length ≤ σ'.length) (hc : am σ') (hv : bel σ'.length v = true) : PC K hn d σ f l kw v σ' := fun A φ s Vs Ws R G r1 r2 Q E hQ =>
 h A φ s Vs Ws R G r1 r2 Q E fun φ1 s1 V X1 G1 q1 => hQ _ s1 V (X1.cut (by rw [G.len]; exact hl)) (G1.cut hc) (q1.cut hv)
theorem af.pick {s : Shared} (G : af K φ (σ' ++ g) s) (hc : am σ') (hk : (σ' ++ g)[k]? = some (.list l)) (hkn : σ'.length ≤ k) (hb : bx σ'.length l = true) (r : RV φ s.heap (.ref k) V) :
  ∃ a, φ[k]? = some a ∧ af K (φ.take σ'.length ++ [a]) (σ' ++ [.list l]) s ∧ RV (φ.take σ'.length ++ [a]) s.heap (.ref σ'.length) V := by
 unfold RV at r;obtain ⟨a, ha, rfl⟩ := r;have G' := G.cut hc;have hlen : (φ.take σ'.length).length = σ'.length := G'.len;refine ⟨a, ha, ⟨G.base, G.grown, by simp [hlen], ?_, fun b hb' => ?_, fun j b c h1 h2 => ?_, G.os, G.gens, fun env he => (G.frs env he).sub fun b hb => (yd hb).elim (fun q => xG q) fun q => by have q : b = a := (by simpa using q); rw [q]; exact xB ha⟩, ?_⟩
 ·rw [List.nodup_append];refine ⟨G'.nod, by simp, fun x hx y hy => ?_⟩;have hy : y = a := by simpa using hy
  subst hy;intro q;subst q;obtain ⟨i, hi, e⟩ := xQ hx;have hi' : i < σ'.length := by rw [← hlen]; exact hi
  have : φ[i]? = some x := by rw [← xj (j := σ'.length) hi', xg hi, e]
  have := fL G.nod this ha;exact yQ _ (xU (Nat.lt_of_lt_of_eq (this ▸ hi) hlen) hkn)
 ·rcases yd hb' with q | q
  ·exact G'.hi b q
  have q : b = a := by simpa using q
  rw [q]; exact G.hi a (xB ha)
 ·by_cases hj : j < σ'.length
  ·rw [xc (by rw [hlen]; exact hj)] at h1;rw [xc hj] at h2;exact (G'.cells j b c h1 h2).keep (fun y o e _ => e) ⟨[a], rfl⟩
  have hj' : j = σ'.length := by
   have := (x7 h2).1;simp at this; exact yE (yi this) (yS hj)
  subst hj';rw [x9 (by rw [hlen]; exact z6 _), hlen, z5] at h1;rw [x9 (z6 _), z5] at h2;have h1 : some a = some b := h1;have h2 : some (ag.list l) = some c := h2;cases h1; cases h2;exact (b5.cut (n := σ'.length) (c := .list l) hb (G.cells k a _ ha hk)).keep (fun y o e _ => e) ⟨[a], rfl⟩
 unfold RV;exact ⟨a, by rw [x9 (by rw [hlen]; exact z6 _), hlen, z5]; rfl, rfl⟩
theorem Ext.pick {s : Shared} (X : Ext φ s φ' s') (h : φ.length ≤ n) (ha : φ'[k]? = some a) (hk : n ≤ k) : Ext φ s (φ'.take n ++ [a]) s' := by
 obtain ⟨new, e, hn⟩ := X.more;refine ⟨X.keep, X.size, new.take (n - φ.length) ++ [a], by rw [e, List.take_append, xp h, yf], fun b hb => ?_⟩;rcases yd hb with q | q
 ·exact hn b (xG q)
 have q : b = a := by simpa using q
 subst q;rw [e, x9 (yT ‹_› ‹_›)] at ha;exact hn b (xB ha)
theorem EvE.pick (h : EvE K hn d F vals σ e (.ref k) (σ' ++ g)) (hk : (σ' ++ g)[k]? = some (.list l)) (hkn : σ'.length ≤ k) (hl : σ.length ≤ σ'.length) (hc : am σ') (hb : bx σ'.length l = true) :
  EvE K hn d F vals σ e (.ref σ'.length) (σ' ++ [.list l]) := fun A φ s R G I Q E hQ =>
 h A φ s R G I Q E fun φ1 s1 V X1 G1 r1 => by
  obtain ⟨a, ha, G2, r2⟩ := G1.pick hc hk hkn hb r1;exact hQ _ s1 V (X1.pick (by rw [G.len]; exact hl) ha hkn) G2 r2
theorem PC.pick (h : PC K hn d σ f l0 kw (.ref k) (σ' ++ g)) (hk : (σ' ++ g)[k]? = some (.list l)) (hkn : σ'.length ≤ k) (hl : σ.length ≤ σ'.length) (hc : am σ') (hb : bx σ'.length l = true) :
  PC K hn d σ f l0 kw (.ref σ'.length) (σ' ++ [.list l]) := fun A φ s Vs Ws R G r1 r2 Q E hQ =>
 h A φ s Vs Ws R G r1 r2 Q E fun φ1 s1 V X1 G1 q1 => by
  obtain ⟨a, ha, G2, q2⟩ := G1.pick hc hk hkn hb q1;exact hQ _ s1 V (X1.pick (by rw [G.len]; exact hl) ha hkn) G2 q2
end
noncomputable def pB : List Str := [⟨#[97]⟩, ⟨#[39, 39]⟩, ⟨#[39, 97, 46, 98, 39]⟩, ⟨#[34, 92, 117, 48, 48, 54, 49, 34]⟩, ⟨#[34, 34]⟩, ⟨#[34, 97, 92, 117, 48, 48, 50, 69, 98, 34]⟩]
noncomputable def pn : List Str := [⟨#[97]⟩, ⟨#[]⟩, ⟨#[97, 46, 98]⟩]
noncomputable def u8 : List Str := [⟨#[46]⟩, ⟨#[32, 46, 9]⟩]
noncomputable def md (a : Int) (m : Nat) : Nat := (a.fmod m).toNat
theorem dN (a : Int) {m : Nat} (h : 0 < m) : md a m < m := by
 unfold md;have h1 := Int.fmod_lt_of_pos a (b := (m : Int)) (Int.natCast_pos.mpr h);exact (Int.toNat_lt' h).mpr h1
theorem uo (a : Int) {m : Nat} (h : 0 < m) : a.fmod m = ((md a m : Nat) : Int) := by
 unfold md;have := Int.fmod_nonneg_of_pos a (b := (m : Int)) (Int.natCast_pos.mpr h);exact (Int.toNat_of_nonneg this).symm
noncomputable def aP (r : Int) : Str := pB[md r 6]?.getD ⟨#[]⟩
noncomputable def bA (r : Int) : Str := pn[md r 3]?.getD ⟨#[]⟩
noncomputable def d6 (r : Int) : Str := u8[md (r.fdiv 6) 2]?.getD ⟨#[]⟩
structure MS where
 key : List Str
 w : Str
 rest : Int
noncomputable def mstep (p : Nat) (s : MS) : MS := ⟨s.key ++ [bA s.rest], (if p = 0 then s.w else s.w ++ d6 s.rest) ++ aP s.rest, s.rest.fdiv 12⟩
noncomputable def mst (x : Int) : Nat → MS
 | 0 => ⟨[], ⟨#[]⟩, x.fdiv 3⟩
 | p + 1 => mstep p (mst x p)
noncomputable def df (x : Int) : List Str := (mst x (1 + md x 3)).key
noncomputable def mwr (x : Int) : Str := (mst x (1 + md x 3)).w
theorem lN {α : Type} {l : List α} {dflt : α} (h : i < l.length) : l[i]? = some (l[i]?.getD dflt) := by
 rw [xg h]; rfl
theorem ss (r : Int) : (pB.map Val.str)[md r 6]? = some (.str (aP r)) := by
 rw [ye];unfold aP;rw [lN (dflt := (⟨#[]⟩ : Str)) (show md r 6 < pB.length from dN r (yF _ _))];rfl
theorem rI (r : Int) : (pn.map Val.str)[md r 3]? = some (.str (bA r)) := by
 rw [ye];unfold bA;rw [lN (dflt := (⟨#[]⟩ : Str)) (show md r 3 < pn.length from dN r (yF _ _))];rfl
theorem u7 (r : Int) : (u8.map Val.str)[md (r.fdiv 6) 2]? = some (.str (d6 r)) := by
 rw [ye];unfold d6;rw [lN (dflt := (⟨#[]⟩ : Str)) (show md (r.fdiv 6) 2 < u8.length from dN _ (z8 _))];rfl
theorem mY (r : Int) : (aP r).length ≤ 10 := by
 have h := dN r (m := 6) (yF _ _);unfold aP;generalize md r 6 = k at *;have : k = 0 ∨ k = 1 ∨ k = 2 ∨ k = 3 ∨ k = 4 ∨ k = 5 := by lia
 rcases this with h | h | h | h | h | h <;> subst h <;> decide
theorem p8 (r : Int) : (d6 r).length ≤ 3 := by
 have h := dN (r.fdiv 6) (m := 2) (z8 _);unfold d6;generalize md (r.fdiv 6) 2 = k at *;have : k = 0 ∨ k = 1 := by lia
 rcases this with h | h <;> subst h <;> decide
theorem Str.length_append (x y : Str) : (x ++ y).length = x.length + y.length := by
 show (x.cps ++ y.cps).size = _; rw [Array.size_append]; rfl
theorem ly (x : Int) : ∀ p, (mst x p).w.length ≤ 13 * p
 | 0 => by show (⟨#[]⟩ : Str).length ≤ 0; decide
 | p + 1 => by
  have h := ly x p;have h1 := mY (mst x p).rest;have h2 := p8 (mst x p).rest;show ((if p = 0 then _ else _) ++ _ : Str).length ≤ _;rw [Str.length_append];split
  ·exact aK h h1
  rw [Str.length_append]; exact yT (yN (yN h h2) h1) (yV rfl)
theorem iE (x : Int) : ∀ p, (mst x p).key.length = p
 | 0 => rfl
 | p + 1 => by
  show ((mst x p).key ++ [_]).length = p + 1;rw [xR, iE x p]; rfl
theorem ae (σ : a8) (c : ag) : (σ ++ [c])[σ.length]? = some c := by simp
theorem il (h : n < 2 ^ 40) : Builtin.Range.small 0 (n : Int) 1 = true ∧ Builtin.Range.rangeSize 0 (n : Int) 1 = (n : Int) := by
 refine ⟨small_one (by decide) (by decide) (Int.le_trans (by decide) (xX _)) (lI h (by decide)), ?_⟩;rw [rangeSize_one];split <;> lia
theorem fS {l : List Str} {x : Str} (hl : EvL K hn d F vals σ p1 es (l.map Val.str) σ) (hi : EvE K hn d F vals (σ ++ [.list (l.map Val.str)]) ie (.int (i : Int)) (σ ++ [.list (l.map Val.str)]))
  (hx : (l.map Val.str)[i]? = some (.str x)) (hlen : l.length < 100) (hc : am σ)
  (hs : ∀ o i, ∃ ops, subscripted ie false o i = operate ops (getItem o i) := by intro o i; exact ⟨_, rfl⟩) : EvE K hn d F vals σ (.Subscript (.List es p1) ie pos) (.str x) σ := by
 have hii : i < l.length := by have := (x7 hx).1; simpa using this
 have hsz : (2 : Nat) ^ 20 ≤ sizeLine := by decide
 exact EvE.cut (g := [.list (l.map Val.str)]) (aV (dk hl (by rw [yA]; exact yT (yU ‹_›) (by decide))) hi (ar (ae ..)) (aq (ae ..) hx (yW (yW ‹_› ‹_›) (by decide))) hs) (z6 _) hc (by unfold bel; rfl)
theorem lu {a : Int} {b : Nat} (h0 : 0 < b) (h1 : b < 1000) : P2 K hn d σ (binaryOp .FloorDiv) (.int a) (.int (b : Int)) (.int (a.fdiv b)) σ := qf (by lia) (PyProof.noPylong_small (xU ‹_› (yF _ _)))
theorem lr {a : Int} {b : Nat} (h0 : 0 < b) : P2 K hn d σ (binaryOp .Mod) (.int a) (.int (b : Int)) (.int ((md a b : Nat) : Int)) σ := by
 have := qc (K := K) (hn := hn) (d := d) (σ := σ) (a := a) (b := (b : Int)) (by lia);rwa [uo a h0] at this
theorem nO {w' : ai} (h : TSt K hn d F vals σ (exec st F.env) (fun r v' s' => r = .next ∧ v' = w' ∧ s' = σ')) (k : TSt K hn d F w' σ' (execs rest F.env) P) :
  TSt K hn d F vals σ (execs (st :: rest) F.env) P := a9 (TSt.mono h fun r v' s' p => by
 obtain ⟨rfl, rfl, rfl⟩ := p;exact k)
inductive maJ (σ : a8) (x : Int) (p : Nat) (v' : ai) (σ' : a8) : Prop
 | mk (y : Option Val) (q0 : p ≤ 1 + md x 3) (q1 : v' = [some (.int x), some (.int (mst x p).rest), some (kv (mst x p).key), some (.str (mst x p).w), y]) (q2 : σ' = σ)
theorem uq (H : Wld K.toKB) (hc : am σ) (x : Int) : PC K true (d + 1) σ (.ref 404) [.int x] [] (.tup [kv (df x), .str (mwr x)]) σ := by
 refine H.def (t := nD) (params := ["x"]) (rest := ["rest", "key", "written", "part"]) (dflt := []) (xB (i := 18) rfl) (eM fun _ _ _ _ _ => rfl) rfl (by decide +kernel) (aL rfl) rfl rfl rfl fun L H => ?_
 show TSt _ _ _ _ _ _ (execs (ax (stm 48)) _) _;refine a9 (ab 1 (aS (a7 0 rfl rfl) (aR (n := 3)) (lu (yF _ _) (yF _ _))) rfl (.inl rfl) ?_);refine a9 (ab 2 (bD ac (by show 0 ≤ sizeLine; decide)) rfl (.inl rfl) ?_);refine a9 (ab 3 bi rfl (.inl rfl) ?_);obtain ⟨hr1, hr2⟩ := il (n := 1 + md x 3) (by have := dN x (m := 3) (by lia); exact yW (Nat.add_lt_add_left this 1) (by decide));have hm := dN x (m := 3) (by lia);refine a9 (gf (ix := 4) (eG (cH (H.built rfl rfl) (.typ "range") (aa (aS (aR (n := 1)) (aS (a7 0 rfl rfl) (aR (n := 3)) (lr (by lia))) dF) ac) jE) hr1 hr2) rfl (.inl rfl)
  (maJ σ x)
  ⟨none, by exact yF _ _, rfl, rfl⟩ (fun _ _ _ _ => trivial) ?_ ?_)
 ·rintro p v' σ' ⟨y, hp, rfl, rfl⟩ hit;have hp' : p = 1 + md x 3 := by
   have : (if p < 1 + md x 3 then some (Val.int (0 + (p : Int) * 1)) else none) = none := hit;split at this
   ·cases this
   exact yE hp (yS ‹_›)
  subst hp';exact a9 (bm (bD (aa (a7 2 rfl rfl) (aa (a7 3 rfl rfl) ac)) (by show 2 ≤ sizeLine; decide)) ⟨rfl, rfl⟩)
 rintro p v' σ' v ⟨y, hp, rfl, rfl⟩ hit;have hpv : p < 1 + md x 3 ∧ v = .int (p : Int) := by
  have : (if p < 1 + md x 3 then some (Val.int (0 + (p : Int) * 1)) else none) = some v := hit;split at this
  ·cases this;exact ⟨by assumption, congrArg Val.int (by lia)⟩
  cases this
 obtain ⟨hp1, rfl⟩ := hpv;have hw := ly x p;have h1 := mY (mst x p).rest;have h2 := p8 (mst x p).rest;have hsz : (2 : Nat) ^ 20 ≤ sizeLine := by decide
 refine nO (w' := [some (.int x), some (.int (mst x p).rest), some (kv (mst x p).key), some (.str (if p = 0 then (mst x p).w else (mst x p).w ++ d6 (mst x p).rest)), some (.int (p : Int))]) (σ' := σ') ?_ ?_
 ·refine be (b := decide ((p : Int) > 0)) (av (a7 4 rfl rfl) b7 eE) (fun hb => ?_) (fun hb => ?_)
  ·have hp0 : p ≠ 0 := by have := yg hb; lia
   rw [if_neg hp0];exact a9 (ab 3 (aS (a7 3 rfl rfl) (fS (l := u8) (aa bi (aa bi ac)) (aS (aS (a7 1 rfl rfl) (aR (n := 6)) (lu (yF _ _) (yF _ _))) (aR (n := 2)) (lr (z8 _))) (u7 _) (by decide) hc) (eV (by rw [Str.length_append]; exact yT (aA hm hp1 hw h2) (yT (by decide) hsz)))) rfl (.inl rfl) (ak ⟨rfl, rfl, rfl⟩))
  have hp0 : p = 0 := by have := xY hb; lia
  rw [if_pos hp0];exact ak ⟨rfl, rfl, rfl⟩
 have hwl : (if p = 0 then (mst x p).w else (mst x p).w ++ d6 (mst x p).rest : Str).length ≤ 50 := by
  split
  ·exact yT hw (‹p = 0› ▸ (by decide : 13 * 0 ≤ 50))
  rw [Str.length_append]; exact aA hm hp1 hw h2
 refine a9 (ab 3 (aS (a7 3 rfl rfl) (fS (l := pB) (aa bi (aa bi (aa bi (aa bi (aa bi (aa bi ac)))))) (aS (a7 1 rfl rfl) (aR (n := 6)) (lr (by lia))) (ss _) (by decide) hc) (eV (by rw [Str.length_append]; exact yT (yN hwl h1) (yT (by decide) hsz)))) rfl (.inl rfl) ?_);refine a9 (ab 2 (aS (a7 2 rfl rfl) (bD (aa (fS (l := pn) (aa bi (aa bi (aa bi ac))) (aS (a7 1 rfl rfl) (aR (n := 3)) (lr (by lia))) (rI _) (by decide) hc) ac) (by show 1 ≤ sizeLine; decide)) (kC (by rw [yA, iE]; show p + 1 ≤ _; exact yT hp1 (yT (yU (Nat.add_lt_add_left hm 1)) (yT (by decide) hsz))))) rfl (.inl rfl) ?_);refine a9 (ab 1 (aS (a7 1 rfl rfl) (aR (n := 12)) (lu (yF _ _) (yF _ _))) rfl (.inl rfl) (ak ⟨some (.int (p : Int)), by assumption, ?_, rfl⟩));show [some (Val.int x), some (Val.int ((mst x p).rest.fdiv 12)), some (Val.tup ((mst x p).key.map Val.str ++ [Val.str (bA (mst x p).rest)])), some (Val.str ((if p = 0 then (mst x p).w else (mst x p).w ++ d6 (mst x p).rest) ++ aP (mst x p).rest)), some (Val.int (p : Int))] = _;have : kv (mst x (p + 1)).key = Val.tup ((mst x p).key.map Val.str ++ [Val.str (bA (mst x p).rest)]) := by
  show Val.tup (((mst x p).key ++ [bA (mst x p).rest]).map Val.str) = _;rw [yC]; rfl
 rw [this]; rfl
section
set_option tactic.hygienic true
theorem mo (σ : a8) (c c' : ag) : (σ ++ [c]).set σ.length c' = σ ++ [c'] := by
 rw [List.set_append_right _ _ (z6 _), z5]; rfl
inductive RS (src : Str) : Nat → List (List Str) → Prop
 | done : RS src src.length []
 | key {i e0 p e : Nat} {n : Str} {l : List Str} {ks : List (List Str)} : KP src i e0 n → WS src e0 p → KR src p e l → l.length < 900 → src.cps[e]? = some 61 → RS src (e + 1) ks → RS src i ((n :: l) :: ks)
theorem vg {x : Str} {a c : Nat} (h : x.cps[a]? = some c) : sg x a (a + 1) = ⟨#[c]⟩ := by
 have h1 := oZ (z6 a) h;rw [lh] at h1;show (⟨(sg x a (a + 1)).cps⟩ : Str) = _;congr 1;exact Array.toList_inj.mp h1
inductive reJ (σ : a8) (text : Str) (ks : List (List Str)) (n : Nat) (v' : ai) (σ' : a8) : Prop
 | mk (i : Nat) (done rest : List (List Str)) (x : Option Val) (q0 : n = text.length - i) (q1 : i ≤ text.length) (q2 : RS text i rest) (q3 : done ++ rest = ks) (q4 : done.length ≤ i) (q5 : v' = [some (.str text), some (.ref σ.length), some (.int i), x]) (q6 : σ' = σ ++ [.list (done.map kv)])
theorem ue (H : Wld K.toKB) {text : Str} {ks : List (List Str)} (hsz : text.length < 2 ^ 20) (hR : RS text 0 ks) :
  PC K true (d + 8) σ (.ref 411) [.str text] [] (.ref σ.length) (σ ++ [.list (ks.map kv)]) := by
 refine H.def (t := nC) (params := ["text"]) (rest := ["keys", "place", "key"]) (dflt := []) (xB (i := 19) rfl) (eM fun _ _ _ _ _ => rfl) rfl (by decide +kernel) (aL rfl) rfl rfl rfl fun L H => ?_
 show TSt _ _ _ _ _ _ (execs (ax (stm 49)) _) _;refine a9 (ab 1 (dk ac) rfl (.inl rfl) ?_);refine a9 (ab 2 (aR (n := 0)) rfl (.inl rfl) ?_);refine a9 (dy (reJ σ text ks) ?_ (text.length - 0) ⟨0, [], ks, none, rfl, z7 _, hR, rfl, z6 _, rfl, rfl⟩);rintro n v' σ' ⟨i, done, rest, x, rfl, hi, hr, hks, hdl, rfl, rfl⟩;refine ⟨decide ((i : Int) < (text.length : Int)), _, av (a7 2 rfl rfl) (aj (kl := []) (H.built rfl rfl) (.blt "len") (aa (a7 0 rfl rfl) ac) ao (kY (yT (yU ‹_›) (by decide)))) gl, fun hb => ?_, fun hb => ?_⟩
 ·have hb := xY hb;cases hr with
  | done =>
   rw [yG] at hks;subst hks;exact a9 (bm (a7 1 rfl rfl) ⟨rfl, rfl⟩)
  | key h0 _ _ _ _ _ =>
   have := h0.le;cases h0 with
   | bare a b => have : i < text.cps.size := by exact yW ‹_› ‹_›
                 have e : text.cps.size = text.length := rfl;exact (hb (yz this)).elim
   | lit a => have := getElem?_lt a; exact (hb (yz this)).elim
   | basic a => have := getElem?_lt a; exact (hb (yz this)).elim
 have hb := yg hb;cases hr with
 | done => exact (Int.lt_irrefl _ hb).elim
 | @key _ e0 p e n l ks' h0 h1 h2 h3 h4 h5 =>
  have g0 := h0.le;have g1 := h1.le;have g2 := h2.le;have g4 := getElem?_lt h4;refine a9 (eU (i := 2) (j := 3) (aj (kl := []) (H.name (v := .glob (.ref 167)) rfl rfl) (H.callee (t := eu) (xB (i := 2) rfl)) (aa (a7 0 rfl rfl) (aa (a7 2 rfl rfl) ac)) ao (vv H hsz h0 h1 h2 h3)) rfl rfl (.inl rfl) (.inl rfl) ?_);refine a9 (be (b := false) (EvB.eq (av (b6 (a7 0 rfl rfl) (ap (a7 2 rfl rfl)) (ap (aS (a7 2 rfl rfl) (aR (n := 1)) dF)) bh (io (yU hsz))) bi jl) (by rw [vg h4]; decide +kernel)) nft fun _ => ak ?_);refine a9 (ci (bZ (a7 1 rfl rfl) (cw (ae ..) xh xi) (.blt _) (aa (a7 3 rfl rfl) ac) (cN (ae ..) (by rw [yA]; have : (2 : Nat) ^ 20 ≤ sizeLine := (by decide); exact yT (yT hdl (yU (yW (xU g0 (yT g1 (yT g2 (yU g4)))) hsz))) this))) rfl ?_);refine a9 (ab 2 (aS (a7 2 rfl rfl) (aR (n := 1)) dF) rfl (.inl rfl) (ak ?_));refine ⟨text.length - (e + 1), by exact sA (yj (yU (xU g0 (yT g1 g2)))) g4, e + 1, done ++ [n :: l], ks', some (kv (n :: l)), rfl, by assumption, h5, by rw [yf]; exact hks, by rw [xR, xt]; exact yt (yT hdl (yU (xU g0 (yT g1 g2)))), rfl, ?_⟩;rw [mo, yC]; rfl
end
noncomputable def sLt (a b : Str) : Bool := decide (a.cps.toList < b.cps.toList)
noncomputable def kLt : List Str → List Str → Bool
 | [], [] => false
 | [], _ :: _ => true
 | _ :: _, [] => false
 | a :: k, b :: k' => if a = b then kLt k k' else sLt a b
def tE (ks : List Str) (vs : List Value) : Prop := vs.length = ks.length ∧ ∀ (j : Nat) (x : Str), ks[j]? = some x → ∃ t, vs[j]? = some (.str x t)
theorem dw {k : List Str} (r : RL φ h (k.map .str) Vs) : tE k Vs := by
 refine ⟨by rw [r.length, yA], fun j x hx => ?_⟩;obtain ⟨V, hV, rV⟩ := r.get j (v := .str x) (by rw [ye, hx]; rfl);unfold RV at rV;obtain ⟨t, rfl⟩ := rV;exact ⟨t, hV⟩
theorem kJ (k : List Str) : kLt k [] = false := by cases k <;> rfl
inductive TlJ {β : Type} (s0 : Shared) (items items2 : Array Value) (p : Nat → Prop) (rest : List (Value × Value)) (b : Option β) (s' : Shared) : Prop
 | mk (h1 : b = none) (h2 : s' = s0) (i : Nat) (hi : i ≤ min items.size items2.size) (hr : rest = (items.toList.zip items2.toList).drop i) (hk : p i)
theorem fA (l b : Addr) (items items2 : Array Value) (n n2 : Nat) (dd dd2 : Option Addr) (sl sl2 : Array (Option Value)) (k k' : List Str) (h1 : tE k items.toList) (h2 : tE k' items2.toList) :
  Meets (Builtin.«tuple.__lt__» ⟨[.ref l, .ref b], []⟩)
   (fun A R s => s.heap.get? l = some { cls := .type "tuple", dict := dd, data := .seq items n, slots := sl } ∧ s.heap.get? b = some { cls := .type "tuple", dict := dd2, data := .seq items2 n2, slots := sl2 } ∧
    R (.ok (.ret (.bool (kLt k k')))) s) :=
 .of_wp fun prog w A R s h => by
  obtain ⟨hp, g, d, tk, os⟩ := s; obtain ⟨hl, hb, h⟩ := h;have f2 := PySem.AutoSeq1.sub_tuple_tuple;have hZ : (items.toList.zip items2.toList).length = min items.size items2.size := by simp
  have s1 : items.size = k.length := by have := h1.1; simpa using this
  have s2 : items2.size = k'.length := by have := h2.1; simpa using this
  wp_walk using wpAny_loadPart' hl, wpAny_loadPart' hb, wpAny_forIn_list _ (fun rest b s' => TlJ ⟨hp, g, d, tk, os⟩ items items2 (fun i => kLt k k' = kLt (k.drop i) (k'.drop i)) rest b.1 s') _
  case turn =>
   rintro ⟨y, x⟩ rest b s' ⟨hb', rfl, i, hi, hz, hR⟩;have hlt : i < (items.toList.zip items2.toList).length := by
    rcases z0 i (items.toList.zip items2.toList).length with h' | h'
    ·exact h'
    rw [xr h'] at hz; cases hz
   have hm : i < min items.size items2.size := hZ ▸ hlt;have e1 : i < items.size := xU hm (Nat.min_le_left _ _);have e2 : i < items2.size := xU hm (yo _ _);rw [xd hlt] at hz;injection hz with hyx hrest
   have hy : y = items[i] := by have := congrArg Prod.fst hyx; simpa using this
   have hx : x = items2[i] := by have := congrArg Prod.snd hyx; simpa using this
   have hk1 : k[i]? = some k[i] := xg (by omega);have hk2 : k'[i]? = some k'[i] := xg (by omega);obtain ⟨t1, p1⟩ := h1.2 i _ hk1;obtain ⟨t2, p2⟩ := h2.2 i _ hk2;have p1 : items[i] = .str k[i] t1 := by simpa [e1] using p1
   have p2 : items2[i] = .str k'[i] t2 := by simpa [e2] using p2
   rw [p1] at hy; rw [p2] at hx;subst hy hx;rw [xd (by exact s1 ▸ e1 : i < k.length), xd (by lia : i < k'.length)] at hR;refine za (EqAt.str_str k[i] t1 k'[i] t2 prog w _ _ ?_);cases hy : (k[i] == k'[i]) with
   | true =>
    have hy : k[i] = k'[i] := by simpa using hy
    wp_walk
    refine ⟨rfl, rfl, i + 1, by assumption, hrest, ?_⟩;rw [hR];show (if k[i] = k'[i] then _ else _) = _;rw [if_pos hy]
   | false =>
    have hy : k[i] ≠ k'[i] := by simpa using hy
    have hres : kLt k k' = sLt k[i] k'[i] := by
     rw [hR];show (if k[i] = k'[i] then _ else _) = _;rw [if_neg hy]
    refine wpAny_ite_true rfl (za (wpAny_rule (za (m := compareOp .Lt (.str k[i] t1) (.str k'[i] t2)) (P.lt_str ?_))));refine za (zb (zb ?_));refine zb ⟨_, rfl, ?_⟩;rw [hres] at h;exact h
  case fin =>
   rintro ⟨b1, b2⟩ s' ⟨hb', rfl, i, hi, hz, hR⟩;simp only at hb';subst hb';have hge : min items.size items2.size ≤ i := by
    rcases z0 i (items.toList.zip items2.toList).length with h' | h'
    ·rw [xd h'] at hz; cases hz
    exact hZ ▸ h'
   have hres : kLt k k' = decide (items.size < items2.size) := by
    rw [hR, s1, s2];rcases z0 i k.length with q | q
    ·rw [xr (by exact Mine.s2 s1 s2 hge q : k'.length ≤ i), kJ];rw [eq_comm, decide_eq_false_iff_not]; exact yO (yU (xV (Mine.s2 s1 s2 hge q) q))
    rw [xr q];rcases z0 i k'.length with q' | q'
    ·rw [xd q'];show true = _;rw [eq_comm, yh]; exact xV ‹_› ‹_›
    rw [xr q'];show false = _;rw [eq_comm, decide_eq_false_iff_not]; exact yO (yT q' (yT hi (yT (Nat.min_le_left ..) (yV s1))))
   wp_walk
   refine ⟨_, rfl, ?_⟩;rw [hres] at h;exact h
  case h =>
   exact ⟨rfl, rfl, 0, z7 _, rfl, rfl⟩
theorem ls {k : List Str} : P2 K hn d σ (compareOp .Lt) (kv k) (kv k') (.bool (kLt k k')) σ := fun A φ s V1 V2 R G r r' Q E hQ => by
 have hu : A.units < cLine := by have := R.units; have : cLine = 9900 := rfl; exact aC ‹_› this
 obtain ⟨a, xs, rfl, x, q⟩ := RV.tup r;obtain ⟨a', xs', rfl, x', q'⟩ := RV.tup r';obtain ⟨⟨cls, dd, data, sl⟩, ho, hc, n, hd⟩ := id x;obtain ⟨⟨cls2, dd2, data2, sl2⟩, ho2, hc2, n2, hd2⟩ := id x';simp only at hc hd hc2 hd2;subst hc hd hc2 hd2;exact richCompare_meets_room (op := .Lt) ⟨_, ho, rfl⟩ ⟨_, ho2, rfl⟩ PySem.F.slot_tuple_lt PySem.F.entry_tuple_lt (PySem.F.args_tuple_lt_2 _ _) (fA a a' xs xs' n n2 dd dd2 sl sl2 k k' (dw q) (dw q')) ⟨ho, ho2, show Value.bool (kLt k k') ≠ Value.notImplemented ∧ Q (.bool (kLt k k')) s from ⟨(fun x => nomatch x), hQ φ s _ (Ext.refl ..) G (az _)⟩⟩ hu
theorem RL.set {φ : List Addr} {h : Heap} : ∀ {l : List Val} {Vs : List Value} (i : Nat) {v : Val} {V : Value}, RL φ h l Vs → RV φ h v V → RL φ h (l.set i v) (Vs.set i V)
 | [], Vs, i, v, V, x, _ => by unfold RL at x; rw [x]; show RL φ h [] []; unfold RL; rfl
 | w :: l, Vs, i, v, V, x, r => by
  unfold RL at x;obtain ⟨W, Ws, rfl, r1, r2⟩ := x;cases i with
  | zero => show RL φ h (v :: l) (V :: Ws); unfold RL; exact ⟨V, Ws, rfl, r, r2⟩
  | succ i => show RL φ h (w :: l.set i v) (W :: Ws.set i V); unfold RL; exact ⟨W, _, rfl, r1, RL.set i r2 r⟩
theorem rg {s : Shared} {l : Addr} {items : Array Value} {k : Int} {v : Value} {Q : Unit → Shared → Prop} (ho : s.heap.get? l = some { cls := .type "list", dict := none, data := .seq items n, slots := #[] })
  (h0 : 0 ≤ k) (hfit : k < 2 ^ 63) (hn : k < items.size) (hQ : Q () { s with heap := s.heap.update l (Obj.mapSeq (·.setIfInBounds k.toNat v)) }) :
  wpAny (model pw w) A (setItem (.ref l) (.int k t) v) Q E s := by
 have hl : s.heap.IsList l items := ⟨_, ho, rfl, n, rfl⟩
 unfold setItem
 try with_reducible refine yP ?_
 first | refine za (zb ?_) | skip
 refine za (wpAny_sequenceKey hl.typeIs (by decide) ?_);refine za (wpAny_callSpecial?_slot (name := Str.ofString "__setitem__") hl.typeIs slot_list_setitem (wpAny_call_entry slot_list_setitem hl.typeIs entry_list_setitem ?_ (args_list_setitem _ _ _)));show wpAny _ _ (Builtin.List.listSubscript? (.int k t) >>= _) _ _ s;refine za (wpAny_listSubscript_int (fitsIndex_of h0 hfit) ?_);clear hfit;obtain ⟨j, rfl⟩ := Int.eq_ofNat_of_zero_le h0;have hj : j < items.size := by exact Int.ofNat_lt.mp hn
 have hx' : items[j]? = some items[j] := xe hj;show wpAny _ _ ((seqItemAt l j >>= fun r => pure (r.map (j, ·))) >>= _) _ _ s;refine za (za (wpAny_seqItemAt ho rfl (zb ?_)));rw [hx'];show wpAny _ _ (setSeqItemAt l j v >>= _) _ _ s;refine za (wpAny_setSeqItemAt ho rfl ?_)
 first
  | exact za (zb (zb ⟨.none, rfl, zb hQ⟩))
  | exact zb ⟨.none, rfl, zb hQ⟩
theorem ce {o value : Expr} (h1 : EvE K hn d F vals σ value v σ1) (h2 : EvE K hn d F vals σ1 o (.ref k) σ2) (h3 : EvE K hn d F vals σ2 ie (.int (j : Int)) σ3)
  (hk : σ3[k]? = some (.list l)) (hj : j < l.length) (hfit : j < 2 ^ 62) (hP : P .next vals (σ3.set k (.list (l.set j v))))
  (hs : swapsWith value (some (.Subscript o ie p')) pos.line F.env = pure false := by rfl) : TSt K hn d F vals σ (exec (.Assign [.Subscript o ie p'] value pos) F.env) P := fun A φ s R G I Q E hQ => by
 refine wpAny_Assign_Subscript (h1 A φ s R G I _ _ fun φ1 s1 V1 X1 G1 r1 => h2 A φ1 s1 R G1 (I.ext G X1) _ _ fun φ2 s2 V2 X2 G2 r2 => h3 A φ2 s2 R G2 ((I.ext G X1).ext G1 X2) _ _ fun φ3 s3 V3 X3 G3 r3 => ?_) hs;have I3 := ((I.ext G X1).ext G1 X2).ext G2 X3;have rv := (r1.ext G1 X2).ext G2 X3;obtain ⟨a, xs, n, rfl, ha, ho, r⟩ := G3.listObj (r2.ext G2 X3) hk;have e := r.length;rw [xK] at e;unfold RV at r3;obtain ⟨t, rfl⟩ := r3;refine rg ho (by lia) (by exact lI hfit (by decide)) (by exact yz (e ▸ hj)) ?_;obtain ⟨G4, X4, _⟩ := G3.mapList (f := fun l => l.setIfInBounds j V1) (t := s3.toks) ha ho (l' := l.set j v) (by rw [Array.toList_setIfInBounds]; exact RL.set j r rv);exact hQ φ3 _ .next .next vals _ ((((X1.trans X2).trans X3).trans X4).toS _) G4 (I3.ext G3 X4) rfl hP
noncomputable abbrev Key := List Str
noncomputable def gk (l : List Key) (i : Nat) : Key := l[i]?.getD []
theorem bt {l : List Key} (h : i < l.length) : (l.map kv)[i]? = some (kv (gk l i)) := by
 rw [ye];unfold gk;rw [xg h]; rfl
noncomputable def sdN (x : Key) (start : Nat) : Nat → List Key → Nat → List Key
 | 0, l, pos => l.set pos x
 | n + 1, l, pos => if pos > start then if kLt x (gk l ((pos - 1) / 2)) = true then sdN x start n (l.set pos (gk l ((pos - 1) / 2))) ((pos - 1) / 2) else l.set pos x else l.set pos x
noncomputable def sd (x : Key) (start : Nat) (l : List Key) (pos : Nat) : List Key := sdN x start pos l pos
theorem uy {pos start : Nat} (h : pos > start) : (pos - 1) / 2 < pos := by exact zg (zp h)
theorem pu {pos start : Nat} (h : pos > start) (k : pos ≤ n + 1) : (pos - 1) / 2 ≤ n := by exact yi (xU (zg (zp h)) k)
theorem nN (x : Key) (start : Nat) : ∀ (n m : Nat) (l : List Key) (pos : Nat), pos ≤ n → pos ≤ m → sdN x start n l pos = sdN x start m l pos
 | 0, 0, _, _, _, _ => rfl
 | 0, m + 1, l, pos, h, _ => (if_neg (by rw [Nat.le_zero.mp h]; exact Nat.not_lt_zero _)).symm
 | n + 1, 0, l, pos, _, h => if_neg (by rw [Nat.le_zero.mp h]; exact Nat.not_lt_zero _)
 | n + 1, m + 1, l, pos, h, k => by
  unfold sdN;by_cases q : pos > start
  ·rw [if_pos q, if_pos q, nN x start n m _ _ (pu q h) (pu q k)]
  rw [if_neg q, if_neg q]
theorem jh (x : Key) (start : Nat) (l : List Key) (pos : Nat) : sd x start l pos = if pos > start then if kLt x (gk l ((pos - 1) / 2)) = true then sd x start (l.set pos (gk l ((pos - 1) / 2))) ((pos - 1) / 2) else l.set pos x else l.set pos x := by
 by_cases q : pos > start
 ·rw [if_pos q];unfold sd;rw [nN x start pos ((pos - 1) + 1) l pos (z6 _) (by exact sL), nN x start ((pos - 1) / 2) (pos - 1) _ _ (z6 _) (Nat.div_le_self ..)];exact if_pos q
 rw [if_neg q];unfold sd;cases pos with
 | zero => rfl
 | succ n => exact if_neg q
@[elab_as_elim] theorem rj {motive : List Key → Nat → Prop} (x : Key) (start : Nat) (case1 : ∀ l pos, pos > start → kLt x (gk l ((pos - 1) / 2)) = true → motive (l.set pos (gk l ((pos - 1) / 2))) ((pos - 1) / 2) → motive l pos)
  (case2 : ∀ l pos, pos > start → ¬ kLt x (gk l ((pos - 1) / 2)) = true → motive l pos) (case3 : ∀ l pos, ¬ pos > start → motive l pos) (l : List Key) (pos : Nat) : motive l pos := by
 induction pos using Nat.strongRecOn generalizing l with
 | _ pos ih =>
  by_cases h : pos > start
  ·by_cases q : kLt x (gk l ((pos - 1) / 2)) = true
   ·exact case1 l pos h q (ih _ (uy h) _)
   exact case2 l pos h q
  exact case3 l pos h
theorem iv (M : ai → a8 → Prop) (h : TSt K hn d F vals σ (exec st F.env) (fun r v' s' => r = .next ∧ M v' s')) (k : ∀ v' s', M v' s' → TSt K hn d F v' s' (execs rest F.env) P) :
  TSt K hn d F vals σ (execs (st :: rest) F.env) P := a9 (TSt.mono h fun r v' s' p => by
 obtain ⟨rfl, p⟩ := p;exact k v' s' p)
theorem cM (σ : a8) {k : Nat} (h : k < σ.length) (c : ag) : (σ.set k c)[k]? = some c := xq h
theorem set_set (σ : a8) (k : Nat) (c c' : ag) : (σ.set k c).set k c' = σ.set k c' := List.set_set ..
inductive sdJ (σ : a8) (k start pos : Nat) (l : List Key) (v' : ai) (s' : a8) : Prop
 | mk (p : Nat) (l' : List Key) (y z : Option Val) (q0 : l'.length = l.length) (q1 : p < l'.length) (q2 : l'.set p (gk l pos) = sd (gk l pos) start l pos) (q3 : v' = [some (.ref k), some (.int start), some (.int p), some (kv (gk l pos)), y, z]) (q4 : s' = σ.set k (.list (l'.map kv)))
inductive sdK (σ : a8) (k start pos : Nat) (l : List Key) (n : Nat) (v' : ai) (s' : a8) : Prop
 | mk (p : Nat) (l' : List Key) (y z : Option Val) (q0 : n = p) (q1 : l'.length = l.length) (q2 : p < l'.length) (q3 : sd (gk l pos) start l' p = sd (gk l pos) start l pos) (q4 : v' = [some (.ref k), some (.int start), some (.int p), some (kv (gk l pos)), y, z]) (q5 : s' = σ.set k (.list (l'.map kv)))
theorem ml (H : Wld K.toKB) {k start pos : Nat} {l : List Key} (hk : σ[k]? = some (.list (l.map kv))) (hp : pos < l.length) (hsz : l.length < 1000) :
  PC K hn (d + 1) σ (.ref 252) [.ref k, .int start, .int pos] [] .none (σ.set k (.list ((sd (gk l pos) start l pos).map kv))) := by
 refine H.def (t := fB) (params := ["heap", "startpos", "pos"]) (rest := ["newitem", "parentpos", "parent"]) (dflt := []) (xB (i := 13) rfl) (oP fun _ _ _ _ _ _ _ => rfl) rfl (by decide +kernel) (aL rfl) rfl rfl rfl fun L H => ?_
 show TSt _ _ _ _ _ _ (execs (ax (stm 38)) _) _;have hkl : k < σ.length := (x7 hk).1;have hsig : σ = σ.set k (.list (l.map kv)) := by
  apply List.ext_getElem?;intro j;by_cases hj : j = k
  ·subst hj; rw [hk, xq hkl]
  rw [xF (Ne.symm hj)]
 refine a9 (ab 3 (aV (a7 0 rfl rfl) (a7 2 rfl rfl) (ar hk) (aq hk (bt hp) (by exact yW (yW ‹_› ‹_›) (by decide)))) rfl (.inl rfl) ?_);refine iv (sdJ σ k start pos l) ?_ ?_
 ·refine dy (sdK σ k start pos l) ?_ pos ⟨pos, l, none, none, rfl, rfl, hp, rfl, rfl, hsig⟩;rintro p v' s' ⟨_, l', y, z, rfl, hl', hpl, hsd, rfl, rfl⟩;have hc := cM σ hkl (.list (l'.map kv));rw [jh] at hsd;refine ⟨decide ((p : Int) > (start : Int)), _, av (a7 2 rfl rfl) (a7 1 rfl rfl) eE, fun hb => ?_, fun hb => ?_⟩
  ·have hb := xY hb;rw [if_neg (by exact fun q => hb (yz q))] at hsd;exact ⟨rfl, p, l', y, z, hl', hpl, hsd, rfl, rfl⟩
  have hb := yg hb;rw [if_pos (by exact Int.ofNat_lt.mp hb)] at hsd;have hpp : (p - 1) / 2 < l'.length := by exact zl hpl
  refine a9 (ab 4 (v := .int (((p - 1) / 2 : Nat) : Int)) (EvE.eq (aS (aS (a7 2 rfl rfl) b7 dK) b7 (q9 (by decide))) (congrArg Val.int (by
   rw [Int.fdiv_eq_ediv_of_nonneg _ (by decide)];show ((p : Int) - 1) / 2 = _;exact zt (zp (Int.ofNat_lt.mp hb))))) rfl (.inl rfl) ?_)
  refine a9 (ab 5 (aV (a7 0 rfl rfl) (a7 4 rfl rfl) (ar hc) (aq hc (bt hpp) (by exact lC hpp (hl' ▸ hsz) rfl))) rfl (.inl rfl) ?_);refine a9 (be (av (a7 3 rfl rfl) (a7 5 rfl rfl) ls) (fun hlt => ?_) (fun hlt => ?_))
  ·rw [if_pos hlt] at hsd;refine a9 (ce (a7 5 rfl rfl) (a7 0 rfl rfl) (a7 2 rfl rfl) hc (j := p) (by rw [yA]; exact hpl) (by exact lC hpl (hl' ▸ hsz) rfl) ?_);refine a9 (ab 2 (a7 4 rfl rfl) rfl (.inl rfl) ?_);refine a9 (lj ⟨(p - 1) / 2, by exact zg (zp (Int.ofNat_lt.mp hb)), (p - 1) / 2, l'.set p (gk l' ((p - 1) / 2)), _, _, rfl, by rw [yB]; exact hl', by rw [yB]; exact hpp, hsd, rfl, ?_⟩);rw [set_set, List.map_set]
  rw [if_neg (by rw [hlt]; decide)] at hsd;exact ak (a9 (uQ ⟨rfl, p, l', _, _, hl', hpl, hsd, rfl, rfl⟩))
 rintro v' s' ⟨p, l', y, z, hl', hpl, hsd, rfl, rfl⟩;have hc := cM σ hkl (.list (l'.map kv));refine a9 (ce (a7 3 rfl rfl) (a7 0 rfl rfl) (a7 2 rfl rfl) hc (j := p) (by rw [yA]; exact hpl) (by lia) (ak ⟨?_, rfl⟩));rw [set_set, ← hsd, List.map_set]
noncomputable def chd (l : List Key) (pos : Nat) : Nat := if 2 * pos + 2 < l.length ∧ kLt (gk l (2 * pos + 1)) (gk l (2 * pos + 2)) = false then 2 * pos + 2 else 2 * pos + 1
theorem fV (l : List Key) (pos : Nat) : pos < chd l pos := by unfold chd; split; exact yj zc; exact yj (Nat.le_mul_of_pos_left pos (Nat.zero_lt_succ 1))
theorem oK {l : List Key} {pos : Nat} (h : 2 * pos + 1 < l.length) : chd l pos < l.length := by unfold chd; split; exact And.left ‹_ ∧ _›; exact h
noncomputable def suN : Nat → List Key → Nat → List Key × Nat
 | 0, l, pos => (l, pos)
 | n + 1, l, pos => if 2 * pos + 1 < l.length then suN n (l.set pos (gk l (chd l pos))) (chd l pos) else (l, pos)
noncomputable def su (l : List Key) (pos : Nat) : List Key × Nat := suN (l.length - pos) l pos
theorem oX {pos c : Nat} (h : m - pos ≤ n + 1) (k : pos < c) (q : 2 * pos + 1 < m) : m - c ≤ n := by exact sM h k
theorem nG : ∀ (n m : Nat) (l : List Key) (pos : Nat), l.length - pos ≤ n → l.length - pos ≤ m → suN n l pos = suN m l pos
 | 0, 0, _, _, _, _ => rfl
 | 0, m + 1, l, pos, h, _ => (if_neg (fun q => yQ _ (xU q (yT (Nat.le_of_sub_eq_zero (Nat.eq_zero_of_le_zero h)) zc)))).symm
 | n + 1, 0, l, pos, _, h => if_neg (by omega)
 | n + 1, m + 1, l, pos, h, k => by
  unfold suN;by_cases q : 2 * pos + 1 < l.length
  ·rw [if_pos q, if_pos q, nG n m _ _ (by rw [yB]; exact oX h (fV l pos) q) (by rw [yB]; exact oX k (fV l pos) q)]
  rw [if_neg q, if_neg q]
theorem ma (l : List Key) (pos : Nat) : su l pos = if 2 * pos + 1 < l.length then su (l.set pos (gk l (chd l pos))) (chd l pos) else (l, pos) := by
 by_cases q : 2 * pos + 1 < l.length
 ·rw [if_pos q];unfold su;rw [yB, nG (l.length - pos) ((l.length - pos - 1) + 1) l pos (z6 _) (sL), nG (l.length - chd l pos) (l.length - pos - 1) _ _ (by rw [yB]; exact z6 _) (by rw [yB]; have := fV l pos; exact Nat.le_sub_one_of_lt (sV q this))];exact if_pos q
 rw [if_neg q];unfold su;cases l.length - pos with
 | zero => rfl
 | succ n => exact if_neg q
@[elab_as_elim] theorem qY {motive : List Key → Nat → Prop} (case1 : ∀ l pos, 2 * pos + 1 < l.length → motive (l.set pos (gk l (chd l pos))) (chd l pos) → motive l pos)
  (case2 : ∀ l pos, ¬ 2 * pos + 1 < l.length → motive l pos) (l : List Key) (pos : Nat) : motive l pos := by
 generalize hn : l.length - pos = n
 induction n using Nat.strongRecOn generalizing l pos with
 | _ n ih =>
  by_cases h : 2 * pos + 1 < l.length
  ·exact case1 l pos h (ih _ (by rw [yB, ← hn]; have := fV l pos; exact sV h this) _ _ rfl)
  exact case2 l pos h
noncomputable def cg (l : List Key) (pos : Nat) : List Key := sd (gk l pos) pos ((su l pos).1.set (su l pos).2 (gk l pos)) (su l pos).2
theorem vd (l : List Key) (pos : Nat) (hp : pos < l.length) : (su l pos).1.length = l.length ∧ (su l pos).2 < l.length ∧ pos ≤ (su l pos).2 := by
 induction l, pos using qY with
 | case1 l pos h ih =>
  rw [ma, if_pos h];have h1 := oK h;have h2 := fV l pos;obtain ⟨i1, i2, i3⟩ := ih (by rw [yB]; exact h1);rw [yB] at i1 i2;exact ⟨i1, i2, by exact yU (xU ‹_› ‹_›)⟩
 | case2 l pos h =>
  rw [ma, if_neg h];exact ⟨rfl, hp, z6 _⟩
theorem vh (x : Key) (start : Nat) (l : List Key) (pos : Nat) : (sd x start l pos).length = l.length := by
 induction l, pos using rj x start with
 | case1 l pos h hl ih => rw [jh, if_pos h, if_pos hl, ih, yB]
 | case2 l pos h hl => rw [jh, if_pos h, if_neg hl, yB]
 | case3 l pos h => rw [jh, if_neg h, yB]
theorem je (l : List Key) (pos : Nat) (hp : pos < l.length) : (cg l pos).length = l.length := by
 unfold cg;rw [vh, yB];exact (vd l pos hp).1
theorem iH {b : Bool} (h : EvB K hn d F vals σ e b σ1) : dS K hn d F vals σ .And [e] b σ1 := by
 cases b with
 | false => exact eg h
 | true => exact dD h iI
theorem all_or_one {b : Bool} (h : EvB K hn d F vals σ e b σ1) : dS K hn d F vals σ .Or [e] b σ1 := by
 cases b with
 | true => exact oR h
 | false => exact i6 h jL
theorem rz {b : Nat} : P2 K hn d σ (binaryOp .Mult) (.int 2) (.int (b : Int)) (.int ((2 * b : Nat) : Int)) σ := by
 have := qb (K := K) (hn := hn) (d := d) (σ := σ) (a := 2) (b := (b : Int)) (IntMulOk.of_left (by decide +kernel));rwa [show (2 : Int) * (b : Int) = ((2 * b : Nat) : Int) by rfl] at this
theorem gc {c : ag} (hk : σ[k]? = some c) : σ = σ.set k c := by
 have hkl : k < σ.length := (x7 hk).1;apply List.ext_getElem?;intro j;by_cases hj : j = k
 ·subst hj; rw [hk, xq hkl]
 rw [xF (Ne.symm hj)]
inductive suJ (σ : a8) (k pos : Nat) (l : List Key) (v' : ai) (s' : a8) : Prop
 | mk (p : Nat) (l' : List Key) (c : Nat) (y : Option Val) (q0 : l'.length = l.length) (q1 : p < l'.length) (q2 : su l pos = (l', p)) (q3 : v' = [some (.ref k), some (.int p), some (.int l.length), some (.int pos), some (kv (gk l pos)), some (.int c), y]) (q4 : s' = σ.set k (.list (l'.map kv)))
@[elab_as_elim] theorem suJ.ind {σ : a8} {k : Nat} {pos : Nat} {l : List Key} {v' : ai} {s' : a8} {motive : ai → a8 → Prop} (h0 : suJ σ k pos l v' s') (k0 : ∀ (p : Nat) (l' : List Key) (c : Nat) (y : Option Val) (q0 : l'.length = l.length) (q1 : p < l'.length) (q2 : su l pos = (l', p)), motive ([some (.ref k), some (.int p), some (.int l.length), some (.int pos), some (kv (gk l pos)), some (.int c), y]) (σ.set k (.list (l'.map kv)))) : motive v' s' := by
 obtain ⟨p, l', c, y, q0, q1, q2, rfl, rfl⟩ := h0;exact k0 _ _ _ _ q0 q1 q2
inductive suK (σ : a8) (k pos : Nat) (l : List Key) (n : Nat) (v' : ai) (s' : a8) : Prop
 | mk (p : Nat) (l' : List Key) (y : Option Val) (q0 : n = l.length - p) (q1 : l'.length = l.length) (q2 : p < l'.length) (q3 : su l pos = su l' p) (q4 : v' = [some (.ref k), some (.int p), some (.int l.length), some (.int pos), some (kv (gk l pos)), some (.int ((2 * p + 1 : Nat) : Int)), y]) (q5 : s' = σ.set k (.list (l'.map kv)))
@[elab_as_elim] theorem suK.ind {σ : a8} {k : Nat} {pos : Nat} {l : List Key} {n : Nat} {v' : ai} {s' : a8} {motive : Nat → ai → a8 → Prop} (h0 : suK σ k pos l n v' s') (k0 : ∀ (p : Nat) (l' : List Key) (y : Option Val) (q1 : l'.length = l.length) (q2 : p < l'.length) (q3 : su l pos = su l' p), motive (l.length - p) ([some (.ref k), some (.int p), some (.int l.length), some (.int pos), some (kv (gk l pos)), some (.int ((2 * p + 1 : Nat) : Int)), y]) (σ.set k (.list (l'.map kv)))) : motive n v' s' := by
 obtain ⟨p, l', y, rfl, q1, q2, q3, rfl, rfl⟩ := h0;exact k0 _ _ _ q1 q2 q3
theorem kn (H : Wld K.toKB) {k pos : Nat} {l : List Key} (hk : σ[k]? = some (.list (l.map kv))) (hp : pos < l.length) (hsz : l.length < 1000) :
  PC K hn (d + 2) σ (.ref 259) [.ref k, .int pos] [] .none (σ.set k (.list ((cg l pos).map kv))) := by
 refine H.def (t := g9) (params := ["heap", "pos"]) (rest := ["endpos", "startpos", "newitem", "childpos", "rightpos"]) (dflt := []) (xB (i := 14) rfl) (cD fun _ _ _ _ _ _ => rfl) rfl (by decide +kernel) (aL rfl) rfl rfl rfl fun L H => ?_
 show TSt _ _ _ _ _ _ (execs (ax (stm 39)) _) _;have hkl : k < σ.length := (x7 hk).1;refine a9 (ab 2 (aj (kl := []) (H.built rfl rfl) (.blt "len") (aa (a7 0 rfl rfl) ac) ao (bk hk (by rw [yA]; exact yT (yU ‹_›) (by decide)))) rfl (.inl rfl) ?_);rw [yA];refine a9 (ab 3 (a7 1 rfl rfl) rfl (.inl rfl) ?_);refine a9 (ab 4 (aV (a7 0 rfl rfl) (a7 1 rfl rfl) (ar hk) (aq hk (bt hp) (yW (yW ‹_› ‹_›) (by decide)))) rfl (.inl rfl) ?_);refine a9 (ab 5 (aS (aS (aR (n := 2)) (a7 1 rfl rfl) rz) (aR (n := 1)) dF) rfl (.inl rfl) ?_);refine iv (suJ σ k pos l) ?_ ?_
 ·refine dy (suK σ k pos l) ?_ (l.length - pos) ⟨pos, l, none, rfl, rfl, hp, rfl, rfl, gc hk⟩;intro n v' s' h0;refine h0.ind fun p l' y hl' hpl hsu => ?_
  have hc := cM σ hkl (.list (l'.map kv));rw [ma l' p] at hsu;refine ⟨decide (((2 * p + 1 : Nat) : Int) < (l.length : Int)), _, av (a7 5 rfl rfl) (a7 2 rfl rfl) gl, fun hb => ?_, fun hb => ?_⟩
  ·have hb := xY hb;rw [if_neg (by exact fun q => hb (yz (hl' ▸ q)))] at hsu;exact ⟨rfl, p, l', _, y, hl', hpl, hsu, rfl, rfl⟩
  have hb := yg hb;have hcl : 2 * p + 1 < l'.length := by exact hl' ▸ Int.ofNat_lt.mp hb
  rw [if_pos hcl] at hsu;have hch := oK hcl;have hcg := fV l' p;refine a9 (ab 6 (aS (a7 5 rfl rfl) (aR (n := 1)) dF) rfl (.inl rfl) ?_);refine nO (w' := [some (.ref k), some (.int p), some (.int l.length), some (.int pos), some (kv (gk l pos)), some (.int ((chd l' p : Nat) : Int)), some (.int ((2 * p + 1 + 1 : Nat) : Int))]) (σ' := σ.set k (.list (l'.map kv))) ?_ ?_
  ·by_cases hr : 2 * p + 2 < l'.length
   ·have hr1 : 2 * p + 1 + 1 < l'.length := by assumption
    refine be (b := !kLt (gk l' (2 * p + 1)) (gk l' (2 * p + 2))) (i5 (dD (EvB.eq (av (a7 6 rfl rfl) (a7 2 rfl rfl) gl) (by rw [yh]; exact yz (hl' ▸ hr)))
     (iH (l6 (av (aV (a7 0 rfl rfl) (a7 5 rfl rfl) (ar hc) (aq hc (bt hcl) (by exact lC (Nat.lt_of_succ_lt hr) (hl' ▸ hsz) rfl))) (aV (a7 0 rfl rfl) (a7 6 rfl rfl) (ar hc) (aq hc (bt hr1) (by exact lC hr (hl' ▸ hsz) rfl))) ls))))) (fun hlt => ?_) (fun hlt => ?_)
    ·have e : chd l' p = 2 * p + 1 + 1 := by
      unfold chd;rw [if_pos ⟨hr, by simpa using hlt⟩]
     rw [e];exact a9 (ab 5 (a7 6 rfl rfl) rfl (.inl rfl) (ak ⟨rfl, rfl, rfl⟩))
    have e : chd l' p = 2 * p + 1 := by
     unfold chd;rw [if_neg (by rintro ⟨_, q⟩; rw [q] at hlt; cases hlt)]
    rw [e];exact ak ⟨rfl, rfl, rfl⟩
   have e : chd l' p = 2 * p + 1 := by
    unfold chd;rw [if_neg (by rintro ⟨q, _⟩; exact hr q)]
   rw [e];exact be (b := false) (i5 (eg (EvB.eq (av (a7 6 rfl rfl) (a7 2 rfl rfl) gl) (by rw [decide_eq_false_iff_not]; exact fun q => hr (hl' ▸ Int.ofNat_lt.mp q))))) nft fun _ => ak ⟨rfl, rfl, rfl⟩
  refine a9 (ce (aV (a7 0 rfl rfl) (a7 5 rfl rfl) (ar hc) (aq hc (bt hch) (by exact lC hch (hl' ▸ hsz) rfl))) (a7 0 rfl rfl) (a7 1 rfl rfl) hc (j := p) (by rw [yA]; exact hpl) (lD zc (yW (Int.ofNat_lt.mp hb) hsz) rfl) ?_);refine a9 (ab 1 (a7 5 rfl rfl) rfl (.inl rfl) ?_);refine a9 (ab 5 (aS (aS (aR (n := 2)) (a7 1 rfl rfl) rz) (aR (n := 1)) dF) rfl (.inl rfl) (ak ?_));refine ⟨l.length - chd l' p, by exact sA hcg (yU (hl' ▸ hch)), chd l' p, l'.set p (gk l' (chd l' p)), _, rfl, by rw [yB]; exact hl', by rw [yB]; exact hch, hsu, rfl, ?_⟩;rw [set_set, List.map_set]
 intro v' s' h0;refine h0.ind fun p l' c y hl' hpl hsu => ?_
 have hc := cM σ hkl (.list (l'.map kv));refine a9 (ce (a7 4 rfl rfl) (a7 0 rfl rfl) (a7 1 rfl rfl) hc (j := p) (by rw [yA]; exact hpl) (by exact lC hpl (hl' ▸ hsz) rfl) ?_);rw [set_set, ← List.map_set];have hg : gk (l'.set p (gk l pos)) p = gk l pos := by
  unfold gk;rw [xq hpl]; rfl
 have hd := ml (d := d) (σ := σ.set k (.list ((l'.set p (gk l pos)).map kv))) (hn := hn) H (k := k) (start := pos) (pos := p) (cM σ hkl _) (by rw [yB]; exact hpl) (by rw [yB]; exact hl' ▸ hsz);rw [hg, set_set] at hd;refine a9 (ci (aj (kl := []) (H.name (v := .glob (.ref 252)) rfl rfl) (H.callee (t := fB) (xB (i := 13) rfl)) (aa (a7 0 rfl rfl) (aa (a7 3 rfl rfl) (aa (a7 1 rfl rfl) ac))) ao hd) rfl (ak ⟨?_, rfl⟩));unfold cg;rw [hsu]
open PySem.Builtin
theorem iL : isSubtype (.type "range_iterator") (.type "reversed") = pure false := by rw [isSubtype_type]; kernel_rfl
noncomputable def db (n : Int) : Obj := { cls := .type "range_iterator", data := .fields #[rawInt (n - 1), rawInt n, rawInt (-1)] }
section
variable {w : World} {A : Around} {E : Value → Shared → Prop} {s : Shared}
theorem fv {r : Addr} {n : Int} {u v : Tok} (hr : IsRange s.heap r 0 n 1 t u v) (hn0 : 0 ≤ n) (hn : n < 2 ^ 40)
  (h : Q (.ref s.heap.objs.size) { s with heap := s.heap.push (db n) }) : wpAny (model pw w) A (call (.builtin "range.__reversed__") [.ref r]) Q E s := by
 have hT : s.TypeIs (.ref r) "range" := ⟨_, hr, rfl⟩
 refine wpAny_call_entry PySem.F.slot_range_reversed hT PySem.F.entry_range_reversed ?_ (PySem.F.args_range_reversed_1 _);unfold Builtin.«range.__reversed__»;refine za (z9 (a := Value.ref r) rfl ?_);unfold Range.rangeFields;refine za (za (wpAny_field hr rfl (x := .int 0 t) rfl ?_));refine za (z9 (a := some 0) rfl ?_);refine za (wpAny_field hr rfl (x := .int n u) rfl ?_);refine za (z9 (a := some n) rfl ?_);refine za (wpAny_field hr rfl (x := .int 1 v) rfl ?_);refine za (z9 (a := some 1) rfl ?_);refine zb ?_;dsimp only;have e1 : Range.rangeSize 0 n 1 = n := by
  rw [rangeSize_one];split <;> lia
 rw [e1];have e2 : (Range.rangeFitsLong 0 && Range.rangeFitsLong n && Range.rangeFitsLong 1 && Range.rangeFitsLong (-1) && Range.rangeFitsLong (0 - 1) && Range.rangeFitsLong n) = true := by
  unfold Range.rangeFitsLong;simp only [yu, yh];exact (fun (A : -2 ^ 63 ≤ n ∧ n < 2 ^ 63) => ⟨⟨⟨⟨⟨by decide, A⟩, by decide⟩, by decide⟩, by decide⟩, A⟩) ⟨Int.le_trans (by decide) hn0, Int.lt_trans hn (by decide)⟩
 rw [e2];refine wpAny_ite_false rfl ?_;refine za ?_;have e3 : (0 : Int) + (n - 1) * 1 = n - 1 := by lia
 rw [e3];exact wpAny_newObj_type (zb ⟨_, rfl, h⟩)
theorem fq {r : Addr} {n : Int} {u v : Tok} {Q₁ : Value → Shared → Prop} (hr : IsRange s.heap r 0 n 1 t u v) (hn0 : 0 ≤ n) (hn : n < 2 ^ 40)
  (h : Q₁ (.ref s.heap.objs.size) { s with heap := s.heap.push (db n) }) :
  codeAny (model pw w) A (.call (.builtin "reversed.__new__") ⟨[.type "reversed", .ref r], []⟩) (wants Q₁ E) s := by
 have hT : s.TypeIs (.ref r) "range" := ⟨_, hr, rfl⟩
 refine codeAny_of_tree ?_;show wpAny _ A.in1 (do checkBuiltinCall "reversed.__new__" ⟨[.type "reversed", .ref r], []⟩; again (.builtin "reversed.__new__" ⟨[.type "reversed", .ref r], []⟩)) _ _ s;refine za (z9 (PySem.F.newCall_reversed_1 _) (zb ⟨plainId_quiet PySem.F.plain_reversed_new _, codeAny_builtin PySem.F.entry_reversed_new ?_⟩));rw [xD PySem.F.plain_reversed_new _];unfold Builtin.«reversed.__new__»;refine za (z9 (newClass_reversed _) ?_)
 try dsimp only
 refine za (z9 (a := ()) (by first | rfl | kernel_rfl) ?_);refine za (z9 (a := ()) (by first | rfl | kernel_rfl) ?_)
 try dsimp only
 refine za (wpAny_specialOf hT PySem.F.slot_range_reversed.lookup ?_)
 try dsimp only
 refine za (z9 (PySem.F.slot_range_reversed.bind _) ?_)
 try dsimp only
 first
 | rw [if_neg (show ¬ ((Value.builtin "range.__reversed__" == Value.none) = true) from xS)]
 | (show wpAny _ _ (if (Value.builtin "range.__reversed__" == Value.none) = true then _ else _) _ _ _; rw [if_neg (show ¬ ((Value.builtin "range.__reversed__" == Value.none) = true) from xS)])
 refine za (wpAny_rule ?_);refine za (m := runValue (.call (.builtin "range.__reversed__") ⟨[.ref r], []⟩)) (show wpAny _ _ (call (.builtin "range.__reversed__") [.ref r]) _ _ _ from fv hr hn0 hn ?_)
 first
 | exact zb h
 | exact za (zb (zb h))
theorem ft {r : Addr} {n : Int} {u v : Tok} (hr : IsRange s.heap r 0 n 1 t u v) (hn0 : 0 ≤ n) (hn : n < 2 ^ 40)
  (h : Q (.ref s.heap.objs.size) { s with heap := s.heap.push (db n) }) : wpAny (model pw w) A (call (.type "reversed") [.ref r]) Q E s := by
 refine callType_other (U := "range_iterator") (Q₁ := fun obj s₁ => obj = .ref s.heap.objs.size ∧ s₁ = { s with heap := s.heap.push (db n) }) (by decide +kernel) PySem.F.create_reversed ⟨_, _, PySem.F.mro_reversed⟩ PySem.F.made_reversed iL (PySem.F.typeCall_reversed_1 _) (fq hr hn0 hn ⟨rfl, rfl⟩) ?_;rintro obj s₁ ⟨rfl, rfl⟩;exact ⟨⟨_, xL _ rfl, rfl⟩, h⟩
theorem dz {x left step : Int} (hit : IsRangeIter s.heap it x left step) (h : Q (.ref it) s) : wpAny (model pw w) A (pyIter (.ref it)) Q E s := by
 have hT : s.TypeIs (.ref it) "range_iterator" := ⟨_, hit, rfl⟩
 refine wpAny_pyIter_slot hT PySem.F.slot_range_iterator_iter (wpAny_call_entry PySem.F.slot_range_iterator_iter hT PySem.F.entry_range_iterator_iter ?_ (PySem.F.args_range_iterator_iter_1 _));show wpAny _ _ (ret (.ref it)) _ _ s;exact zb ⟨_, rfl, "range_iterator", _, hT, PySem.F.slot_range_iterator_next.lookup, h⟩
end
theorem mP {nm : Str} (hf : EvE K true d F vals σ (.Name nm p1) (.glob (.type "reversed")) σ) (hr : TV K true d F vals σ (eval e F.env) (ei 0 (n : Int) 1) σ1) (hn : n < 2 ^ 30)
  (he : starEach [e] F.env = [(false, eval e F.env)] := by rfl) : eR K d F vals σ (.Call (.Name nm p1) [e] [] pos) (bd K ((n : Int) - 1) (-1) n) σ1 := fun A φ s R G I Q E hQ => by
 refine wpAny_Call_Name_kw (hf A φ s R G I _ _ fun φ0 s0 V0 X0 G0 r0 => ?_);unfold RV at r0;subst r0;have I0 := I.ext G X0;refine aT (K := K) (.typ _) ?_ ?_
 ·rw [he]; rfl
 have ha' : ∀ (Q' : List Value → Shared → Prop) (E' : Value → Shared → Prop), (∀ φ1 s1 V, Ext φ0 s0 φ1 s1 → af K φ1 σ1 s1 → ei 0 (n : Int) 1 φ1 s1.heap V → Q' [V] s1) → wpAny (model pw K.w) A (spliced (backTo pos (starEach [e] F.env))) Q' E' s0 := fun Q' E' h => wpAny_items_cons (hr A φ0 s0 R G0 I0 _ _ fun φ1 s1 V X1 G1 r1 => wpAny_items_nil (h φ1 s1 V X1 G1 r1)) he
 rw [he] at ha' ⊢;refine evalArgs_kw rfl (ha' _ _ fun φ1 s1 V X1 G1 r1 => wpAny_evalAll_nil ?_);obtain ⟨r, t, u, v, rfl, hrr⟩ := r1;refine ⟨G1.base, ft hrr (by lia) (by lia) ?_⟩;have X := (X0.trans X1).trans (Ext.push φ1 s1 (db n));have hget : IsRangeIter (s1.heap.push (db n)) s1.heap.objs.size ((n : Int) - 1) (n : Int) (-1) := xL _ rfl;refine dz (s := { s1 with heap := s1.heap.push (db n) }) hget ?_;refine hQ φ1 _ _ X (G1.push _) (yT X0.size X1.size) (fun q => absurd (G1.hi _ q).2 (yQ _)) ?_;show IsRangeIter _ _ _ _ _;simpa using hget
noncomputable def hpf (l : List Key) : Nat → List Key
 | 0 => l
 | j + 1 => cg (hpf l j) (l.length / 2 - 1 - j)
noncomputable def bJ (l : List Key) : List Key := hpf l (l.length / 2)
theorem iV (l : List Key) : ∀ j, j ≤ l.length / 2 → (hpf l j).length = l.length
 | 0, _ => rfl
 | j + 1, h => by
  have ih := iV l j (yU ‹_›);show (cg (hpf l j) _).length = _;rw [je _ _ (zs h ih), ih]
noncomputable def fG (l : List Key) (x : Key) : Key × List Key := if l = [] then (x, []) else (gk l 0, cg (l.set 0 x) 0)
theorem ku {hn : Bool} {x : Str} {k : Nat → Nat} {u : _} (hP : P .next vals σ) : TSt K hn d F vals σ (exec (.Expr (.Constant (.str x) u p) pos) F.env) P := fun A φ s R G I Q E hQ => by
 have hi : interactive F.env = false := by unfold interactive; rw [I.fn]; rfl
 refine wpAny_Expr (bi (K := K) (hn := hn) (d := d) (F := F) (vals := vals) (σ := σ) A φ s R G I _ _ fun φ1 s1 V X1 G1 r1 => ?_) hi rfl;unfold RV at r1;obtain ⟨t, rfl⟩ := r1;exact hQ φ1 s1 .next .next vals σ (X1.toS _) G1 (I.ext G X1) rfl hP
inductive hfJ (σ : a8) (k : Nat) (l : List Key) (j : Nat) (v' : ai) (s' : a8) : Prop
 | mk (y : Option Val) (q0 : j ≤ l.length / 2) (q1 : v' = [some (.ref k), some (.int l.length), y]) (q2 : s' = σ.set k (.list ((hpf l j).map kv)))
theorem oz (H : Wld K.toKB) {k : Nat} {l : List Key} (hk : σ[k]? = some (.list (l.map kv))) (hsz : l.length < 1000) :
  PC K true (d + 3) σ (.ref 245) [.ref k] [] .none (σ.set k (.list ((bJ l).map kv))) := by
 refine H.def (t := gN) (params := ["x"]) (rest := ["n", "i"]) (dflt := []) (xB (i := 12) rfl) (eM fun _ _ _ _ _ => rfl) rfl (by decide +kernel) (aL rfl) rfl rfl rfl fun L H => ?_
 show TSt _ _ _ _ _ _ (execs (ax (stm 37)) _) _;have hkl : k < σ.length := (x7 hk).1;refine a9 (ku (k := id) ?_);refine a9 (ab 1 (aj (kl := []) (H.built rfl rfl) (.blt "len") (aa (a7 0 rfl rfl) ac) ao (bk hk (by rw [yA]; exact yT (yU ‹_›) (by decide)))) rfl (.inl rfl) ?_);rw [yA];have hdiv : ((l.length : Int)).fdiv ((2 : Nat) : Int) = ((l.length / 2 : Nat) : Int) := by
  rw [Int.fdiv_eq_ediv_of_nonneg _ (by decide)];rfl
 have hdv : ∀ K' : KC, P2 K' true (d + 2) σ (binaryOp .FloorDiv) (.int (l.length : Int)) (.int ((2 : Nat) : Int)) (.int ((l.length / 2 : Nat) : Int)) σ := fun K' => hdiv ▸ lu (z8 _) (yF _ _)
 refine a9 (gf (ix := 2) (mP (n := l.length / 2) (H.built rfl rfl) (cH (H.built rfl rfl) (.typ "range") (aa (aS (a7 1 rfl rfl) (aR (n := 2)) (hdv _)) ac) jE) (lD (Nat.div_le_self ..) hsz rfl)) rfl (.inl rfl) (hfJ σ k l) ⟨none, z7 _, rfl, gc hk⟩ (fun _ _ _ _ => trivial) ?_ ?_)
 ·rintro j v' s' ⟨y, hj, rfl, rfl⟩ hit;have hj' : j = l.length / 2 := by
   have : (if j < l.length / 2 then some (Val.int (((l.length / 2 : Nat) : Int) - 1 + (j : Int) * (-1))) else none) = none := hit;split at this
   ·cases this
   exact yE hj (yS ‹_›)
  subst hj';exact ak ⟨rfl, rfl⟩
 rintro j v' s' v ⟨y, hj, rfl, rfl⟩ hit;have hv : j < l.length / 2 ∧ v = .int ((l.length / 2 - 1 - j : Nat) : Int) := by
  have : (if j < l.length / 2 then some (Val.int (((l.length / 2 : Nat) : Int) - 1 + (j : Int) * (-1))) else none) = some v := hit;split at this
  ·rename_i hlt;cases this;exact ⟨hlt, congrArg Val.int (sY hlt)⟩
  cases this
 obtain ⟨hlt, rfl⟩ := hv;have hlen := iV l j ‹_›;have hs := kn (d := d) (hn := true) (σ := σ.set k (.list ((hpf l j).map kv))) H (pos := l.length / 2 - 1 - j) (cM σ hkl _) (zs hlt hlen) (lE hlen hsz rfl);rw [set_set] at hs;exact a9 (ci (aj (kl := []) (H.name (v := .glob (.ref 259)) rfl rfl) (H.callee (t := g9) (xB (i := 14) rfl)) (aa (a7 0 rfl rfl) (aa (a7 2 rfl rfl) ac)) ao hs) rfl (ak ⟨_, by assumption, rfl, rfl⟩))
theorem ow (H : Wld K.toKB) {k : Nat} {l : List Key} {x : Key} (hk : σ[k]? = some (.list ((l ++ [x]).map kv))) (hsz : l.length < 900) :
  PC K true (d + 3) σ (.ref 238) [.ref k] [] (kv (fG l x).1) (σ.set k (.list ((fG l x).2.map kv))) := by
 refine H.def (t := gL) (params := ["heap"]) (rest := ["lastelt", "returnitem"]) (dflt := []) (xB (i := 11) rfl) (eM fun _ _ _ _ _ => rfl) rfl (by decide +kernel) (aL rfl) rfl rfl rfl fun L H => ?_
 show TSt _ _ _ _ _ _ (execs (ax (stm 36)) _) _;have hkl : k < σ.length := (x7 hk).1;have hsl : (2 : Nat) ^ 20 ≤ sizeLine := by decide
 refine a9 (ku (k := id) ?_);rw [yC] at hk;refine a9 (ab 1 (pC (a7 0 rfl rfl) (cw hk PySem.F.slot_list_pop PySem.F.type_list_pop) (.blt _) (uW hk (by rw [yA]; exact yW ‹_› (by decide)))) rfl (.inl rfl) ?_);have hc := cM σ hkl (.list (l.map kv));have ht := fun K' : KC => qU (K := K') (hn := true) (d := d + 2) hc (by rw [yA]; exact yT (yU ‹_›) (by decide))
 by_cases hl : l = []
 ·subst hl;exact a9 (be (b := false) (dp (a7 0 rfl rfl) (ht _)) nft fun _ => ak (a9 (bm (a7 1 rfl rfl) ⟨rfl, rfl⟩)))
 have hpos : 0 < l.length := by
  cases l with
  | nil => exact absurd rfl hl
  | cons => simp
 have hb : (!(l.map kv).isEmpty) = true := by cases l <;> first | exact absurd rfl hl | rfl
 simp only [hb] at ht;refine a9 (be (b := true) (dp (a7 0 rfl rfl) (ht _)) (fun _ => ?_) ntf);refine a9 (ab 2 (aV (a7 0 rfl rfl) (aR (n := 0)) (ar hc) (aq hc (bt hpos) (yF _ _))) rfl (.inl rfl) ?_);refine a9 (ce (a7 1 rfl rfl) (a7 0 rfl rfl) (aR (n := 0)) hc (j := 0) (by rw [yA]; exact hpos) (yF _ _) ?_);rw [set_set, ← List.map_set];have hs := kn (d := d) (hn := true) (σ := σ.set k (.list ((l.set 0 x).map kv))) H (pos := 0) (cM σ hkl _) (by rw [yB]; exact hpos) (by rw [yB]; exact xU ‹_› (yF _ _));rw [set_set] at hs;refine a9 (ci (aj (kl := []) (H.name (v := .glob (.ref 259)) rfl rfl) (H.callee (t := g9) (xB (i := 14) rfl)) (aa (a7 0 rfl rfl) (aa b7 ac)) ao hs) rfl ?_);refine a9 (bm (a7 2 rfl rfl) ⟨?_, ?_⟩)
 ·unfold fG; rw [if_neg hl]
 unfold fG; rw [if_neg hl]
noncomputable def aW (scope : Scope) (cl : List (Str × Addr)) (env : Env) (names : List Str) (C : Addr) : Frm := ⟨compEnvC scope cl C env, [C], names⟩
noncomputable def ic (env : Env) : List (Str × Addr) → Prop
 | [] => True
 | p :: l => (env.cells.lookup p.1 = some p.2 ∧ env.kindOf p.1 = some .cell) ∧ ic env l
theorem ic.get {env : Env} : ∀ {cl : List (Str × Addr)} {x : Str} {c : Addr}, ic env cl → cl.lookup x = some c → env.cells.lookup x = some c ∧ env.kindOf x = some .cell
 | p :: l, x, c, h, e => by
  rw [List.lookup_cons] at e;split at e
  ·rename_i q;have : x = p.1 := by simpa using q
   subst this;cases e;exact h.1
  exact ic.get h.2 e
noncomputable def cF (F : Frm) (vals : ai) (cl : List (Str × Addr)) : List (Str × Nat × Val) → Prop
 | [] => True
 | p :: l => (F.names[p.2.1]? = some p.1 ∧ vals[p.2.1]? = some (some p.2.2) ∧ (cl.lookup p.1).isSome = true) ∧ cF F vals cl l
theorem cF.get {F : Frm} {vals : ai} {cl : List (Str × Addr)} : ∀ {l : List (Str × Nat × Val)} {i : Nat} {p : Str × Nat × Val}, cF F vals cl l → l[i]? = some p → F.names[p.2.1]? = some p.1 ∧ vals[p.2.1]? = some (some p.2.2) ∧ (cl.lookup p.1).isSome = true
 | q :: l, 0, p, h, e => by cases e; exact h.1
 | q :: l, i + 1, p, h, e => cF.get (l := l) (i := i) h.2 e
theorem te {s : Shared} {h1 : Heap} (G : af K φ σ s) (I : aM K F vals φ s.heap) (hcl : ic F.env cl) (hfr : cF F vals cl fr)
  (hkind : scope.kind = .function) (hnod : (locs ++ fr.map (·.1)).Nodup) (hcell : ∀ p ∈ fr, (relabel scope F.env).names.lookup p.1 = some .cell)
  (hns : h1.Ns s.heap.objs.size fun _ => none) (hk : ∀ b o, s.heap.get? b = some o → h1.get? b = some o) :
  aM K (aW scope cl F.env (locs ++ fr.map (·.1)) s.heap.objs.size) (List.replicate locs.length none ++ fr.map fun p => some p.2.2) φ h1 := by
 have hlt : ∀ b o, s.heap.get? b = some o → b < s.heap.objs.size := fun b o e => al e
 have cellOf : ∀ x c, cl.lookup x = some c → c ≠ s.heap.objs.size ∧ ∃ v, s.heap.IsCell c v := fun x c e => by
  obtain ⟨h1, h2⟩ := hcl.get e;obtain ⟨_, v, hc⟩ := I.cell x c h2 h1;obtain ⟨o, ho, hd⟩ := id hc;exact ⟨yZ (hlt c o ho), v, hc⟩
 refine ⟨hkind, I.glb, I.blt, hnod, xT .., fun a ha => ?_, by simp [aW], fun x c h1' h2' => ?_, fun x y c h1' h2' => ?_, _, hns, fun i x v h1' h2' => ?_⟩
 ·have ha : a = s.heap.objs.size := by simpa [aW] using ha
  subst ha;obtain ⟨o, es, n, e, hd, _⟩ := hns;exact ⟨G.grown, fun q => absurd (G.hi _ q).2 (yQ _), o, e, ⟨fun xs n' q => by rw [hd] at q; (cases q), fun vs q => by rw [hd] at q; (cases q)⟩⟩
 ·obtain ⟨q1, v, o, ho, hd⟩ := cellOf x c h2';exact ⟨q1, v, o, hk c o ho, hd⟩
 ·exact I.inj x y c (hcl.get h1').1 (hcl.get h2').1
 have h1' : (locs ++ fr.map (·.1))[i]? = some x := h1';rcases z0 i locs.length with q | q
 ·rw [xc (by simpa using q), List.getElem?_replicate] at h2';split at h2' <;> cases h2'
 rw [x9 q, ye] at h1';rw [x9 (by simpa using q), List.length_replicate, ye] at h2';obtain ⟨p, hp, rfl⟩ := xf h1';rw [hp] at h2';have hv : p.2.2 = v := by cases h2'; rfl
 subst hv;obtain ⟨g1, g2, g3⟩ := hfr.get hp;obtain ⟨c, hc⟩ := Option.isSome_iff_exists.mp g3;obtain ⟨e1, e2⟩ := hcl.get hc;obtain ⟨m, hm, hvar⟩ := I.var;obtain ⟨V, hV, rV⟩ := hvar p.2.1 p.1 p.2.2 g1 g2;refine ⟨V, .inr ⟨c, .inl (hcell p (xB hp)), hc, ?_⟩, rV.keep (fun b o e _ => hk b o e) ⟨[], by simp⟩⟩;rcases hV with ⟨k1, _⟩ | ⟨c', _, k2, o, ho, hd⟩
 ·rw [e2] at k1; cases k1
 rw [e1] at k2; cases k2;exact ⟨o, hk c o ho, hd⟩
def cW (K : KC) (d : Nat) (F : Frm) (vals : ai) (σ : a8) (ifs : List Expr) (b : Bool) (σ' : a8) : Prop :=
 TV K true d F vals σ (forIn ifs true fun c r => if r = true then do let ok ← isTrue c F.env (eval c F.env); pure (ForInStep.yield ok) else pure (ForInStep.yield r)) (fun _ _ b' => b' = b) σ'
theorem cc : cW K d F vals σ [] true σ := fun A φ s R G I Q E hQ => by
 rw [List.forIn_nil];exact zb (hQ φ s true (Ext.refl ..) G rfl)
theorem cr {c : Expr} {b : Bool} (h : EvB K true d F vals σ c b σ1) : cW K d F vals σ [c] b σ1 := fun A φ s R G I Q E hQ =>
 wpAny_tests_one (h A φ s R G I _ _ fun φ1 s1 b' X1 G1 r1 => hQ φ1 s1 b' X1 G1 r1)
theorem lc {x : Str} {hn : Bool} (hix : F.names[i]? = some x) (hb : Bnd F x) (hP : Pu (vals.set i (some v)) σ) : TA K hn d F vals σ v (assign (.Name x p) F.env) Pu := fun A φ s V R G I r Q E hQ =>
 wpAny_assign_Name (aN G I hix hb r fun s2 X2 G2 I2 => hQ φ s2 _ _ X2 G2 I2 hP)
def tJ (K : KC) (d : Nat) (F : Frm) (n1 : Nat) (acc : Value) (vals : ai) (σ : a8) (rest : Sem Fin) (c : Code) (J : ai → a8 → Prop) : Prop :=
 ∀ (A : Around) (φ : List Addr) (s : Shared), bj K true d A → af K φ σ s → aM K F vals φ s.heap → RV φ s.heap (.ref n1) acc → ∀ (Q : Fin → Shared → Prop) (E : Value → Shared → Prop),
  (∀ φ' s' vals' σ', bo F.own φ s φ' s' → af K φ' σ' s' → aM K F vals' φ' s'.heap → J vals' σ' → Q (.again c) s') → wpAny (model pw K.w) A rest Q E s
structure jN (own φ : List Addr) (it : Addr) (s : Shared) (φ' : List Addr) (s' : Shared) : Prop where
 keep : ∀ b o, s.heap.get? b = some o → b ∉ φ → b ∉ own → b ≠ it → i8 s'.heap b o
 size : s.heap.objs.size ≤ s'.heap.objs.size
 more : tG φ s φ'
structure fY (K : KC) (F : Frm) (T : aZ K) (i : Nat) (vals : ai) (σ : a8) (φ : List Addr) (s : Shared) (it : Addr) : Prop where
 G : af K φ σ s
 I : aM K F vals φ s.heap
 at_ : T.At i φ s.heap it
 off : it ∉ φ
 own : it ∉ F.own
 hi : K.h0.objs.size ≤ it
inductive CoJ (K : KC) (F : Frm) (T : aZ K) (it : Addr) (φ : List Addr) (s : Shared) (J : Nat → ai → a8 → Prop) (s' : Shared) : Nat → Prop
 | mk (i : Nat) (φ' : List Addr) (v' : ai) (σ' : a8) (k : jN F.own φ it s φ' s') (l : fY K F T i v' σ' φ' s' it) (j : J i v' σ') : CoJ K F T it φ s J s' (T.bound - i)
theorem dP {gens : List Comprehension} {depth : Nat} {target : Expr} {rest : Sem Fin} {T : aZ K} (hturn : compTurn (.ListComp elt gens scope pos) depth (.ref it) acc F.env = (do
   standAt p
   match ← pyNext (.ref it) with
   | none => pure (.done .next)
   | some v => do letOwnedTupleGo target (.ref it) v; assign target F.env v; rest))
  (J : Nat → ai → a8 → Prop) (hok : ∀ i v σ, J i v σ → T.ok σ)
  (hlet : ∀ (A : Around) (i : Nat) (φ : List Addr) (s : Shared) (it : Addr) (v : Value) (Q : Unit → Shared → Prop) (E : Value → Shared → Prop), T.At i φ s.heap it → Q () s → wpAny (model pw K.w) A (letOwnedTupleGo target (.ref it) v) Q E s)
  (turn : ∀ i v0 σ v, J i v0 σ → T.item i σ = some v → TA K true d F v0 σ v (assign target F.env) (fun v1 σ1 => tJ K d F n1 acc v1 σ1 rest (.compLoop (.ListComp elt gens scope pos) depth (.ref it) acc F.env) (J (i + 1))))
  {A : Around} {φ : List Addr} {s : Shared} {i0 : Nat} (Ro : bj K true d A) (L0 : fY K F T i0 vals σ φ s it)
  (racc : RV φ s.heap (.ref n1) acc) (j0 : J i0 vals σ) {R : Result → Shared → Prop}
  (hR : ∀ φ' s' vals' σ' i', jN F.own φ it s φ' s' → af K φ' σ' s' → aM K F vals' φ' s'.heap → J i' vals' σ' → T.item i' σ' = none → R (.ok .next) s') :
  codeAny (model pw K.w) A (.compLoop (.ListComp elt gens scope pos) depth (.ref it) acc F.env) R s := by
 refine codeAny_loop rfl (fun n s' => CoJ K F T it φ s J s' n) (fun n s3 hI => ?_) (T.bound - i0) ⟨i0, φ, vals, σ, ⟨fun b o e _ _ _ => .inl e, z6 _, [], by simp, by simp⟩, L0, j0⟩;show wpAny _ A ((compTurn (.ListComp elt gens scope pos) depth (.ref it) acc F.env).onRaise (fun x => do noteFrame x F.env; theTreesLotGoes x)) _ _ s3;refine wpAny_noted ?_;rw [hturn];refine CoJ.rec (fun i φ3 v3 σ3 k3 l3 j3 => ?_) hI;obtain ⟨K3, Z3, new3, e3, hn3⟩ := k3;obtain ⟨G3, I3, hat3, hit3, hitown, hithi⟩ := l3;obtain ⟨oi, hoi, ⟨hoic, hoid⟩, hoit⟩ := T.obj _ _ _ _ hat3;have hndd : ∀ o es n, s3.heap.get? it = some o → o.data ≠ .dict es n := fun o es n e => by rw [hoi] at e; cases e; exact hoid es n
 have hnt : ∀ o, s3.heap.get? it = some o → o.cls ≠ .type "tuple" ∧ o.cls ≠ .ref 387 := fun o e => by rw [hoi] at e; cases e; exact hoit
 have hnc : ∀ o v, s3.heap.get? it = some o → o.data ≠ .cell v := fun o v e => by rw [hoi] at e; cases e; exact hoic v
 refine za (wpAny_standAt (za ?_));refine aU (T.next Ro G3 (hok _ _ _ j3) hat3 hit3 (fun he s4 hk4 ho4 hg4 hz4 => ?_) (fun v hv s4 V hk4 ho4 hg4 hat4 rv4 hz4 => ?_))
 ·exact zb (hR φ3 s4 v3 σ3 i ⟨fun b o e q1 q2 q3 => (K3 b o e q1 q2 q3).trans fun o' e' => .inl (hk4 b o' q3 e'), yT Z3 hz4, new3, e3, hn3⟩ (G3.but hit3 hithi hnt hndd hk4 hz4 ho4 hg4) (I3.but G3 hitown hnc hnt hk4) j3 he)
 have G4 : af K φ3 σ3 s4 := G3.but hit3 hithi hnt hndd hk4 hz4 ho4 hg4;have I4 : aM K F v3 φ3 s4.heap := I3.but G3 hitown hnc hnt hk4;refine za (hlet _ _ _ _ _ _ _ _ hat4 ?_);refine za (turn i v3 σ3 v j3 hv A φ3 s4 V Ro G4 I4 rv4 _ _ fun φ5 s5 v5 σ5 X5 G5 I5 p5 => ?_);obtain ⟨new5, e5, _⟩ := X5.more;have racc5 : RV φ5 s5.heap (.ref n1) acc := by
  unfold RV at racc ⊢;obtain ⟨a, ea, r⟩ := racc;exact ⟨a, by rw [e5, e3, yf, xc (x7 ea).1]; exact ea, r⟩
 refine p5 A φ5 s5 Ro G5 I5 racc5 _ _ fun φ7 s7 v7 σ7 X57 G7 I7 j7 => ⟨rfl, ?_⟩
 have hlt := T.ends _ _ _ (hok _ _ _ j3) hv;obtain ⟨o4, ho4', ⟨_, hnd4⟩, _⟩ := T.obj _ _ _ _ hat4;have X := X5.trans X57;obtain ⟨new7, e7, hn7⟩ := X.more;have keepit : s7.heap.get? it = s4.heap.get? it := ((X.keep it o4 ho4' hit3 hitown).exact hnd4).trans ho4'.symm;refine ⟨T.bound - (i + 1), by exact xI _ _ hlt, i + 1, φ7, v7, σ7, ⟨fun b o e q1 q2 q3 => (K3 b o e q1 q2 q3).trans fun o' e' => X.keep b o' (hk4 b o' q3 e') (fun q => ?_) q2, yT Z3 (yT hz4 X.size), new3 ++ new7, by rw [e7, e3, yf], fun a ha => ?_⟩, ⟨G7, I7, ?_, ?_, hitown, hithi⟩, j7⟩
 ·rw [e3] at q;rcases yd q with q | q
  ·exact q1 q
  exact absurd (al e) (yO (hn3 b q))
 ·rcases yd ha with q | q
  ·exact hn3 a q
  exact yT (yT Z3 hz4) (hn7 a q)
 ·exact T.stable _ _ _ _ _ _ hat4 keepit (fun b o e hc hd => (X.keep b o e (G4.off e hc) (I4.ownOff e hd)).exact fun es n q => by obtain ⟨xs, m, hd⟩ := hd; rw [hd] at q; cases q) ⟨new7, e7⟩
 rw [e7];intro q;rcases yd q with q | q
 ·exact hit3 q
 exact absurd (al ho4') (yO (hn7 it q))
noncomputable def t5 (elt : Expr) (ifs : List Expr) (acc : Value) (env : Env) (c : Code) : Sem Fin := do
 let mut ok := true
 for x in ifs do
  if ok then ok ← isTrue x env (eval x env)
 if ok then
  (do let _ ← call (.builtin "list.append") [acc, ← eval elt env])
 again c
theorem j6 (elt target iter : Expr) (ifs : List Expr) (scope : Scope) (pos : Pos) (it acc : Value) (env : Env) : compTurn (.ListComp elt [⟨target, iter, ifs, 0⟩] scope pos) 0 it acc env = (do
   standAt iter.pos
   match ← pyNext it with
   | none => pure (.done .next)
   | some v => do letOwnedTupleGo target it v; assign target env v; t5 elt ifs acc env (.compLoop (.ListComp elt [⟨target, iter, ifs, 0⟩] scope pos) 0 it acc env)) := by rfl
inductive EltT (K : KC) (d : Nat) (F : Frm) (n1 : Nat) (J : ai → a8 → Prop) (vals : ai) (σ2 : a8) (elt : Expr) : Prop
 | mk (y : Val) (σ3 : a8) (l : List Val) (he : EvE K true d F vals σ2 elt y σ3) (hl : σ3[n1]? = some (.list l)) (hll : l.length < 2 ^ 20) (hj : J vals (σ3.set n1 (.list (l ++ [y]))))
inductive TstT (K : KC) (d : Nat) (F : Frm) (n1 : Nat) (J : ai → a8 → Prop) (vals : ai) (σ : a8) (ifs : List Expr) (elt : Expr) : Prop
 | mk (b : Bool) (σ2 : a8) (h : cW K d F vals σ ifs b σ2) (h0 : b = false → J vals σ2) (h1 : b = true → EltT K d F n1 J vals σ2 elt)
theorem ff {c : Code} {J : ai → a8 → Prop} (h : TstT K d F n1 J vals σ ifs elt) : tJ K d F n1 acc vals σ (t5 elt ifs acc F.env c) c J := fun A φ s Ro G I racc Q E hQ => by
 have hsl : (2 : Nat) ^ 20 ≤ sizeLine := by decide
 obtain ⟨b, σ6, ht, hb0, hb1⟩ := h;refine za (ht A φ s Ro G I _ _ fun φ6 s6 b' X6 G6 r6 => ?_);have r6 : b' = b := r6;subst r6;have I6 := I.ext G X6;cases b' with
 | false => exact zb (hQ φ6 s6 vals σ6 (X6.toS _) G6 I6 (hb0 rfl))
 | true =>
  obtain ⟨y, σ7, l, he, hl, hll, j7⟩ := hb1 rfl;refine za (za (he A φ6 s6 Ro G6 I6 _ _ fun φ7 s7 Y X7 G7 r7 => ?_));have racc7 := racc.ext G (X6.trans X7);refine za (cN (K := K) (hn := true) (d := d) (v := y) hl (yU (xU ‹_› ‹_›)) A φ7 s7 [acc, Y] [] Ro G7 (by unfold RL; exact ⟨acc, [Y], rfl, racc7, by unfold RL; exact ⟨Y, [], rfl, r7, by unfold RL; rfl⟩⟩) (by show RL _ _ [] _; unfold RL; rfl) _ _ fun φ8 s8 V8 X8 G8 r8 => ?_);exact zb (zb (hQ φ8 s8 vals _ (((X6.trans X7).trans X8).toS _) G8 ((I6.ext G6 X7).ext G7 X8) j7))
def dq (K : KC) (T : aZ K) : Prop := ∀ (A : Around) (i : Nat) (φ : List Addr) (s : Shared) (it : Addr) (Q : Value → Shared → Prop) (E : Value → Shared → Prop), T.At i φ s.heap it → Q (.ref it) s → wpAny (model pw K.w) A (pyIter (.ref it)) Q E s
theorem n8 {target iter : Expr} {more : List Comprehension} {T : aZ K} (hi : eR K d F vals σ iter T σ1) (hself : dq K T)
  (hclos : closureFor scope F.env = pure cl) (hcl : ic F.env cl) (hfr : cF F vals cl fr) (hkind : scope.kind = .function) (hnames : ∀ y ∈ scope.names, y.2 = .local → scope.names.lookup y.1 = some .local)
  (hnocell : ∀ y ∈ scope.names, y.2 ≠ .cell) (hnod : (locs ++ fr.map (·.1)).Nodup) (hcell : ∀ p ∈ fr, (relabel scope F.env).names.lookup p.1 = some .cell)
  (hloop : ∀ (C : Addr) {A : Around} {φ : List Addr} {s : Shared} {it : Addr} {acc : Value}, bj K true d A → fY K (aW scope cl F.env (locs ++ fr.map (·.1)) C) T 0 (List.replicate locs.length none ++ fr.map fun p => some p.2.2) (σ1 ++ [.list []]) φ s it →
   RV φ s.heap (.ref σ1.length) acc → ∀ {R : Result → Shared → Prop}, (∀ φ' s' vals', jN [C] φ it s φ' s' → af K φ' σ2 s' → aM K (aW scope cl F.env (locs ++ fr.map (·.1)) C) vals' φ' s'.heap → R (.ok .next) s') →
   codeAny (model pw K.w) A (.compLoop (.ListComp elt (⟨target, iter, ifs, 0⟩ :: more) scope pos) 0 (.ref it) acc (aW scope cl F.env (locs ++ fr.map (·.1)) C).env) R s)
  (hs : ∀ x, foldedSetIterable iter F.env x = pure x) {use : Option (Value → Sem Unit)} {p : Pos} {A : Around} {φ : List Addr} {s : Shared} (R : bj K true d A) (G : af K φ σ s) (I : aM K F vals φ s.heap) {Q E : Value → Shared → Prop}
  (fin : ∀ φ' s' vals' C acc, Ext φ s φ' s' → s.heap.objs.size ≤ C → (∀ env ∈ K.fs, env.frame ≠ some C) → af K φ' σ2 s' → aM K (aW scope cl F.env (locs ++ fr.map (·.1)) C) vals' φ' s'.heap → RV φ' s'.heap (.ref σ1.length) acc → compPost (model pw K.w) A E use Q acc C (.ok .next) s') :
  wpAny (model pw K.w) A (comprehension (.ListComp elt (⟨target, iter, ifs, 0⟩ :: more) scope pos) scope F.env p (newList []) false (eval iter F.env) use) Q E s := by
 refine wpAny_comprehension_free rfl hs hclos hkind hnames ?_;refine hi A φ s R G I _ _ fun φ1 s1 it X1 G1 hit1 hitφ1 hat1 => ?_
 have I1 := I.ext G X1;obtain ⟨oi, hoi, ⟨hoic, hoid⟩, hoit⟩ := T.obj _ _ _ _ hat1;have hlit : it < s1.heap.objs.size := al hoi;refine wpAny_newObj_type ?_ (by size_fits);have hrl : ∀ φ h, RL φ h [] (#[] : Array Value).toList := fun φ h => by unfold RL; rfl
 have X2 := Ext.alloc φ1 s1 { cls := .type "list", data := .seq ([] : List Value).toArray };have G2 := G1.alloc { cls := .type "list", data := .seq ([] : List Value).toArray } (.list []) ⟨_, #[], 0, xL _ rfl, ⟨rfl, rfl, rfl⟩, rfl, hrl _ _⟩;have I2 := I1.ext G1 X2;generalize hs2 : ({ s1 with heap := s1.heap.push { cls := .type "list", data := .seq ([] : List Value).toArray } } : Shared) = s2 at X2 G2 I2 ⊢;have hz2 : s2.heap.objs.size = s1.heap.objs.size + 1 := by rw [← hs2]; exact yM ..
 refine wpAny_newFunctionEnv hnocell (by intro y hy; simp at hy) (fun h3 hns hsb => ?_) hkind;have hk3 : ∀ b o, s2.heap.get? b = some o → h3.get? b = some o := fun b o e => hsb.extBut b o (yZ (al e)) (xo _ e)
 have hz3 : s2.heap.objs.size ≤ h3.objs.size := by have := hsb.1; rw [yM] at this; exact this ▸ z8 _
 have G3 : af K (φ1 ++ [s1.heap.objs.size]) (σ1 ++ [.list []]) { s2 with heap := h3, toks := s2.toks + 0 } := G2.keepAll hk3 hz3 rfl rfl;have I3 := te (h1 := h3) (scope := scope) (locs := locs) G2 I2 hcl hfr hkind hnod hcell hns hk3;have hat3 : T.At 0 (φ1 ++ [s1.heap.objs.size]) h3 it := by
  have k1 : ∀ b o, s1.heap.get? b = some o → h3.get? b = some o := fun b o e => hk3 b o (by rw [← hs2]; exact xo _ e)
  exact T.stable _ _ _ _ _ _ hat1 ((k1 it oi hoi).trans hoi.symm) (fun b o e _ _ => k1 b o e) ⟨_, rfl⟩
 have hitφ : it ∉ φ1 ++ [s1.heap.objs.size] := by
  rw [yD, yb];rintro (q | q)
  ·exact hitφ1 q
  rw [q] at hlit; exact absurd hlit (yQ _)
 have hitown : it ∉ (aW scope cl F.env (locs ++ fr.map (·.1)) s2.heap.objs.size).own := by
  intro q;have q : it = s2.heap.objs.size := by simpa [aW] using q
  rw [q] at hlit; exact yQ _ (yW hlit (hz2 ▸ yq _))
 have racc : RV (φ1 ++ [s1.heap.objs.size]) h3 (.ref σ1.length) (.ref s1.heap.objs.size) := by
  unfold RV;exact ⟨s1.heap.objs.size, by rw [← G1.len]; simp, rfl⟩
 have loop : codeAny (model pw K.w) A (.compLoop (.ListComp elt (⟨target, iter, ifs, 0⟩ :: more) scope pos) 0 (.ref it) (.ref s1.heap.objs.size) (aW scope cl F.env (locs ++ fr.map (·.1)) s2.heap.objs.size).env) (compPost (model pw K.w) A E use Q (.ref s1.heap.objs.size) s2.heap.objs.size) { s2 with heap := h3, toks := s2.toks + 0 } := by
  refine hloop s2.heap.objs.size R ⟨G3, I3, hat3, hitφ, hitown, yT G.grown hit1⟩ racc ?_;intro φ' s' vals' ⟨hk', hz', hmore⟩ G' I';obtain ⟨new', e', hn'⟩ := hmore;obtain ⟨new1, e1, hn1⟩ := X1.more;have hsz : s.heap.objs.size ≤ s2.heap.objs.size := by have := X1.size; exact yT (yT hit1 (yU hlit)) (yT (z8 _) (yV hz2.symm))
  refine fin φ' s' vals' _ _ ⟨fun b o eb hb => ?_, yT hsz (yT hz3 hz'), new1 ++ ([s1.heap.objs.size] ++ new'), by rw [e', e1]; simp, fun a ha => ?_⟩ hsz (fun env he q => ?_) G' I' ?_
  ·have hlt := al eb;have k1 := X1.keep b o eb hb;refine k1.trans fun o1 k1 => ?_
   refine (X2.keep b o1 k1 (fun q => (yd (e1 ▸ q)).elim hb fun q => absurd hlt (yO (hn1 b q)))).trans fun o2 k2 => ?_
   have k3 := hk3 b o2 k2;refine hk' b o2 k3 ?_ ?_ ?_
   ·rw [e1, yD, yD, yb];rintro ((q | q) | q)
    ·exact hb q
    ·exact absurd hlt (yO (hn1 b q))
    exact absurd (q ▸ hlt) (yO X1.size)
   ·intro q;have q : b = s2.heap.objs.size := by simpa [aW] using q
    exact absurd (q ▸ hlt) (yO hsz)
   intro q;exact absurd (q ▸ hlt) (yO hit1)
  ·rcases yd ha with q | q
   ·exact hn1 a q
   rcases yd q with q | q
   ·have q : a = s1.heap.objs.size := by simpa using q
    rw [q]; exact X1.size
   exact yT hsz (yT hz3 (hn' a q))
  ·obtain ⟨_, L, oL, _, _, e1, e2, _⟩ := G2.frs env he;rw [e1] at q;have q : L = s2.heap.objs.size := by injection q
   exact absurd (al e2) (by rw [q]; exact yQ _)
  unfold RV at racc ⊢;obtain ⟨a, ea, r⟩ := racc;exact ⟨a, by rw [e', xc (x7 ea).1]; exact ea, r⟩
 exact codeAny_compStart_list loop (hself A 0 _ { s2 with heap := h3, toks := s2.toks + 0 } it _ _ hat3 loop)
theorem Ext.but {s : Shared} {h5 : Heap} (X : Ext φ s φ' s') (hC : s.heap.objs.size ≤ C) (hs5 : Heap.SameBut C s'.heap h5) : Ext φ s φ' { s' with heap := h5 } :=
 ⟨fun b o eb hb => (X.keep b o eb hb).trans fun o' e' => .inl ((hs5.2 b (yZ (xU (al eb) hC))).trans e'), by show _ ≤ h5.objs.size; rw [hs5.1]; exact X.size, X.more⟩
theorem iX {target iter : Expr} {more : List Comprehension} {T : aZ K} (hi : eR K d F vals σ iter T σ1) (hself : dq K T)
  (hclos : closureFor scope F.env = pure cl) (hcl : ic F.env cl) (hfr : cF F vals cl fr) (hkind : scope.kind = .function) (hnames : ∀ y ∈ scope.names, y.2 = .local → scope.names.lookup y.1 = some .local)
  (hnocell : ∀ y ∈ scope.names, y.2 ≠ .cell) (hnod : (locs ++ fr.map (·.1)).Nodup) (hcell : ∀ p ∈ fr, (relabel scope F.env).names.lookup p.1 = some .cell)
  (hloop : ∀ (C : Addr) {A : Around} {φ : List Addr} {s : Shared} {it : Addr} {acc : Value}, bj K true d A → fY K (aW scope cl F.env (locs ++ fr.map (·.1)) C) T 0 (List.replicate locs.length none ++ fr.map fun p => some p.2.2) (σ1 ++ [.list []]) φ s it →
   RV φ s.heap (.ref σ1.length) acc → ∀ {R : Result → Shared → Prop}, (∀ φ' s' vals', jN [C] φ it s φ' s' → af K φ' σ2 s' → aM K (aW scope cl F.env (locs ++ fr.map (·.1)) C) vals' φ' s'.heap → R (.ok .next) s') →
   codeAny (model pw K.w) A (.compLoop (.ListComp elt (⟨target, iter, ifs, 0⟩ :: more) scope pos) 0 (.ref it) acc (aW scope cl F.env (locs ++ fr.map (·.1)) C).env) R s)
  (hs : ∀ x, foldedSetIterable iter F.env x = pure x := by intro _; rfl) : EvE K true d F vals σ (.ListComp elt (⟨target, iter, ifs, 0⟩ :: more) scope pos) (.ref σ1.length) σ2 := fun A φ s R G I Q E hQ => by
 rw [eval_ListComp];refine n8 hi hself hclos hcl hfr hkind hnames hnocell hnod hcell hloop hs R G I fun φ' s' vals' C acc X hC hfs G' I' rr => ?_
 obtain ⟨m, hm, _⟩ := I'.var;refine ⟨m, hm, fun h5 hs5 => ?_⟩;exact hQ φ' { s' with heap := h5 } _ (X.but hC hs5) (G'.own I' I'.loc hs5 (.inr hfs)) (by unfold RV at rr ⊢; exact rr)
theorem vK {target iter : Expr} {T : aZ K} (hi : eR K d F vals σ iter T σ1) (hself : dq K T)
  (hclos : closureFor scope F.env = pure cl) (hcl : ic F.env cl) (hfr : cF F vals cl fr) (hkind : scope.kind = .function) (hnames : ∀ y ∈ scope.names, y.2 = .local → scope.names.lookup y.1 = some .local)
  (hnocell : ∀ y ∈ scope.names, y.2 ≠ .cell) (hnod : (locs ++ fr.map (·.1)).Nodup) (hcell : ∀ p ∈ fr, (relabel scope F.env).names.lookup p.1 = some .cell)
  (J : Nat → ai → a8 → Prop) (h0 : J 0 (List.replicate locs.length none ++ fr.map fun p => some p.2.2) (σ1 ++ [.list []])) (hok : ∀ i v σ, J i v σ → T.ok σ)
  (hlet : ∀ (A : Around) (i : Nat) (φ : List Addr) (s : Shared) (it : Addr) (v : Value) (Q : Unit → Shared → Prop) (E : Value → Shared → Prop), T.At i φ s.heap it → Q () s → wpAny (model pw K.w) A (letOwnedTupleGo target (.ref it) v) Q E s)
  (turn : ∀ C i v0 σ v, J i v0 σ → T.item i σ = some v → TA K true d (aW scope cl F.env (locs ++ fr.map (·.1)) C) v0 σ v (assign target (aW scope cl F.env (locs ++ fr.map (·.1)) C).env)
   (fun v1 σ2 => TstT K d (aW scope cl F.env (locs ++ fr.map (·.1)) C) σ1.length (J (i + 1)) v1 σ2 ifs elt))
  (done : ∀ i v σ', J i v σ' → T.item i σ' = none → σ' = σ2)
  (hs : ∀ x, foldedSetIterable iter F.env x = pure x := by intro _; rfl) : EvE K true d F vals σ (.ListComp elt [⟨target, iter, ifs, 0⟩] scope pos) (.ref σ1.length) σ2 :=
 iX hi hself hclos hcl hfr hkind hnames hnocell hnod hcell (fun C A φ s it acc Ro L racc R hR => dP (j6 ..) J hok hlet (fun i v0 σ v j hv A φ s V R G I r Q E hQ => turn C i v0 σ v j hv A φ s V R G I r Q E fun φ' s' v1 σ' X G I p => hQ φ' s' v1 σ' X G I (ff p)) Ro L racc h0
  fun φ' s' v' σ' i' X G' I' j' he => hR φ' s' v' X (done i' v' σ' j' he ▸ G') I') hs
def Stp (l : List Env) (N : Nat) (h h' : Heap) : Prop :=
 h.objs.size ≤ h'.objs.size ∧ ∀ b o, h.get? b = some o → h'.get? b = some o ∨ (N ≤ b ∧ (∃ vs, o.data = .fields vs) ∧ ∃ o' vs, h'.get? b = some o' ∧ o'.data = .fields vs ∧ o'.cls = o.cls) ∨
  ((∃ env ∈ l, env.frame = some b) ∧ ∃ sl, h'.get? b = some { o with slots := sl })
theorem Stp.refl (l : List Env) (N : Nat) (h : Heap) : Stp l N h h := ⟨z6 _, fun b o e => .inl e⟩
theorem Stp.trans {l : List Env} {N : Nat} {h'' : Heap} (x : Stp l N h h') (y : Stp l N h' h'') : Stp l N h h'' := by
 refine ⟨yT x.1 y.1, fun b o e => ?_⟩;rcases x.2 b o e with q | ⟨q1, q2, o', vs, q3, q4, q5⟩ | ⟨q1, sl, q2⟩
 ·exact y.2 b o q
 ·rcases y.2 b o' q3 with p | ⟨_, _, o2, vs2, p3, p4, p5⟩ | ⟨p1, sl, p2⟩
  ·exact .inr (.inl ⟨q1, q2, o', vs, p, q4, q5⟩)
  ·exact .inr (.inl ⟨q1, q2, o2, vs2, p3, p4, p5.trans q5⟩)
  exact .inr (.inl ⟨q1, q2, _, vs, p2, q4, q5⟩)
 rcases y.2 b _ q2 with p | ⟨p1, p2, o2, vs2, p3, p4, p5⟩ | ⟨_, sl', p2⟩
 ·exact .inr (.inr ⟨q1, sl, p⟩)
 ·exact .inr (.inl ⟨p1, p2, o2, vs2, p3, p4, p5⟩)
 exact .inr (.inr ⟨q1, sl', p2⟩)
theorem Stp.keeps {l : List Env} {N : Nat} (hk : ∀ b o, h.get? b = some o → h'.get? b = some o) (hz : h.objs.size ≤ h'.objs.size) : Stp l N h h' := ⟨hz, fun b o e => .inl (hk b o e)⟩
theorem Stp.rec {l : List Env} {N : Nat} (hN : N ≤ a) (ho : h.get? a = some o) (hd : o.data = .fields vs) (f : Array Value → Array Value) : Stp l N h (h.update a (Obj.mapFields f)) := by
 have hs : Heap.SameBut a h (h.update a (Obj.mapFields f)) := Heap.SameBut.update ..
 refine ⟨by rw [hs.1]; exact z6 _, fun b o' e => ?_⟩;by_cases hb : b = a
 ·subst hb;rw [ho] at e; cases e;have hd' := Obj.data_mapFields hd f;exact .inr (.inl ⟨hN, ⟨vs, hd⟩, _, _, xv _ ho (Obj.isFreed_of_fields hd'), hd', Obj.cls_mapFields _ _⟩)
 exact .inl ((hs.2 b hb).trans e)
section
variable {K : KC} {d : Nat} {F : Frm} {vals : ai} {σ σ1 σ2 σ3 σ4 : a8} {P : FR → ai → a8 → Prop} {φ φ1 φ2 : List Addr} {s s1 s2 : Shared} {h' : Heap} {N t : Nat}
theorem b5.notRec {c : ag} (x : b5 w φ h a c) (e : h.get? a = some o) : ∀ vs, o.data ≠ .fields vs := by
 intro vs hd;cases c with
 | list l => obtain ⟨o', _, _, e', _, h', _⟩ := x; rw [e] at e'; cases e'; rw [hd] at h'; cases h'
 | dict l => obtain ⟨o', _, _, e', _, h', _⟩ := x; rw [e] at e'; cases e'; rw [hd] at h'; cases h'
 | inst d => obtain ⟨o', _, e', _, _, h', _⟩ := x; rw [e] at e'; cases e'; rw [hd] at h'; cases h'
 | ns d => obtain ⟨o', _, _, _, e', _, h', _⟩ := x; rw [e] at e'; cases e'; rw [hd] at h'; cases h'
 | ns0 => have x : h.get? a = _ := x; rw [e] at x; cases x; cases hd
 | obj => obtain ⟨o', e', _, h'⟩ := x; rw [e] at e'; cases e'; rw [hd] at h'; cases h'
theorem af.stpKeep (G : af K φ σ s) (x : Stp K.fs N s.heap h') {b : Addr} {o : Obj} (e : s.heap.get? b = some o) (hd : ∀ vs, o.data ≠ .fields vs) (hf : b ∈ φ ∨ ∀ es n, o.data ≠ .dict es n) : h'.get? b = some o := by
 rcases x.2 b o e with q | ⟨_, ⟨vs, q⟩, _⟩ | ⟨⟨env, he, q⟩, _⟩
 ·exact q
 ·exact absurd q (hd vs)
 obtain ⟨_, L, oL, es, m, e1, e2, e3, _, e5⟩ := G.frs env he;rw [e1] at q;have q : L = b := by injection q
 subst q;rw [e] at e2; cases e2;rcases hf with hf | hf
 ·exact absurd hf e5
 exact absurd e3 (hf es m)
theorem af.stp (G : af K φ σ s) (hN : K.h0.objs.size ≤ N) (x : Stp K.fs N s.heap h') : af K φ σ { s with heap := h', toks := t } := by
 refine ⟨fun a o e => ?_, yT G.grown x.1, G.len, G.nod, fun a ha => ⟨(G.hi a ha).1, xU (G.hi a ha).2 x.1⟩, fun k a c h1 h2 => ?_, G.os, G.gens, fun env he => (G.frs env he).keep fun b o e ⟨es, m, hd⟩ hb => ?_⟩
 ·have hlt := al e;rcases x.2 a o (G.base a o e) with q | ⟨q, _⟩ | ⟨⟨env, he, q⟩, _⟩
  ·exact q
  ·exact absurd hlt (yO (yT hN q))
  obtain ⟨_, L, oL, es, m, e1, e2, e3, e4, e5⟩ := G.frs env he;rw [e1] at q;have q : L = a := by injection q
  subst q;exact absurd hlt (yO e4)
 ·have cx := G.cells k a c h1 h2;refine cx.keep (fun b o e h => ?_) ⟨[], by simp⟩;rcases h with ⟨_, xs, n, hd⟩ | rfl
  ·exact G.stpKeep x e (fun vs q => by rw [hd] at q; cases q) (.inr fun es n q => by rw [hd] at q; cases q)
  exact G.stpKeep x e (cx.notRec e) (.inl (xB h1))
 rcases x.2 b o e with q | ⟨_, ⟨vs, q⟩, _⟩ | ⟨_, sl, q⟩
 ·exact ⟨o, es, m, q, hd⟩
 ·rw [hd] at q; cases q
 exact ⟨_, es, m, q, hd⟩
theorem RV.stp (G : af K φ σ s) (x : Stp K.fs N s.heap h') {v : Val} {V : Value} (r : RV φ s.heap v V) : RV φ h' v V :=
 r.keep (fun b o e ⟨_, xs, n, hd⟩ => G.stpKeep x e (fun vs q => by rw [hd] at q; cases q) (.inr fun es n q => by rw [hd] at q; cases q)) ⟨[], by simp⟩
theorem aM.stp (G : af K φ σ s) (I : aM K F vals φ s.heap) (x : Stp K.fs N s.heap h') : aM K F vals φ h' := by
 have cell : ∀ c v, s.heap.IsCell c v → h'.IsCell c v := fun c v ⟨o, ho, hd⟩ => ⟨o, G.stpKeep x ho (fun vs q => by rw [hd] at q; cases q) (.inr fun es n q => by rw [hd] at q; cases q), hd⟩
 refine ⟨I.fn, I.glb, I.blt, I.nod, I.loc, fun a ha => ?_, I.lens, fun y c h1 h2 => ?_, I.inj, ?_⟩
 ·obtain ⟨h1, h2, o, h3, h4⟩ := I.own a ha;rcases x.2 a o h3 with q | ⟨_, hv, o', vs, q, hd, _⟩ | ⟨_, sl, q⟩
  ·exact ⟨h1, h2, o, q, h4⟩
  ·exact absurd hv.choose_spec (h4.2 _)
  exact ⟨h1, h2, _, q, h4⟩
 ·obtain ⟨h3, v, h4⟩ := I.cell y c h1 h2;exact ⟨h3, v, cell c v h4⟩
 obtain ⟨m, ⟨o, es, n, ho, hd, r⟩, hv⟩ := I.var;refine ⟨m, ?_, fun i y v h1 h2 => ?_⟩
 ·rcases x.2 _ o ho with q | ⟨_, ⟨vs, q⟩, _⟩ | ⟨_, sl, q⟩
  ·exact ⟨o, es, n, q, hd, r⟩
  ·rw [hd] at q; cases q
  exact ⟨_, es, n, q, hd, r⟩
 obtain ⟨V, hV, rr⟩ := hv i y v h1 h2;refine ⟨V, ?_, rr.stp G x⟩;rcases hV with q | ⟨c, q1, q2, q3⟩
 ·exact .inl q
 exact .inr ⟨c, q1, q2, cell c _ q3⟩
theorem bo.stp {own : List Addr} (X : bo own φ s φ1 s1) (G : af K φ1 σ s1) (x : Stp K.fs s.heap.objs.size s1.heap h') : bo own φ s φ1 { s1 with heap := h', toks := t } := by
 refine ⟨fun a o e h1 h2 => (X.keep a o e h1 h2).trans fun o' e' => ?_, yT X.size x.1, X.more⟩;rcases x.2 a o' e' with q | ⟨q, _⟩ | ⟨⟨env, he, q⟩, sl, q2⟩
 ·exact .inl q
 ·exact absurd (al e) (yO q)
 obtain ⟨_, L, oL, es, m, e1, e2, e3, e4, e5⟩ := G.frs env he;rw [e1] at q;have q : L = a := by injection q
 subst q;rw [e'] at e2; cases e2;exact .inr ⟨⟨es, m, e3⟩, sl, q2⟩
inductive eP (X : String) (c : Value) (N : Nat) (h : Heap) (a : Addr) : Prop
 | mk (hN : N ≤ a) (o : Obj) (vs : Array Value) (e : h.get? a = some o) (hc : o.cls = .type X) (hd : o.data = .fields vs) (hz : vs.size = 6) (h1 : vs[1]? = some .none) (h2 : vs[2]? = some c)
inductive cq (X : String) (c : Value) (N : Nat) (fl : Value) (h : Heap) (a : Addr) : Prop
 | mk (hN : N ≤ a) (o : Obj) (vs : Array Value) (tb : Addr) (ot : Obj) (tvs : Array Value) (e : h.get? a = some o) (hc : o.cls = .type X) (hd : o.data = .fields vs) (hz : vs.size = 6) (h1 : vs[1]? = some (.ref tb)) (h2 : vs[2]? = some c) (hb : N ≤ tb) (hne : tb ≠ a) (et : h.get? tb = some ot) (hdt : ot.data = .fields tvs) (ht : 3 < tvs.size) (hf : tvs[3]? = some fl)
theorem gg {M : Model} {A : Around} {E : Value → Shared → Prop} {Q : Unit → Shared → Prop} {φ : List Addr} {n : Nat} : ∀ (l : List Env) (s : Shared), (∀ env ∈ l, gF n φ s.heap env) →
  (∀ h', (s.heap.objs.size = h'.objs.size ∧ ∀ b o, s.heap.get? b = some o → h'.get? b = some o ∨ ((∃ env ∈ l, env.frame = some b) ∧ (∃ es m, o.data = .dict es m) ∧ ∃ sl, h'.get? b = some { o with slots := sl })) → Q () { s with heap := h' }) → wpAny M A (readyFrames l) Q E s
 | [], s, _, h => zb (h s.heap ⟨rfl, fun b o e => .inl e⟩)
 | env :: outer, s, hf, h => by
  obtain ⟨hk, L, o, es, m, e1, e2, e3, e4, e5⟩ := hf env (xT ..);unfold readyFrames;rw [e1];dsimp only;refine za (wpAny_load e2 ?_);by_cases hr : ((o.slots.getD 3 none).isSome) = true
  ·rw [if_pos hr]; exact zb (h s.heap ⟨rfl, fun b o e => .inl e⟩)
  rw [if_neg hr];refine za (z9 (a := false) (by simp [behindIsImport, hk]) ?_);have back : ∀ {Q' : Value → Shared → Prop}, (∀ v, Q' v s) → wpAny M A (keptBack env false outer) Q' E s := by
   intro Q' hq;cases outer with
   | nil => exact wpAny_keptBack_nil hq
   | cons c r => exact zb (hq _)
  refine za (back fun v => ?_);refine za (wpAny_update e2 ?_)
  suffices gen : ∀ f : Obj → Obj, (∀ o : Obj, ∃ sl, f o = { o with slots := sl }) → wpAny M A (readyFrames outer) Q E { s with heap := s.heap.update L f } from gen _ fun o => ⟨_, rfl⟩
  intro f hfo;have hs : Heap.SameBut L s.heap (s.heap.update L f) := Heap.SameBut.update ..
  obtain ⟨sl, hsl⟩ := hfo o;have hL : (s.heap.update L f).get? L = some { o with slots := sl } := by
   rw [← hsl];refine xv f e2 ?_;rw [hsl];obtain ⟨c, dd, dt, sl'⟩ := o;simp only at e3;subst e3;rfl
  have hstep : ∀ b ob, s.heap.get? b = some ob → (s.heap.update L f).get? b = some ob ∨ (b = L ∧ (∃ es m, ob.data = .dict es m) ∧ ∃ sl, (s.heap.update L f).get? b = some { ob with slots := sl }) := by
   intro b ob e;by_cases hb : b = L
   ·subst hb;rw [e2] at e; cases e;exact .inr ⟨rfl, ⟨es, m, e3⟩, sl, hL⟩
   exact .inl ((hs.2 b hb).trans e)
  refine gg (φ := φ) (n := n) outer { s with heap := s.heap.update L f } (fun env' he' => (hf env' (xC _ he')).keep fun b ob e ⟨es, m, hd⟩ _ => ?_) fun h2 ⟨hz, hk2⟩ => h h2 ⟨hs.1.symm.trans hz, fun b ob e => ?_⟩
  ·rcases hstep b ob e with q | ⟨_, _, sl, q⟩
   ·exact ⟨ob, es, m, q, hd⟩
   exact ⟨_, es, m, q, hd⟩
  rcases hstep b ob e with q | ⟨hb, ⟨es, m, hd⟩, sl, q⟩
  ·rcases hk2 b ob q with p | ⟨⟨env', he', p1⟩, p2, p3⟩
   ·exact .inl p
   exact .inr ⟨⟨env', xC _ he', p1⟩, p2, p3⟩
  have hb' : ∃ env' ∈ env :: outer, env'.frame = some b := ⟨env, xT .., by rw [hb]; exact e1⟩
  rcases hk2 b _ q with p | ⟨_, _, sl', p3⟩
  ·exact .inr ⟨hb', ⟨es, m, hd⟩, sl, p⟩
  exact .inr ⟨hb', ⟨es, m, hd⟩, sl', p3⟩
theorem nX {Q : Unit → Shared → Prop} {L : Addr} {s : Shared} (hfr : A.frames = some (env :: outer)) (hF : ∀ e ∈ env :: outer, gF n φ s.heap e) (hL : env.frame = some L)
  (x : eP X c N s.heap a) (hNs : N ≤ s.heap.objs.size) (h : ∀ h', Stp (env :: outer) N s.heap h' → cq X c N (rawInt L) h' a → Q () { s with heap := h' }) : wpAny M A (noteFrame (.ref a) env) Q E s := by
 obtain ⟨hNa, o, vs, ho, hc, hd, hsz, h1, h2⟩ := x
 delta noteFrame
 rw [hL];dsimp only;refine za (wpAny_field ho hd h1 ?_);rw [if_neg (by decide)]
 delta PySem.frameOf
 refine za (za (wpAny_frameEnvs hfr ?_));have hdw : ((env :: outer).dropWhile fun x => x.frame != env.frame) = env :: outer := by simp [List.dropWhile]
 rw [hdw]
 delta frameObject
 refine za (za (gg (env :: outer) s hF fun h₁ ⟨hz, hk⟩ => zb ?_));rw [hL];refine zb ?_;refine za (wpAny_entryPlaceOf fun pl hpl => ?_)
 delta EntryCells.newEntry newFields
 refine za (wpAny_newObj_type ?_ (hpl.sizeOk5 _ _ _ _ _));have he₁ : h₁.get? a = some o := by
  rcases hk a o ho with q | ⟨_, ⟨es, m, q⟩, _⟩
  ·exact q
  rw [hd] at q; cases q
 have he₂ := xo (h := h₁) { cls := .type "traceback", dict := none, data := .fields ([Value.none, .ref L, .none, rawInt L, .none] ++ (if pl.isEmpty then List.replicate 6 Value.none else pl)).toArray } he₁;refine wpAny_setField he₂ hd (by exact hsz ▸ (by decide)) ?_;have hTa : h₁.objs.size ≠ a := yY (Heap.lt_size he₁);have hd₃ := Obj.data_mapFields hd (·.setIfInBounds 1 (Value.ref h₁.objs.size));have st1 : Stp (env :: outer) N s.heap h₁ := ⟨yV hz, fun b ob e => by
  rcases hk b ob e with q | ⟨q1, _, q2⟩
  ·exact .inl q
  exact .inr (.inr ⟨q1, q2⟩)⟩
 refine h _ ((st1.trans (Stp.keeps (fun b ob e => xo _ e) (by rw [yM]; exact z8 _))).trans (Stp.rec hNa he₂ hd _)) ?_;refine ⟨hNa, _, _, h₁.objs.size, _, _, xv _ he₂ (Obj.isFreed_of_fields hd₃), (Obj.cls_mapFields _ _).trans hc, hd₃, by rw [Array.size_setIfInBounds]; exact hsz, ?_, ?_, by rw [← hz]; exact hNs, hTa, (Heap.get?_update_other _ _ (Ne.symm hTa)).trans (xL h₁ rfl), rfl, ?_, ?_⟩
 ·rw [Array.getElem?_setIfInBounds_self]; simp [hsz]
 ·rw [Array.getElem?_setIfInBounds_ne (by decide)]; exact h2
 ·simp only [List.size_toArray, xR, ym, List.length_nil]; lia
 simp
theorem iD {Q : Unit → Shared → Prop} {L : Addr} {s : Shared} (hL : env.frame = some L) (x : cq X c N (rawInt L) s.heap a) (h : Q () s) : wpAny M A (noteFrame (.ref a) env) Q E s := by
 obtain ⟨hNa, o, vs, tb, ot, tvs, ho, hc, hd, hsz, h1, h2, hNt, hta, htb, hdt, h3, h4⟩ := x;exact wpAny_noteFrame_inFlight hL ho hd h1 htb hdt h4 h
theorem d5 {Q : Unit → Shared → Prop} {fr : Option Addr} {l : List Env} {s : Shared} (x : cq X c N fl s.heap a)
  (h : ∀ h', Stp l N s.heap h' → cq X c N (fr.elim .none fun f => rawInt f) h' a → Q () { s with heap := h' }) : wpAny M A (setFlight (.ref a) fr) Q E s := by
 obtain ⟨hNa, o, vs, tb, ot, tvs, ho, hc, hd, hsz, h1, h2, hNt, hta, htb, hdt, h3, h4⟩ := x
 delta setFlight
 refine za (wpAny_field ho hd h1 ?_);rw [if_pos (show (Value.ref tb != Value.none) = true from by simp)];refine wpAny_setField htb hdt h3 (h _ (Stp.rec hNt htb hdt _) ?_);have hd₃ := Obj.data_mapFields hdt (·.setIfInBounds 3 (fr.elim .none fun f => rawInt f));refine ⟨hNa, o, vs, tb, _, _, (Heap.get?_update_other _ _ hta).trans ho, hc, hd, hsz, h1, h2, hNt, hta, xv _ htb (Obj.isFreed_of_fields hd₃), hd₃, by rw [Array.size_setIfInBounds]; exact h3, ?_⟩;rw [Array.getElem?_setIfInBounds_self]; simp [h3]
theorem kX {L : Addr} {l : List Env} {s : Shared} (hL : env.frame = some L) (x : cq X c N fl s.heap a)
  (h : ∀ h', Stp l N s.heap h' → cq X c N (rawInt L) h' a → E (.ref a) { s with heap := h' }) : cameBackBy M A env E (.ref a) s := by
 obtain ⟨hNa, o, vs, tb, ot, tvs, ho, hc, hd, hsz, h1, h2, hr⟩ := id x
 delta cameBackBy
 refine za (wpAny_field ho hd h1 ?_);rw [if_neg (by simp), hL];exact d5 (fr := some L) x fun h' st x' => h h' st x'
theorem uh {α : Type} {Q : α → Shared → Prop} {what : String} {L : Addr} {l : List Env} {s : Shared} (hL : env.frame = some L) (x : cq X c N fl s.heap a)
  (h : ∀ h', Stp l N s.heap h' → cq X c N (rawInt L) h' a → E (.ref a) { s with heap := h' }) : wpAny M A (PySem.passOn what (.ref a) env) Q E s := by
 obtain ⟨hNa, o, vs, tb, ot, tvs, ho, hc, hd, hsz, h1, h2, hr⟩ := id x
 delta PySem.passOn
 refine za (wpAny_field ho hd h1 ?_);rw [if_neg (by simp), hL];refine za ?_;exact d5 (fr := some L) x fun h' st x' => wpAny_throw (h h' st x')
end
theorem jZ : entryFor table "proto.unchain" = some Builtin.«proto.unchain» := entryFor_of_tree (by kernel_rfl)
def cE (A : Around) (h : Heap) (c : Value) : Prop := (A.handled = none ∧ c = .none) ∨ ∃ b o vs, c = .ref b ∧ A.handled = some (.ref b) ∧ h.get? b = some o ∧ o.data = .fields vs ∧ vs[2]? = some .none
section
variable {prog : Program} {w : World} {A : Around} {E : Value → Shared → Prop} {s : Shared} {α : Type}
theorem pY {Q : α → Shared → Prop} {t : Value} {hp : Heap} {tk : Nat} {vs0 : Array Value} (hvs : vs0 = #[t, .none, .none, .none, .bool false, .none]) (hh : cE A s.heap c) (hp1 : ∀ b o, s.heap.get? b = some o → hp.get? b = some o) (hz : s.heap.objs.size ≤ hp.objs.size)
  (h : ∀ h', (∀ b o, s.heap.get? b = some o → h'.get? b = some o) → s.heap.objs.size ≤ h'.objs.size → eP X c s.heap.objs.size h' hp.objs.size → E (.ref hp.objs.size) { s with heap := h', toks := tk }) :
  wpAny (model prog w) A (raiseNew (.ref hp.objs.size) : Sem α) Q E { s with heap := hp.push { cls := .type X, data := .fields vs0 }, toks := tk } := by
 subst hvs;have hk : ∀ b o, s.heap.get? b = some o → (hp.push { cls := .type X, data := .fields #[t, .none, .none, .none, .bool false, .none] }).get? b = some o := fun b o e => xo _ (hp1 b o e)
 have hz' : s.heap.objs.size ≤ (hp.push { cls := .type X, data := .fields #[t, .none, .none, .none, .bool false, .none] }).objs.size := by rw [yM]; exact yk ‹_›
 have hx : (hp.push { cls := .type X, data := .fields #[t, .none, .none, .none, .bool false, .none] }).get? hp.objs.size = some { cls := .type X, data := .fields #[t, .none, .none, .none, .bool false, .none] } := xL _ rfl
 delta raiseNew
 refine za (wpAny_handled ?_);rcases hh with ⟨hh, rfl⟩ | ⟨b, o, vs, rfl, hh, ho, hd, h2⟩
 ·rw [hh];have fin := h _ hk hz' ⟨hz, _, _, hx, rfl, rfl, rfl, rfl, rfl⟩
  first
   | exact wpAny_throw fin
   | exact za (zb (wpAny_throw fin))
 rw [hh];have hne : b ≠ hp.objs.size := yZ (xU (al ho) hz);dsimp only;rw [if_pos (show (Value.ref b != Value.ref hp.objs.size) = true by simp [hne])];refine za (yP (wpAny_runValue (codeAny_builtin jZ ?_)))
 delta Builtin.«proto.unchain»
 dsimp only;refine za (wpAny_field (hk b o ho) hd h2 ?_);rw [if_pos (by decide)];refine zb ?_;show wpAny _ _ (updateField hp.objs.size 2 (Value.ref b) >>= _) _ _ _;refine za ?_
 delta updateField
 refine za (wpAny_load hx ?_);dsimp only;rw [if_pos (by show 2 < 6; decide)];refine wpAny_update hx (wpAny_throw ?_);have hs : Heap.SameBut hp.objs.size (hp.push { cls := .type X, data := .fields #[t, .none, .none, .none, .bool false, .none] }) ((hp.push { cls := .type X, data := .fields #[t, .none, .none, .none, .bool false, .none] }).update hp.objs.size (Obj.mapFields (·.setIfInBounds 2 (Value.ref b)))) := Heap.SameBut.update ..
 refine h _ (fun y oy e => (hs.2 y ?_).trans (hk y oy e)) (by rw [hs.1]; exact hz') ⟨hz, _, _, xv _ hx rfl, rfl, rfl, by simp, by simp, by simp⟩;exact yZ (xU (al e) hz)
theorem cI {msg : String} {Q : α → Shared → Prop} (hp : PlainExc X) (hh : cE A s.heap c)
  (h : ∀ h' tk e, (∀ b o, s.heap.get? b = some o → h'.get? b = some o) → s.heap.objs.size ≤ h'.objs.size → eP X c s.heap.objs.size h' e → E (.ref e) { s with heap := h', toks := tk }) :
  wpAny (model prog w) A (raiseErrorWords X msg : Sem α) Q E s := by
 delta raiseErrorWords
 refine za (wpAny_mkText (za ?_))
 delta newExc newTuple
 refine za (wpAny_newObj_type ?_);refine za (m := firstArgMember _ _) (z9 (a := Value.none) (by simp only [firstArgMember, hp.first]; rfl) ?_);rw [hp.own];refine wpAny_newObj_type ?_;obtain ⟨heap, gens, drawn, toks, os⟩ := s;exact pY (s := ⟨heap, gens, drawn, toks, os⟩) (hp := heap.push { cls := .type "tuple", data := .seq #[.str (Str.ofString msg) toks] }) (tk := toks + 1) (t := .ref heap.objs.size) (by simp) hh (fun b o e => xo _ e) (by rw [yM]; exact z8 _) fun h' k1 k2 k3 => h h' _ _ k1 k2 k3
theorem rY {l : Addr} {items : Array Value} {k : Int} (hA : cE A s.heap c) (hl : s.heap.IsList l items)
  (hout : (items.size : Int) ≤ k) (hlo : -(2 ^ 63) ≤ k) (hhi : k < 2 ^ 63)
  (hE : ∀ h' tk e, (∀ b o, s.heap.get? b = some o → h'.get? b = some o) → s.heap.objs.size ≤ h'.objs.size → eP "IndexError" c s.heap.objs.size h' e → E (.ref e) { s with heap := h', toks := tk }) :
  wpAny (model prog w) A (getItem (.ref l) (.int k t)) Q E s := by
 obtain ⟨o, ho, hc, ne, hd⟩ := id hl;have hA' : cE A.in1 s.heap c := hA
 delta getItem
 try with_reducible refine yP ?_
 first | refine za (zb ?_) | skip
 refine za (wpAny_sequenceKey hl.typeIs (by decide) ?_);refine za (wpAny_callSpecial?_slot (name := Str.ofString "__getitem__") hl.typeIs slot_list_getitem (wpAny_call_entry slot_list_getitem hl.typeIs entry_list_getitem ?_ (args_list_getitem _ _)));show wpAny _ _ (Builtin.List.listSubscript? (.int k t) >>= _) _ _ s;refine za (wpAny_listSubscript_int (fitsIndex_both hlo hhi) ?_);clear hlo hhi;cases k with
 | ofNat j =>
  have hx : items[j]? = none := Array.getElem?_eq_none (by have : (items.size : Int) ≤ (j : Int) := hout; exact Int.ofNat_le.mp hout);show wpAny _ _ ((seqItemAt l j >>= fun r => pure (r.map (j, ·))) >>= _) _ _ s;refine za (za (wpAny_seqItemAt ho hd (zb ?_)));rw [hx]
  first
   | exact za (wpAny_rule (cI plainExc_IndexError hA' hE))
   | exact za (wpAny_rule (za (cI plainExc_IndexError hA' hE)))
   | exact za (za (wpAny_rule (cI plainExc_IndexError hA' hE)))
   | exact wpAny_rule (cI plainExc_IndexError hA' hE)
 | negSucc j => exact absurd hout (by have := Int.negSucc_lt_zero j; lia)
end
open PySem.AutoSeq1 (wpAny_loadPart')
open PySem.MeetsSeq PySem.MeetsSeq2 PySem.MeetsSeq3 PySem.SeqRoads2
noncomputable def iC (X : String) : PySem.Spec := fun A R s => A.handled = none ∧ ∀ h' tk e, (∀ b o, s.heap.get? b = some o → h'.get? b = some o) → s.heap.objs.size ≤ h'.objs.size → eP X .none s.heap.objs.size h' e → R (.error (.ref e)) { s with heap := h', toks := tk }
theorem jP (l : Addr) (items : Array Value) (n : Nat) (x : Value) (e : Value → Bool) (j : Nat) (hj : j < items.size) (hit : e items[j] = true) (hs1 : items.size ≤ sizeLine) (k : Nat) :
  ∀ i : Nat, j - i = k → i ≤ j → (∀ m (hm : m < items.size), i ≤ m → m < j → e items[m] = false) → Meets (Builtin.«list.remove.loop» ⟨[.ref l, x, rawInt i], []⟩)
   (fun A R s => s.heap.get? l = some { cls := .type "list", dict := none, data := .seq items n, slots := #[] } ∧ (∀ y, y ∈ items → EqAt A.in1 s y x (e y)) ∧ R (.ok (.ret .none)) { s with heap := s.heap.update l (Obj.mapSeq fun xs => xs.eraseIdxIfInBounds j) }) := by
 induction k with
 | zero =>
  intro i hk hij hno prog w A R s h;obtain ⟨hp, g, d, tk, os⟩ := s; obtain ⟨hl, he, h⟩ := h;have hij' : i = j := by exact sD hk hij
  subst hij'
  wp_walk using wpAny_loadPart' hl
  have hi : items[((i : Nat) : Int).toNat]? = some items[i] := by simp [hj]
  rw [hi];refine za (he _ (Array.getElem_mem hj) prog w _ _ ?_);rw [hit];have hz' : (items.eraseIdxIfInBounds i).size ≤ sizeLine + 1 := yT (size_erased items _) (yk hs1)
  wp_walk using (wpAny_updateSeq hl rfl (hz := hs1) (_hz' := hz')), wpAny_loadPart' hl
  simpa using h
 | succ k ih =>
  intro i hk hij hno prog w A R s h;obtain ⟨hp, g, d, tk, os⟩ := s; obtain ⟨hl, he, h⟩ := h;have hlt : i < items.size := by exact xV ‹_› ‹_›
  wp_walk using wpAny_loadPart' hl
  have hi : items[((i : Nat) : Int).toNat]? = some items[i] := by simp [hlt]
  have hc : ((i : Int) + 1) = ((i + 1 : Nat) : Int) := by push_cast; rfl
  rw [hi];refine za (he _ (Array.getElem_mem hlt) prog w _ _ ?_);rw [hno i hlt (z6 _) (sC hk)]
  wp_walk
  rw [hc];exact ⟨plainId_quiet plain_remove_loop _, codeAny_builtin entry_remove_loop (by
   rw [xD plain_remove_loop _];exact ih (i + 1) (sB hk) (sC hk) (fun m hm h1 h2 => hno m hm (yU ‹_›) h2) prog w A R _ ⟨hl, he, h⟩)⟩
theorem jW (l : Addr) (items : Array Value) (n : Nat) (x : Value) (e : Value → Bool) (j : Nat) (hj : j < items.size) (hit : e items[j] = true) (hno : ∀ m (hm : m < items.size), m < j → e items[m] = false) (hs1 : items.size ≤ sizeLine) :
  Meets (Builtin.«list.remove» ⟨[.ref l, x], []⟩)
   (fun A R s => s.heap.get? l = some { cls := .type "list", dict := none, data := .seq items n, slots := #[] } ∧ (∀ y, y ∈ items → EqAt A.in1 s y x (e y)) ∧ R (.ok (.ret .none)) { s with heap := s.heap.update l (Obj.mapSeq fun xs => xs.eraseIdxIfInBounds j) }) := by
 intro prog w A R s h;obtain ⟨hp, g, d, tk, os⟩ := s; obtain ⟨hl, he, h⟩ := h
 wp_walk using wpAny_loadPart' hl
 exact ⟨plainId_quiet plain_remove_loop _, codeAny_builtin entry_remove_loop (by
  rw [xD plain_remove_loop _];exact jP l items n x e j hj hit hs1 _ 0 rfl (z7 _) (fun m hm _ h2 => hno m hm h2) prog w A R _ ⟨hl, he, h⟩)⟩
theorem fE (l : Addr) (items : Array Value) (n : Nat) (x : Value) (e : Value → Bool) (hno : ∀ m (hm : m < items.size), e items[m] = false) (k : Nat) :
  ∀ i : Nat, items.size - i = k → Meets (Builtin.«list.remove.loop» ⟨[.ref l, x, rawInt i], []⟩)
   (fun A R s => s.heap.get? l = some { cls := .type "list", dict := none, data := .seq items n, slots := #[] } ∧ (∀ y, y ∈ items → EqAt A.in1 s y x (e y)) ∧ iC "ValueError" A R s) := by
 induction k with
 | zero =>
  intro i hk prog w A R s h;obtain ⟨hp, g, d, tk, os⟩ := s; obtain ⟨hl, he, h⟩ := h
  wp_walk using wpAny_loadPart' hl
  have hi : items[((i : Nat) : Int).toNat]? = none := by simp; exact Nat.le_of_sub_eq_zero hk
  rw [hi]
  wp_walk
  exact cI plainExc_ValueError (.inl ⟨h.1, rfl⟩) h.2
 | succ k ih =>
  intro i hk prog w A R s h;obtain ⟨hp, g, d, tk, os⟩ := s; obtain ⟨hl, he, h⟩ := h;have hlt : i < items.size := by exact sC hk
  wp_walk using wpAny_loadPart' hl
  have hi : items[((i : Nat) : Int).toNat]? = some items[i] := by simp [hlt]
  have hc : ((i : Int) + 1) = ((i + 1 : Nat) : Int) := by push_cast; rfl
  rw [hi];refine za (he _ (Array.getElem_mem hlt) prog w _ _ ?_);rw [hno i hlt]
  wp_walk
  rw [hc];exact ⟨plainId_quiet plain_remove_loop _, codeAny_builtin entry_remove_loop (by
   rw [xD plain_remove_loop _];exact ih (i + 1) (sB hk) prog w A R _ ⟨hl, he, h⟩)⟩
theorem fO (l : Addr) (items : Array Value) (n : Nat) (x : Value) (e : Value → Bool) (hno : ∀ m (hm : m < items.size), e items[m] = false) :
  Meets (Builtin.«list.remove» ⟨[.ref l, x], []⟩)
   (fun A R s => s.heap.get? l = some { cls := .type "list", dict := none, data := .seq items n, slots := #[] } ∧ (∀ y, y ∈ items → EqAt A.in1 s y x (e y)) ∧ iC "ValueError" A R s) := by
 intro prog w A R s h;obtain ⟨hp, g, d, tk, os⟩ := s; obtain ⟨hl, he, h⟩ := h
 wp_walk using wpAny_loadPart' hl
 exact ⟨plainId_quiet plain_remove_loop _, codeAny_builtin entry_remove_loop (by
  rw [xD plain_remove_loop _];exact fE l items n x e hno _ 0 rfl prog w A R _ ⟨hl, he, h⟩)⟩
theorem eP.mono {N : Nat} (hN : N' ≤ N) (x : eP X c N h a) : eP X c N' h a := by
 obtain ⟨q, o, vs, r1, r2, r3, r4, r5, r6⟩ := x;exact ⟨yT hN q, o, vs, r1, r2, r3, r4, r5, r6⟩
theorem cq.mono {N : Nat} (hN : N' ≤ N) (x : cq X c N fl h a) : cq X c N' fl h a := by
 obtain ⟨hNa, o, vs, tb, ot, tvs, ho, hc, hd, hsz, h1, h2, hNt, r1, r2, r3, r4, r5⟩ := x;exact ⟨yT hN hNa, o, vs, tb, ot, tvs, ho, hc, hd, hsz, h1, h2, yT hN hNt, r1, r2, r3, r4, r5⟩
inductive AwayN (X : String) (F : Frm) (c : Value) (N : Nat) (h : Heap) (a : Addr) : Prop
 | mk (L : Addr) (e : F.env.frame = some L) (x : cq X c N (rawInt L) h a)
def iP (X : String) (F : Frm) (c : Value) (N : Nat) (h : Heap) (a : Addr) : Prop := eP X c N h a ∨ AwayN X F c N h a
theorem iP.mono {F : Frm} {N : Nat} (hN : N' ≤ N) (x : iP X F c N h a) : iP X F c N' h a := by
 rcases x with x | ⟨L, hL, x⟩
 ·exact .inl (x.mono hN)
 exact .inr ⟨L, hL, x.mono hN⟩
def TSX (K : KC) (hn : Bool) (d : Nat) (F : Frm) (vals : ai) (σ : a8) (t : Sem Flow) (P : FR → ai → a8 → Prop) (X : String) (st : Bool) (XP : ai → a8 → Prop) : Prop :=
 ∀ (A : Around) (φ : List Addr) (s : Shared) (c : Value), bj K hn d A → cE A s.heap c → af K φ σ s → aM K F vals φ s.heap → ∀ (Q : Flow → Shared → Prop) (E : Value → Shared → Prop),
  (∀ φ' s' f r vals' σ', bo F.own φ s φ' s' → af K φ' σ' s' → aM K F vals' φ' s'.heap → RF φ' s'.heap r f → P r vals' σ' → Q f s') →
  (∀ φ' s' a vals' σ' c', bo F.own φ s φ' s' → af K φ' σ' s' → aM K F vals' φ' s'.heap → iP X F c' s.heap.objs.size s'.heap a → (st = true → c' = c) → XP vals' σ' → E (.ref a) s') → wpAny (model pw K.w) A t Q E s
def EvR (K : KC) (hn : Bool) (d : Nat) (F : Frm) (vals : ai) (σ : a8) {α : Type} (t : Sem α) (X : String) (σ' : a8) : Prop :=
 ∀ (A : Around) (φ : List Addr) (s : Shared) (c : Value), bj K hn d A → cE A s.heap c → af K φ σ s → aM K F vals φ s.heap → ∀ (Q : α → Shared → Prop) (E : Value → Shared → Prop),
  (∀ φ' s' a, Ext φ s φ' s' → af K φ' σ' s' → eP X c s.heap.objs.size s'.heap a → E (.ref a) s') → wpAny (model pw K.w) A t Q E s
section
variable {K : KC} {hn : Bool} {d : Nat} {F : Frm} {vals : ai} {σ σ1 σ2 σ3 σ4 : a8} {P : FR → ai → a8 → Prop} {X : String} {st : Bool} {XP : ai → a8 → Prop}
theorem cE.extS {s : Shared} (G : af K φ σ s) (I : aM K F vals φ s.heap) (x : bo F.own φ s φ' s') (h : cE A s.heap c) : cE A s'.heap c := by
 rcases h with h | ⟨b, o, vs, h1, h2, ho, hd, h3⟩
 ·exact .inl h
 refine .inr ⟨b, o, vs, h1, h2, (x.keep b o ho (fun q => ?_) (fun q => ?_)).exact (fun es n q => by rw [hd] at q; cases q), hd, h3⟩
 ·obtain ⟨_, _, _, _, y⟩ := G.cellOf q;exact y.notRec ho vs hd
 obtain ⟨_, _, o', e', hh⟩ := I.own b q;rw [ho] at e'; cases e';exact hh.2 vs hd
theorem cE.none_of (x : cE A h c) (hA : A.handled = none) : c = .none := by
 rcases x with ⟨_, h⟩ | ⟨b, _, _, _, h, _⟩
 ·exact h
 rw [hA] at h; cases h
theorem uO {t : Sem Flow} (h : TSt K hn d F vals σ t P) : TSX K hn d F vals σ t P X st XP := fun A φ s c R hh G I Q E hQ _ => h A φ s R G I Q E hQ
theorem TSX.mono {t : Sem Flow} {P' : FR → ai → a8 → Prop} {XP' : ai → a8 → Prop} (h : TSX K hn d F vals σ t P X st XP) (hp : ∀ r v s, P r v s → P' r v s) (hx : ∀ v s, XP v s → XP' v s) : TSX K hn d F vals σ t P' X st XP' := fun A φ s c R hh G I Q E hQ hE =>
 h A φ s c R hh G I Q E (fun φ' s' f r v' σ' X' G' I' rr p => hQ φ' s' f r v' σ' X' G' I' rr (hp r v' σ' p)) fun φ' s' a v' σ' c' X' G' I' w q p => hE φ' s' a v' σ' c' X' G' I' w q (hx v' σ' p)
theorem TSX.weak {t : Sem Flow} (h : TSX K hn d F vals σ t P X st XP) : TSX K hn d F vals σ t P X false XP := fun A φ s c R hh G I Q E hQ hE =>
 h A φ s c R hh G I Q E hQ fun φ' s' a v' σ' c' X' G' I' w q p => hE φ' s' a v' σ' c' X' G' I' w nft p
noncomputable abbrev nxtX (K : KC) (hn : Bool) (d : Nat) (F : Frm) (rest : List Stmt) (P : FR → ai → a8 → Prop) (X : String) (st : Bool) (XP : ai → a8 → Prop) : FR → ai → a8 → Prop :=
 fun r v' σ' => match r with | .next => TSX K hn d F v' σ' (execs rest F.env) P X st XP | r => P r v' σ'
theorem bC {sm : Stmt} (h : TSX K hn d F vals σ (exec sm F.env) (nxtX K hn d F rest P X st XP) X st XP) :
  TSX K hn d F vals σ (execs (sm :: rest) F.env) P X st XP := fun A φ s c R hh G I Q E hQ hE => by
 rw [execs_cons];refine za (h A φ s c R hh G I _ _ (fun φ1 s1 f r v1 σ1 X1 G1 I1 r1 p1 => ?_) hE);cases r with
 | next =>
  have r1 : f = .next := r1;subst r1;exact p1 A φ1 s1 c R (hh.extS G I X1) G1 I1 Q E (fun φ2 s2 f2 r2 v2 σ2 X2 G2 I2 rr p2 => hQ φ2 s2 f2 r2 v2 σ2 (X1.trans X2) G2 I2 rr p2)
   fun φ2 s2 a v2 σ2 c' X2 G2 I2 w q p => hE φ2 s2 a v2 σ2 c' (X1.trans X2) G2 I2 (w.mono X1.size) q p
 | brk =>
  have r1 : f = .brk := r1;subst r1;exact zb (hQ φ1 s1 _ .brk v1 σ1 X1 G1 I1 rfl p1)
 | cont =>
  have r1 : f = .cont := r1;subst r1;exact zb (hQ φ1 s1 _ .cont v1 σ1 X1 G1 I1 rfl p1)
 | ret v =>
  obtain ⟨V, rfl, r1⟩ := r1;exact zb (hQ φ1 s1 _ (.ret v) v1 σ1 X1 G1 I1 ⟨V, rfl, r1⟩ p1)
theorem bF {sm : Stmt} (h : TSt K hn d F vals σ (exec sm F.env) (nxtX K hn d F rest P X st XP)) :
  TSX K hn d F vals σ (execs (sm :: rest) F.env) P X st XP := bC (uO h)
theorem d4 (h : P .next vals σ) : TSX K hn d F vals σ (execs [] F.env) P X st XP := uO (ak h)
theorem uP {test : Expr} {body : List Stmt} {b : Bool} (h : EvB K hn d F vals σ test b σ1) (h1 : b = true → TSX K hn d F vals σ1 (execs body F.env) P X st XP) (h2 : b = false → TSX K hn d F vals σ1 (execs orelse F.env) P X st XP) :
  TSX K hn d F vals σ (exec (.If test body orelse pos) F.env) P X st XP := fun A φ s c R hh G I Q E hQ hE => by
 refine wpAny_If (h A φ s R G I _ _ fun φ1 s1 b' X1 G1 r1 => ?_);subst r1;have hh1 := hh.extS G I (X1.toS _);have fin := fun φ2 s2 f r v2 σ2 (X2 : bo F.own φ1 s1 φ2 s2) G2 I2 rr p2 => hQ φ2 s2 f r v2 σ2 ((X1.toS _).trans X2) G2 I2 rr p2
 have finE := fun φ2 s2 a v2 σ2 c' (X2 : bo F.own φ1 s1 φ2 s2) G2 I2 (w : iP X F c' s1.heap.objs.size s2.heap a) q p => hE φ2 s2 a v2 σ2 c' ((X1.toS _).trans X2) G2 I2 (w.mono X1.size) q p
 cases b' with
 | true => exact h1 rfl A φ1 s1 c R hh1 G1 (I.ext G X1) Q E fin finE
 | false => exact h2 rfl A φ1 s1 c R hh1 G1 (I.ext G X1) Q E fin finE
theorem fQ {value : Expr} (h1 : EvE K hn d F vals σ value (.ref k) σ1) (h2 : EvE K hn d F vals σ1 slice (.int (i : Int)) σ2) (hk : σ2[k]? = some (.list l)) (hi : l.length ≤ i) (hz : i < 2 ^ 62)
  (hs : ∀ o i, ∃ ops, subscripted slice false o i = operate ops (getItem o i) := by intro o i; exact ⟨_, rfl⟩) : EvR K hn d F vals σ (eval (.Subscript value slice pos) F.env) "IndexError" σ2 := fun A φ s c R hh G I Q E hE => by
 refine Subscript_ (h1 A φ s R G I _ _ fun φ1 s1 V1 X1 G1 r1 => h2 A φ1 s1 R G1 (I.ext G X1) _ _ fun φ2 s2 V2 X2 G2 r2 => ?_);have X := X1.trans X2;have r1' := r1.ext G1 X2;obtain ⟨T, id, hT, hl⟩ := ar (K := K) hk φ2 s2 V1 G2 r1';obtain ⟨a, xs, rfl, _, x1, q1⟩ := G2.list r1' hk;have e := q1.length;rw [xK] at e;unfold RV at r2; obtain ⟨u, rfl⟩ := r2;refine jc hT hl (rY (c := c) (hh.extS G I (X.toS _)) x1 (by exact Int.ofNat_le.mpr (e ▸ hi)) (Int.le_trans (by decide) (xX _)) (lI hz (by decide)) fun h' tk e hk hz hf => ?_) (hs _ _);exact hE φ2 _ e (X.trans (Ext.keepAll hk hz)) (G2.keepAll hk hz rfl rfl) (hf.mono X.size)
theorem jG {l r : Expr} {op : CmpOp} (h : EvR K hn d F vals σ (eval l F.env) X σ1) (hm : behindInMarks op r = false := by with_unfolding_all rfl) :
  EvR K hn d F vals σ (isTrue (.Compare l [op] [r] pos) F.env (eval (.Compare l [op] [r] pos) F.env)) X σ1 := fun A φ s c R hh G I Q E hE =>
 wpAny_isTrue_Compare1 (h A φ s c R hh G I _ _ hE) hm
theorem kh {x : Str} {value : Expr} (h : EvR K hn d F vals σ (eval value F.env) X σ1) (hP : XP vals σ1)
  (hs : swapsWith value (some (.Name x p')) pos.line F.env = pure false := by rfl) : TSX K hn d F vals σ (exec (.Assign [.Name x p'] value pos) F.env) P X st XP := fun A φ s c R hh G I Q E hQ hE =>
 wpAny_Assign_Name (h A φ s c R hh G I _ _ fun φ1 s1 a X1 G1 w => hE φ1 s1 a vals σ1 c (X1.toS _) G1 (I.ext G X1) (.inl w) (fun _ => rfl) hP) hs
theorem tY (h : EvR K hn d F vals σ (eval e F.env) X σ1) (hP : XP vals σ1) (hs : swapsWith e none pos.line F.env = pure false := by rfl) : TSX K hn d F vals σ (exec (.Expr e pos) F.env) P X st XP := fun A φ s c R hh G I Q E hQ hE => by
 have hi : interactive F.env = false := by unfold interactive; rw [I.fn]; rfl
 exact wpAny_Expr (h A φ s c R hh G I _ _ fun φ1 s1 a X1 G1 w => hE φ1 s1 a vals σ1 c (X1.toS _) G1 (I.ext G X1) (.inl w) (fun _ => rfl) hP) hi hs
theorem iP.note {s : Shared} {N : Nat} {Q : Unit → Shared → Prop} (hK : K.fs = F.env :: outer) (hfr : A.frames = some K.fs) (G : af K φ σ s) (hN : N ≤ s.heap.objs.size) (w : iP X F c N s.heap a)
  (h : ∀ h' L, F.env.frame = some L → Stp K.fs N s.heap h' → cq X c N (rawInt L) h' a → Q () { s with heap := h' }) : wpAny (model pw K.w) A (noteFrame (.ref a) F.env) Q E s := by
 have hF := G.frs;rw [hK] at hfr hF h;obtain ⟨_, L, _, _, _, hL, _⟩ := hF F.env (xT ..);rcases w with w | ⟨L', hL', w⟩
 ·exact nX hfr hF hL w hN fun h' st x => h h' L hL st x
 rw [hL] at hL'; cases hL';exact iD hL w (h s.heap L hL (Stp.refl ..) w)
theorem bH {test : Expr} {body : List Stmt} (hK : K.fs = F.env :: outer) (h : EvR K hn d F vals σ (isTrue test F.env (eval test F.env)) X σ1) (hP : XP vals σ1) : TSX K hn d F vals σ (exec (.While test body [] pos) F.env) P X st XP := fun A φ s c R hh G I Q E hQ hE => by
 refine wpAny_While (codeAny_whileLoop (fun n s' => s' = s) (fun n s' e => ?_) 0 rfl);subst e;refine h A φ s' c R hh G I _ _ fun φ1 s1 a X1 G1 w => ?_
 have hN : K.h0.objs.size ≤ s'.heap.objs.size := G.grown;unfold notedBy;refine iP.note hK R.frames G1 X1.size (.inl w) fun h2 L hL st2 w2 => ?_
 refine kX hL w2 (l := K.fs) fun h3 st3 w3 => ?_
 have stt := st2.trans st3;exact hE φ1 { s1 with heap := h3, toks := s1.toks } a vals σ1 c ((X1.toS F.own).stp G1 stt) (G1.stp hN stt) ((I.ext G X1).stp G1 stt) (.inr ⟨L, hL, w3⟩) (fun _ => rfl) hP
theorem bj.mark {h : Option Value} (R : bj K hn d A) : bj K false d (A.mark h) := ⟨nft, R.frames, R.depth, R.units⟩
theorem bj.weak (R : bj K hn d A) : bj K false d A := ⟨nft, R.frames, R.depth, R.units⟩
theorem cq.hand {N : Nat} (x : cq X .none N fl h a) : cE (A.mark (some (.ref a))) h (.ref a) := by
 obtain ⟨_, o, vs, tb, ot, tvs, ho, hc, hd, hsz, h1, h2, _⟩ := x;exact .inr ⟨a, o, vs, rfl, rfl, ho, hd, h2⟩
theorem nE {body fs : List Stmt} {f₀ : Stmt} (hK : K.fs = F.env :: outer)
  (h : TSX K true d F vals σ (execs body F.env) (fun r v' σ' => r = .next ∧ TSX K true d F v' σ' (execs (f₀ :: fs) F.env) (fun r v σ => r = .next ∧ P .next v σ) X false XP) X true
   (fun v' σ' => TSX K false d F v' σ' (execs (f₀ :: fs) F.env) (fun r v σ => r = .next ∧ XP v σ) X false XP)) :
  TSX K true d F vals σ (exec (.Try body [] [] (f₀ :: fs) pos) F.env) P X false XP := fun A φ s c R hh G I Q E hQ hE => by
 have hN : K.h0.objs.size ≤ s.heap.objs.size := G.grown;have hc := hh.none_of (R.hand rfl);subst hc;have late : ∀ (A' : Around) φ1 s1 a v1 σ1 c1, A'.frames = some K.fs → bo F.own φ s φ1 s1 → af K φ1 σ1 s1 → aM K F v1 φ1 s1.heap → iP X F c1 s.heap.objs.size s1.heap a → XP v1 σ1 → notedBy (model pw K.w) A' F.env (cameBackBy (model pw K.w) A F.env E) (.ref a) s1 := by
  intro A' φ1 s1 a v1 σ1 c1 hfr X1 G1 I1 w p;unfold notedBy;refine iP.note hK hfr G1 X1.size w fun h2 L hL st2 w2 => ?_
  refine kX hL w2 (l := K.fs) fun h3 st3 w3 => ?_
  have stt := st2.trans st3;exact hE φ1 { s1 with heap := h3, toks := s1.toks } a v1 σ1 c1 (X1.stp G1 stt) (G1.stp hN stt) (I1.stp G1 stt) (.inr ⟨L, hL, w3⟩) nft p
 refine wpAny_Try_finally (h A φ s .none R hh G I _ _ (fun φ1 s1 f r v1 σ1 X1 G1 I1 r1 p1 => ?_) fun φ1 s1 a v1 σ1 c1 X1 G1 I1 w hc1 p1 => ?_)
 ·obtain ⟨rfl, p1⟩ := p1;have r1 : f = .next := r1;subst r1;refine wpAny_execs_nil ?_;refine p1 A φ1 s1 .none R (hh.extS G I X1) G1 I1 _ _ (fun φ2 s2 f2 r2 v2 σ2 X2 G2 I2 rr p2 => ?_) fun φ2 s2 a v2 σ2 c' X2 G2 I2 w q p => late A φ2 s2 a v2 σ2 c' R.frames (X1.trans X2) G2 I2 (w.mono X1.size) p
  obtain ⟨rfl, p2⟩ := p2;have rr : f2 = .next := rr;subst rr;exact hQ φ2 s2 .next .next v2 σ2 (X1.trans X2) G2 I2 rfl p2
 have hc1 := hc1 rfl;subst hc1;refine iP.note hK R.frames G1 X1.size w fun h2 L hL st2 w2 => ?_
 refine ⟨nofun, ?_⟩;refine iD hL w2 (d5 (fr := none) (l := K.fs) w2 fun h3 st3 w3 => ?_);have stt := st2.trans st3;have G3 : af K φ1 σ1 { s1 with heap := h3, toks := s1.toks } := G1.stp hN stt;have X3 : bo F.own φ s φ1 { s1 with heap := h3, toks := s1.toks } := X1.stp G1 stt;have I3 : aM K F v1 φ1 h3 := I1.stp G1 stt;have w3 : cq X .none s.heap.objs.size .none h3 a := w3;refine p1 (A.mark (some (.ref a))) φ1 { s1 with heap := h3, toks := s1.toks } (.ref a) R.mark w3.hand G3 I3 _ _ (fun φ4 s4 f4 r4 v4 σ4 X4 G4 I4 rr p4 => ?_) fun φ4 s4 a' v4 σ4 c' X4 G4 I4 w q p => late _ φ4 s4 a' v4 σ4 c' R.frames (X3.trans X4) G4 I4 (w.mono X3.size) p
 obtain ⟨rfl, p4⟩ := p4;have rr : f4 = .next := rr;subst rr;have w4 : cq X .none s.heap.objs.size .none s4.heap a := by
  obtain ⟨hNa, o, vs, tb, ot, tvs, ho, hc, hd, hsz, h1, h2, hNt, hta, htb, hdt, h3', h4⟩ := w3;have kp : ∀ b ob vb, h3.get? b = some ob → ob.data = .fields vb → s4.heap.get? b = some ob := fun b ob vb e hdb => (X4.keep b ob e (fun q => by
   obtain ⟨_, _, _, _, y⟩ := G3.cellOf q;exact y.notRec e vb hdb) (fun q => by
   obtain ⟨_, _, o', e', hh⟩ := I3.own b q;rw [e] at e'; cases e';exact hh.2 vb hdb)).exact fun es n q => by rw [hdb] at q; cases q
  exact ⟨hNa, o, vs, tb, ot, tvs, kp _ _ _ ho hd, hc, hd, hsz, h1, h2, hNt, hta, kp _ _ _ htb hdt, hdt, h3', h4⟩
 refine uh hL w4 (l := K.fs) fun h5 st5 w5 => ?_
 exact hE φ4 { s4 with heap := h5, toks := s4.toks } a v4 σ4 .none ((X3.trans X4).stp G4 st5) (G4.stp hN st5) (I4.stp G4 st5) (.inr ⟨L, hL, w5⟩) nft p4
theorem pb {body suite : List Stmt} {b₀ : Stmt} {x : Str} {np hp : Pos} {T : String} (hK : K.fs = F.env :: outer) (h : TSX K true d F vals σ (execs body F.env) P T st XP)
  (hn : ∀ v' σ', EvE K false d F v' σ' (.Name x np) (.glob (.type T)) σ') (hx : ∀ v' σ', XP v' σ' → TSt K false d F v' σ' (execs (b₀ :: suite) F.env) P)
  (hexc : isSubtype (.type T) (.type "BaseException") = pure true) (hnt : isSubtype (.type ((Manifest.find? T).elim "type" fun x => x.metatype)) (.type "tuple") = pure false) (hsub : isSubtype (.type T) (.type T) = pure true) :
  TSt K true d F vals σ (exec (.Try body [.ExceptHandler (some (.Name x np)) none (b₀ :: suite) hp] [] [] pos) F.env) P := fun A φ s R G I Q E hQ => by
 have hN : K.h0.objs.size ≤ s.heap.objs.size := G.grown;refine wpAny_Try_except (h A φ s .none R (.inl ⟨R.hand rfl, rfl⟩) G I _ _ (fun φ1 s1 f r v1 σ1 X1 G1 I1 r1 p1 => ?_) fun φ1 s1 a v1 σ1 c1 X1 G1 I1 w _ p1 => ?_)
 ·cases r with
  | next =>
   have r1 : f = .next := r1;subst r1;exact wpAny_execs_nil (hQ φ1 s1 .next .next v1 σ1 X1 G1 I1 rfl p1)
  | brk =>
   have r1 : f = .brk := r1;subst r1;exact hQ φ1 s1 _ .brk v1 σ1 X1 G1 I1 rfl p1
  | cont =>
   have r1 : f = .cont := r1;subst r1;exact hQ φ1 s1 _ .cont v1 σ1 X1 G1 I1 rfl p1
  | ret v =>
   obtain ⟨V, rfl, r1⟩ := r1;exact hQ φ1 s1 _ (.ret v) v1 σ1 X1 G1 I1 ⟨V, rfl, r1⟩ p1
 refine iP.note hK R.frames G1 X1.size w fun h2 L hL st2 w2 => ?_
 refine d5 (fr := none) (l := K.fs) w2 fun h3 st3 w3 => ?_
 have stt := st2.trans st3;have G3 : af K φ1 σ1 { s1 with heap := h3, toks := s1.toks } := G1.stp hN stt;have X3 : bo F.own φ s φ1 { s1 with heap := h3, toks := s1.toks } := X1.stp G1 stt;have I3 : aM K F v1 φ1 h3 := I1.stp G1 stt;refine wpAny_handleBy_builtin (X := T) (T := T) (b := true) hexc hnt hsub ?_;refine hn v1 σ1 (A.mark (some (.ref a))) φ1 { s1 with heap := h3, toks := s1.toks } R.mark G3 I3 _ _ fun φ4 s4 V4 X4 G4 r4 => ?_
 have I4 := I3.ext G3 X4;unfold RV at r4;have kp : ∀ b ob vb, h3.get? b = some ob → ob.data = .fields vb → s4.heap.get? b = some ob := fun b ob vb e hdb => (X4.keep b ob e (fun q => by
  obtain ⟨_, _, _, _, y⟩ := G3.cellOf q;exact y.notRec e vb hdb)).exact fun es n q => by rw [hdb] at q; cases q
 have w4 : cq T c1 s.heap.objs.size .none s4.heap a := by
  obtain ⟨hNa, o, vs, tb, ot, tvs, ho, hc, hd, hsz, h1, h2, hNt, hta, htb, hdt, h3', h4⟩ := w3;exact ⟨hNa, o, vs, tb, ot, tvs, kp _ _ _ ho hd, hc, hd, hsz, h1, h2, hNt, hta, kp _ _ _ htb hdt, hdt, h3', h4⟩
 have X34 := X3.trans (X4.toS _);refine ⟨r4, ?_, ?_⟩
 ·obtain ⟨_, o, vs, _, _, _, ho, hc, _⟩ := w4;exact ⟨o, ho, hc⟩
 rw [if_pos rfl];refine d5 (fr := none) (l := K.fs) w4 fun h5 st5 w5 => ?_
 refine hx v1 σ1 p1 (A.mark (some (.ref a))) φ4 { s4 with heap := h5, toks := s4.toks } R.mark (G4.stp hN st5) (I4.stp G4 st5) _ _ fun φ6 s6 f6 r6 v6 σ6 X6 G6 I6 rr p6 => ?_
 exact hQ φ6 s6 f6 r6 v6 σ6 ((X34.stp G4 st5).trans X6) G6 I6 rr p6
end
theorem fD (a : Str) : sLt a a = false := by
 unfold sLt;rw [decide_eq_false_iff_not];exact List.lt_irrefl _
theorem pX {a b c : Str} (h1 : sLt a b = true) (h2 : sLt b c = true) : sLt a c = true := by
 unfold sLt at *;rw [yh] at *;exact List.lt_trans h1 h2
theorem u0 {a b : Str} (h : a.cps.toList = b.cps.toList) : a = b := by
 cases a; cases b; congr; exact Array.toList_inj.mp h
theorem kz (a b : Str) : sLt a b = true ∨ a = b ∨ sLt b a = true := by
 unfold sLt;simp only [yh];rcases Classical.em (a.cps.toList < b.cps.toList) with h | h
 ·exact .inl h
 rcases Classical.em (b.cps.toList < a.cps.toList) with h' | h'
 ·exact .inr (.inr h')
 exact .inr (.inl (u0 (List.le_antisymm (List.not_lt.mp h') (List.not_lt.mp h))))
theorem aO : ∀ k : Key, kLt k k = false
 | [] => rfl
 | a :: k => by unfold kLt; rw [if_pos rfl]; exact aO k
theorem cy : ∀ {a b c : Key}, kLt a b = true → kLt b c = true → kLt a c = true
 | [], [], c, h, _ => by cases h
 | [], b :: k, [], _, h => by cases h
 | [], b :: k, c :: k', _, _ => rfl
 | a :: k, [], c, h, _ => by cases h
 | a :: k, b :: k', [], _, h => by cases h
 | a :: k, b :: k', c :: k'', h1, h2 => by
  unfold kLt at h1 h2 ⊢;by_cases e1 : a = b
  ·subst e1;rw [if_pos rfl] at h1;by_cases e2 : a = c
   ·subst e2;rw [if_pos rfl] at h2 ⊢;exact cy h1 h2
   rw [if_neg e2] at h2 ⊢;exact h2
  rw [if_neg e1] at h1;by_cases e2 : b = c
  ·subst e2;rw [if_neg e1];exact h1
  rw [if_neg e2] at h2;have h3 := pX h1 h2;by_cases e3 : a = c
  ·subst e3;rw [fD] at h3; cases h3
  rw [if_neg e3]; exact h3
theorem cz : ∀ a b : Key, kLt a b = true ∨ a = b ∨ kLt b a = true
 | [], [] => .inr (.inl rfl)
 | [], b :: k => .inl rfl
 | a :: k, [] => .inr (.inr rfl)
 | a :: k, b :: k' => by
  unfold kLt;by_cases e : a = b
  ·subst e;rw [if_pos rfl, if_pos rfl];rcases cz k k' with h | h | h
   ·exact .inl h
   ·exact .inr (.inl (by rw [h]))
   exact .inr (.inr h)
  rw [if_neg e, if_neg (fun q => e q.symm)];rcases kz a b with h | h | h
  ·exact .inl h
  ·exact absurd h e
  exact .inr (.inr h)
theorem eZ {a b : Key} (h : kLt a b = true) : kLt b a = false := by
 cases q : kLt b a with
 | false => rfl
 | true => have := cy h q; rw [aO] at this; cases this
theorem gW {a b : Key} (h : kLt a b = true) : a ≠ b := by
 rintro rfl;rw [aO] at h; cases h
theorem jy (k : Key) {l : Key} (h : l ≠ []) : kLt k (k ++ l) = true := by
 induction k with
 | nil => cases l with
  | nil => exact absurd rfl h
  | cons => rfl
 | cons a k ih => show (if a = a then kLt k (k ++ l) else _) = true; rw [if_pos rfl]; exact ih
theorem rW (k : Key) (l l' : Key) : kLt (k ++ l) (k ++ l') = kLt l l' := by
 induction k with
 | nil => rfl
 | cons a k ih => show (if a = a then kLt (k ++ l) (k ++ l') else _) = _; rw [if_pos rfl]; exact ih
def Srt (l : List Key) : Prop := l.Pairwise fun a b => kLt a b = true
theorem Srt.nodup {l : List Key} (h : Srt l) : l.Nodup := h.imp fun h => gW h
theorem Srt.get {l : List Key} (h : Srt l) {i j : Nat} {a b : Key} (hij : i < j) (h1 : l[i]? = some a) (h2 : l[j]? = some b) : kLt a b = true := by
 obtain ⟨hi, rfl⟩ := x7 h1;obtain ⟨hj, rfl⟩ := x7 h2;exact List.pairwise_iff_getElem.mp h i j hi hj hij
theorem Srt.ext : ∀ {l l' : List Key}, Srt l → Srt l' → (∀ x, x ∈ l ↔ x ∈ l') → l = l'
 | [], [], _, _, _ => rfl
 | [], b :: l', _, _, h => absurd ((h b).mpr (xT ..)) (by simp)
 | a :: l, [], _, _, h => absurd ((h a).mp (xT ..)) (by simp)
 | a :: l, b :: l', s1, s2, h => by
  obtain ⟨p1, q1⟩ := List.pairwise_cons.mp s1;obtain ⟨p2, q2⟩ := List.pairwise_cons.mp s2;have hab : a = b := by
   rcases yy ((h a).mp (xT ..)) with e | e
   ·exact e
   rcases yy ((h b).mpr (xT ..)) with e' | e'
   ·exact e'.symm
   have x := p2 a e;have y := p1 b e';have := cy x y;rw [aO] at this; cases this
  subst hab;have ne1 : ∀ x ∈ l, x ≠ a := fun x hx e => by have := p1 x hx; rw [e, aO] at this; cases this
  have ne2 : ∀ x ∈ l', x ≠ a := fun x hx e => by have := p2 x hx; rw [e, aO] at this; cases this
  rw [Srt.ext q1 q2 fun x => ⟨fun hx => (yy ((h x).mp (xC _ hx))).resolve_left (ne1 x hx), fun hx => (yy ((h x).mpr (xC _ hx))).resolve_left (ne2 x hx)⟩]
theorem Srt.filter {l : List Key} (h : Srt l) (p : Key → Bool) : Srt (l.filter p) := List.Pairwise.filter p h
structure ej (E A : List Key) (i j : Nat) (m u : List Key) : Prop where
 hi : i ≤ E.length
 hj : j ≤ A.length
 m : m = (E.take i).filter fun x => decide (x ∉ A)
 u : u = (A.take j).filter fun x => decide (x ∉ E)
 lo : ∀ x ∈ E.take i, ∀ y ∈ A.drop j, kLt x y = true
 up : ∀ y ∈ A.take j, ∀ x ∈ E.drop i, kLt y x = true
theorem ah {α : Type} {l : List α} {a : α} (h : l[i]? = some a) : l.take (i + 1) = l.take i ++ [a] := by
 rw [List.take_add_one, h]; rfl
theorem dl {α : Type} {l : List α} {a : α} (h : l[i]? = some a) : l.drop i = a :: l.drop (i + 1) := by
 obtain ⟨hi, rfl⟩ := x7 h;rw [xd hi]
theorem ql {α : Type} {l : List α} (j : Nat) {x : α} : x ∈ l ↔ x ∈ l.take j ∨ x ∈ l.drop j := by
 rw [← yD, List.take_append_drop]
theorem Srt.drop_le {l : List Key} (h : Srt l) {i : Nat} {a x : Key} (ha : l[i]? = some a) (hx : x ∈ l.drop i) : x = a ∨ kLt a x = true := by
 have hd : Srt (l.drop i) := h.sublist (List.drop_sublist ..);rw [dl ha] at hx hd;rcases yy hx with e | e
 ·exact .inl e
 exact .inr ((List.pairwise_cons.mp hd).1 x e)
theorem Srt.drop_lt {l : List Key} (h : Srt l) {i : Nat} {a x : Key} (ha : l[i]? = some a) (hx : x ∈ l.drop (i + 1)) : kLt a x = true := by
 have hd : Srt (l.drop i) := h.sublist (List.drop_sublist ..);rw [dl ha] at hd;exact (List.pairwise_cons.mp hd).1 x hx
section
variable {E A : List Key} {i j : Nat} {m u : List Key} {e a : Key}
theorem ej.start (E A : List Key) : ej E A 0 0 [] [] := ⟨z7 _, z7 _, rfl, rfl, fun x hx => by simp at hx, fun x hx => by simp at hx⟩
theorem ej.lt (hE : Srt E) (hA : Srt A) (D : ej E A i j m u) (he : E[i]? = some e) (ha : A[j]? = some a) (h : kLt e a = true) : ej E A (i + 1) j (m ++ [e]) u := by
 have hi := (x7 he).1;have hn : e ∉ A := by
  rw [ql j];rintro (q | q)
  ·have := D.up e q e (by rw [dl he]; exact xT ..);rw [aO] at this; cases this
  rcases hA.drop_le ha q with rfl | q
  ·rw [aO] at h; cases h
  have := eZ h; rw [q] at this; cases this
 refine ⟨hi, D.hj, ?_, D.u, fun x hx y hy => ?_, fun y hy x hx => D.up y hy x (by rw [dl he]; exact xC _ hx)⟩
 ·rw [ah he, xZ, D.m];congr 1;rw [List.filter_cons_of_pos (by simpa using hn), List.filter_nil]
 rw [ah he] at hx;rcases yd hx with q | q
 ·exact D.lo x q y hy
 have q : x = e := by simpa using q
 subst q;rcases hA.drop_le ha hy with rfl | q
 ·exact h
 exact cy h q
theorem ej.swap (D : ej E A i j m u) : ej A E j i u m := ⟨D.hj, D.hi, D.u, D.m, D.up, D.lo⟩
theorem ej.eq (hE : Srt E) (hA : Srt A) (D : ej E A i j m u) (he : E[i]? = some e) (ha : A[j]? = some e) : ej E A (i + 1) (j + 1) m u := by
 have hi := (x7 he).1;have hj := (x7 ha).1;refine ⟨hi, hj, ?_, ?_, fun x hx y hy => ?_, fun y hy x hx => ?_⟩
 ·rw [ah he, xZ, ← D.m, List.filter_cons_of_neg (by simpa using xB ha), List.filter_nil, yG]
 ·rw [ah ha, xZ, ← D.u, List.filter_cons_of_neg (by simpa using xB he), List.filter_nil, yG]
 ·rw [ah he] at hx;rcases yd hx with q | q
  ·exact D.lo x q y (by rw [dl ha]; exact xC _ hy)
  have q : x = e := by simpa using q
  subst q;exact hA.drop_lt ha hy
 rw [ah ha] at hy;rcases yd hy with q | q
 ·exact D.up y q x (by rw [dl he]; exact xC _ hx)
 have q : y = e := by simpa using q
 subst q;exact hE.drop_lt he hx
theorem ej.fin1 (D : ej E A i j m u) (h : i = E.length ∨ j = A.length) : m ++ E.drop i = E.filter fun x => decide (x ∉ A) := by
 have e : E.filter (fun x => decide (x ∉ A)) = (E.take i).filter (fun x => decide (x ∉ A)) ++ (E.drop i).filter fun x => decide (x ∉ A) := by
  rw [← xZ, List.take_append_drop]
 rw [e, D.m];congr 1;rcases h with rfl | rfl
 ·simp
 rw [eq_comm, List.filter_eq_self];intro x hx;have := D.up;rw [yv] at this;rw [yh];intro q;have := this x q x hx;rw [aO] at this; cases this
theorem ej.fin2 (D : ej E A i j m u) (h : i = E.length ∨ j = A.length) : u ++ A.drop j = A.filter fun x => decide (x ∉ E) := D.swap.fin1 h.symm
end
theorem nB (l b : Addr) (items items2 : Array Value) (n n2 : Nat) (dd dd2 : Option Addr) (sl sl2 : Array (Option Value)) (k k' : List Str) (h1 : tE k items.toList) (h2 : tE k' items2.toList) :
  Meets (Builtin.«tuple.__gt__» ⟨[.ref l, .ref b], []⟩)
   (fun A R s => s.heap.get? l = some { cls := .type "tuple", dict := dd, data := .seq items n, slots := sl } ∧ s.heap.get? b = some { cls := .type "tuple", dict := dd2, data := .seq items2 n2, slots := sl2 } ∧
    R (.ok (.ret (.bool (kLt k' k)))) s) :=
 .of_wp fun prog w A R s h => by
  obtain ⟨hp, g, d, tk, os⟩ := s; obtain ⟨hl, hb, h⟩ := h;have f2 := PySem.AutoSeq1.sub_tuple_tuple;have hZ : (items.toList.zip items2.toList).length = min items.size items2.size := by simp
  have s1 : items.size = k.length := by have := h1.1; simpa using this
  have s2 : items2.size = k'.length := by have := h2.1; simpa using this
  wp_walk using wpAny_loadPart' hl, wpAny_loadPart' hb, wpAny_forIn_list _ (fun rest b s' => TlJ ⟨hp, g, d, tk, os⟩ items items2 (fun i => kLt k' k = kLt (k'.drop i) (k.drop i)) rest b.1 s') _
  case turn =>
   rintro ⟨y, x⟩ rest b s' ⟨hb', rfl, i, hi, hz, hR⟩;have hlt : i < (items.toList.zip items2.toList).length := by
    rcases z0 i (items.toList.zip items2.toList).length with h' | h'
    ·exact h'
    rw [xr h'] at hz; cases hz
   have hm : i < min items.size items2.size := hZ ▸ hlt;have e1 : i < items.size := xU hm (Nat.min_le_left _ _);have e2 : i < items2.size := xU hm (yo _ _);rw [xd hlt] at hz;injection hz with hyx hrest
   have hy : y = items[i] := by have := congrArg Prod.fst hyx; simpa using this
   have hx : x = items2[i] := by have := congrArg Prod.snd hyx; simpa using this
   have hk1 : k[i]? = some k[i] := xg (by omega);have hk2 : k'[i]? = some k'[i] := xg (by omega);obtain ⟨t1, p1⟩ := h1.2 i _ hk1;obtain ⟨t2, p2⟩ := h2.2 i _ hk2;have p1 : items[i] = .str k[i] t1 := by simpa [e1] using p1
   have p2 : items2[i] = .str k'[i] t2 := by simpa [e2] using p2
   rw [p1] at hy; rw [p2] at hx;subst hy hx;rw [xd (by exact s1 ▸ e1 : i < k.length), xd (by lia : i < k'.length)] at hR;refine za (EqAt.str_str k[i] t1 k'[i] t2 prog w _ _ ?_);cases hy : (k[i] == k'[i]) with
   | true =>
    have hy : k[i] = k'[i] := by simpa using hy
    wp_walk
    refine ⟨rfl, rfl, i + 1, by assumption, hrest, ?_⟩;rw [hR];show (if k'[i] = k[i] then _ else _) = _;rw [if_pos hy.symm]
   | false =>
    have hy : k[i] ≠ k'[i] := by simpa using hy
    have hres : kLt k' k = sLt k'[i] k[i] := by
     rw [hR];show (if k'[i] = k[i] then _ else _) = _;rw [if_neg (Ne.symm hy)]
    refine wpAny_ite_true rfl (za (wpAny_rule (za (m := compareOp .Gt (.str k[i] t1) (.str k'[i] t2)) (P.gt_str ?_))));refine za (zb (zb ?_));refine zb ⟨_, rfl, ?_⟩;rw [hres] at h;exact h
  case fin =>
   rintro ⟨b1, b2⟩ s' ⟨hb', rfl, i, hi, hz, hR⟩;simp only at hb';subst hb';have hge : min items.size items2.size ≤ i := by
    rcases z0 i (items.toList.zip items2.toList).length with h' | h'
    ·rw [xd h'] at hz; cases hz
    exact hZ ▸ h'
   have hres : kLt k' k = decide (items.size > items2.size) := by
    rw [hR, s1, s2];rcases z0 i k'.length with q | q
    ·rw [xr (sZ s1 s2 hge q : k.length ≤ i), kJ];rw [eq_comm, decide_eq_false_iff_not]; exact yO (yU (xV (sZ s1 s2 hge q) q))
    rw [xr q];rcases z0 i k.length with q' | q'
    ·rw [xd q'];show true = _;rw [eq_comm, yh]; exact xV ‹_› ‹_›
    rw [xr q'];show false = _;rw [eq_comm, decide_eq_false_iff_not]; exact yO (yT q' (yT hi (yT (yo ..) (yV s2))))
   wp_walk
   refine ⟨_, rfl, ?_⟩;rw [hres] at h;exact h
  case h =>
   exact ⟨rfl, rfl, 0, z7 _, rfl, rfl⟩
theorem ui {k : List Str} : P2 K hn d σ (compareOp .Gt) (kv k) (kv k') (.bool (kLt k' k)) σ := fun A φ s V1 V2 R G r r' Q E hQ => by
 have hu : A.units < cLine := by have := R.units; have : cLine = 9900 := rfl; exact aC ‹_› this
 obtain ⟨a, xs, rfl, x, q⟩ := RV.tup r;obtain ⟨a', xs', rfl, x', q'⟩ := RV.tup r';obtain ⟨⟨cls, dd, data, sl⟩, ho, hc, n, hd⟩ := id x;obtain ⟨⟨cls2, dd2, data2, sl2⟩, ho2, hc2, n2, hd2⟩ := id x';simp only at hc hd hc2 hd2;subst hc hd hc2 hd2;exact richCompare_meets_room (op := .Gt) ⟨_, ho, rfl⟩ ⟨_, ho2, rfl⟩ PySem.F.slot_tuple_gt PySem.F.entry_tuple_gt (PySem.F.args_tuple_gt_2 _ _) (nB a a' xs xs' n n2 dd dd2 sl sl2 k k' (dw q) (dw q')) ⟨ho, ho2, show Value.bool (kLt k' k) ≠ Value.notImplemented ∧ Q (.bool (kLt k' k)) s from ⟨(fun x => nomatch x), hQ φ s _ (Ext.refl ..) G (az _)⟩⟩ hu
theorem ky {x : Str} {value : Expr} (h : EvE K hn d F vals σ value v σ1) (hi : F.names[i]? = some x) (hj : F.names[j]? = some y) (hbx : Bnd F x) (hby : Bnd F y) (hP : P .next ((vals.set i (some v)).set j (some v)) σ1)
  (he : (assignEach [.Name x p1, .Name y p2] F.env).map (·.2) = [assign (.Name x p1) F.env, assign (.Name y p2) F.env] := by rfl) (hw : swappedStores [.Name x p1, .Name y p2] value F.env = pure none := by rfl) :
  TSt K hn d F vals σ (exec (.Assign [.Name x p1, .Name y p2] value pos) F.env) P := fun A φ s R G I Q E hQ =>
 wpAny_Assign_two (h A φ s R G I _ _ fun φ1 s1 V1 X1 G1 r1 => wpAny_assign_Name (aN G1 (I.ext G X1) hi hbx r1 fun s2 X2 G2 I2 => wpAny_assign_Name (aN G2 I2 hj hby (r1.extS G1 (I.ext G X1) X2) fun s3 X3 G3 I3 =>
  hQ φ1 s3 .next .next _ _ (((X1.toS _).trans X2).trans X3) G3 I3 rfl hP))) he hw
inductive CutP (v : Val) (σ' : a8) (v' : Val) (s' : a8) : Prop
 | mk (h : v' = v) (g : a8) (e : s' = σ' ++ g)
inductive PickP (σ' : a8) (l : List Val) (v' : Val) (s' : a8) : Prop
 | mk (k : Nat) (g : a8) (h : v' = .ref k) (e : s' = σ' ++ g) (hk : (σ' ++ g)[k]? = some (.list l)) (hn : σ'.length ≤ k)
theorem PCX.cut (h : PCX K hn d σ f l kw (CutP v σ')) (hl : σ.length ≤ σ'.length) (hc : am σ') (hv : bel σ'.length v = true) : PC K hn d σ f l kw v σ' := fun A φ s Vs Ws R G r1 r2 Q E hQ =>
 h A φ s Vs Ws R G r1 r2 Q E fun φ1 s1 V v' σ1 X1 G1 q1 p => by
  obtain ⟨rfl, g, rfl⟩ := p;exact hQ _ s1 V (X1.cut (by rw [G.len]; exact hl)) (G1.cut hc) (q1.cut hv)
theorem PCX.pick (h : PCX K hn d σ f l0 kw (PickP σ' l)) (hl : σ.length ≤ σ'.length) (hc : am σ') (hb : bx σ'.length l = true) :
  PC K hn d σ f l0 kw (.ref σ'.length) (σ' ++ [.list l]) := fun A φ s Vs Ws R G r1 r2 Q E hQ =>
 h A φ s Vs Ws R G r1 r2 Q E fun φ1 s1 V v' σ1 X1 G1 q1 p => by
  obtain ⟨k, g, rfl, rfl, hk, hkn⟩ := p;obtain ⟨a, ha, G2, q2⟩ := G1.pick hc hk hkn hb q1;exact hQ _ s1 V (X1.pick (by rw [G.len]; exact hl) ha hkn) G2 q2
theorem PCX.mono {P P' : Val → a8 → Prop} (h : PCX K hn d σ f l0 kw P) (hp : ∀ v s, P v s → P' v s) : PCX K hn d σ f l0 kw P' := fun A φ s Vs Ws R G r1 r2 Q E hQ =>
 h A φ s Vs Ws R G r1 r2 Q E fun φ1 s1 V v' σ1 X1 G1 q1 p => hQ φ1 s1 V v' σ1 X1 G1 q1 (hp v' σ1 p)
theorem Wld.defX (H : Wld K.toKB) {t : FT} (ht : t ∈ iO) {l dflt : List Val} {kw : List (Str × Val)} {P : Val → a8 → Prop} {params rest : List Str} (hbind : bL K.toKB t l.length (kw.map (·.1)) params dflt)
  (hlen : params.length = l.length + kw.length + dflt.length) (hnod : (params ++ rest).Nodup)
  (hkind : ∀ x ∈ params, (ch t.st).names.lookup x = some .local ∨ ((ch t.st).names.lookup x = some .cell ∧ ∀ n, ((cellsFrom n (ch t.st).names []).lookup x).isSome = true))
  (hco : (ch t.st).isCoroutine = false) (hgen : (ch t.st).isGenerator = false) (hki : (ch t.st).kind = .function)
  (hb : ∀ L, Wld (K.push (frm t L (params ++ rest)).env).toKB → TSt (K.push (frm t L (params ++ rest)).env) hn d (frm t L (params ++ rest)) ((l ++ kw.map (·.2) ++ dflt).map some ++ List.replicate rest.length none) σ (execs (ax t.st) (frm t L (params ++ rest)).env)
   (fnX P)) :
  PCX K hn (d + 1) σ (.ref t.a) l kw P := by
 obtain ⟨o, doc, pm, ct, an, ho, hd, hc⟩ := H.fn t ht;obtain ⟨Ds, hDs, hB⟩ := hbind;exact tq (fd := { iM t with doc := doc, pyModule := pm, closureTuple := ct, annotations := an }) (body := ax t.st) ⟨⟨o, ho, hd⟩, hc, rfl, rfl, rfl, rfl, hco, hgen, hki⟩ H.lim
  ⟨Ds, hDs, fun s Vs Ws h1 h2 h3 => hB doc pm ct an s Vs Ws h1 h2 (by rw [h3, yA])⟩ hlen hnod hkind fun L => hb L H
theorem Wld.defC (H : Wld K.toKB) {t : FT} (ht : t ∈ iO) {l dflt : List Val} {kw : List (Str × Val)} {P : Val → a8 → Prop} {params rest : List Str} (hbind : bL K.toKB t l.length (kw.map (·.1)) params dflt)
  (hlen : params.length = l.length + kw.length + dflt.length) (hnod : (params ++ rest).Nodup)
  (hkind : ∀ x ∈ params, (ch t.st).names.lookup x = some .local ∨ ((ch t.st).names.lookup x = some .cell ∧ ∀ n, ((cellsFrom n (ch t.st).names []).lookup x).isSome = true))
  (hco : (ch t.st).isCoroutine = false) (hgen : (ch t.st).isGenerator = false) (hki : (ch t.st).kind = .function)
  (hb : ∀ L, Wld (K.push (frm t L (params ++ rest)).env).toKB → TSt (K.push (frm t L (params ++ rest)).env) hn d (frm t L (params ++ rest)) ((l ++ kw.map (·.2) ++ dflt).map some ++ List.replicate rest.length none) σ (execs (ax t.st) (frm t L (params ++ rest)).env)
   (fnX P)) :
  PCC K hn (d + 1) σ (.ref t.a) l kw P := by
 obtain ⟨o, doc, pm, ct, an, ho, hd, hc⟩ := H.fn t ht;obtain ⟨Ds, hDs, hB⟩ := hbind;exact tt (fd := { iM t with doc := doc, pyModule := pm, closureTuple := ct, annotations := an }) (body := ax t.st) ⟨⟨o, ho, hd⟩, hc, rfl, rfl, rfl, rfl, hco, hgen, hki⟩ H.lim
  ⟨Ds, hDs, fun s Vs Ws h1 h2 h3 => hB doc pm ct an s Vs Ws h1 h2 (by rw [h3, yA])⟩ hlen hnod hkind fun L => hb L H
theorem at0 (σ l : a8) (c : ag) : (σ ++ c :: l)[σ.length]? = some c := by simp
theorem at1 (σ l : a8) (c0 c : ag) : (σ ++ c0 :: c :: l)[σ.length + 1]? = some c := by
 rw [x9 (z8 _)];have : σ.length + 1 - σ.length = 1 := by exact xn ..
 rw [this]; rfl
theorem ad {σ : a8} {c : ag} (l : a8) (h : σ[k]? = some c) : (σ ++ l)[k]? = some c := by
 rw [xc (x7 h).1]; exact h
theorem mr (σ l : a8) (c c' : ag) : (σ ++ c :: l).set σ.length c' = σ ++ c' :: l := by
 rw [List.set_append_right _ _ (z6 _), z5]; rfl
theorem u5 (σ l : a8) (c0 c c' : ag) : (σ ++ c0 :: c :: l).set (σ.length + 1) c' = σ ++ c0 :: c' :: l := by
 rw [List.set_append_right _ _ (z8 _)];have : σ.length + 1 - σ.length = 1 := by exact xn ..
 rw [this]; rfl
theorem set0' (σ l g : a8) (c c' : ag) : ((σ ++ c :: l) ++ g).set σ.length c' = σ ++ c' :: (l ++ g) := by rw [yf]; exact mr σ (l ++ g) c c'
theorem set1' (σ l g : a8) (c0 c c' : ag) : ((σ ++ c0 :: c :: l) ++ g).set (σ.length + 1) c' = σ ++ c0 :: c' :: (l ++ g) := by rw [yf]; exact u5 σ (l ++ g) c0 c c'
theorem eB {hn : Bool} {F : Frm} {vals : ai} {σ1 : a8} {P : FR → ai → a8 → Prop} {test : Expr} {body : List Stmt} (h : EvB K hn d F vals σ test false σ1) (hP : P .next vals σ1) : TSt K hn d F vals σ (exec (.While test body [] pos) F.env) P := fun A φ s R G I Q E hQ => by
 refine wpAny_While (codeAny_whileLoop (fun _ s' => s' = s) (fun n s' e => ?_) 0 rfl);subst e;refine h A φ s' R G I _ _ fun φ2 s2 b' X2 G2 r2 => ?_
 subst r2;simp only [ya, if_false];exact wpAny_execs_nil (hQ φ2 s2 .next .next vals σ1 (X2.toS _) G2 (I.ext G X2) rfl hP)
inductive dfJ (σ : a8) (ke ka : Nat) (E A : List Key) : ai → a8 → Prop
 | mk (i j : Nat) (m u : List Key) (x y : Option Val) (g : a8) (q0 : ej E A i j m u) (q1 : (i = E.length ∨ j = A.length)) : dfJ σ ke ka E A [some (.ref ke), some (.ref ka), some (.int i), some (.int j), some (.ref σ.length), some (.ref (σ.length + 1)), x, y] (σ ++ [.list ((m ++ E.drop i).map kv), .list ((u ++ A.drop j).map kv)] ++ g)
inductive dfK (σ : a8) (ke ka : Nat) (E A : List Key) : Nat → ai → a8 → Prop
 | mk (i j : Nat) (m u : List Key) (x y : Option Val) (q1 : ej E A i j m u) : dfK σ ke ka E A (E.length + A.length - (i + j)) [some (.ref ke), some (.ref ka), some (.int i), some (.int j), some (.ref σ.length), some (.ref (σ.length + 1)), x, y] (σ ++ [.list (m.map kv), .list (u.map kv)])
inductive dfX (σ : a8) (ke ka : Nat) (E A : List Key) : ai → a8 → Prop
 | mk (i j : Nat) (m u : List Key) (x y : Option Val) (q0 : ej E A i j m u) (q1 : (i = E.length ∨ j = A.length)) : dfX σ ke ka E A [some (.ref ke), some (.ref ka), some (.int i), some (.int j), some (.ref σ.length), some (.ref (σ.length + 1)), x, y] (σ ++ [.list (m.map kv), .list (u.map kv)])
theorem ri (H : Wld K.toKB) {ke ka : Nat} {E A : List Key} (he : σ[ke]? = some (.list (E.map kv))) (ha : σ[ka]? = some (.list (A.map kv))) (hE : Srt E) (hA : Srt A) (hlE : E.length < 1000) (hlA : A.length < 1000) (hc : am σ) :
  PC K true (d + 1) σ (.ref 309) [.ref ke, .ref ka] [] (.tup [.ref σ.length, .ref (σ.length + 1)]) (σ ++ [.list ((E.filter fun x => decide (x ∉ A)).map kv), .list ((A.filter fun x => decide (x ∉ E)).map kv)]) := by
 have hsl : (2 : Nat) ^ 20 ≤ sizeLine := by decide
 have hcl : am (σ ++ [.list ((E.filter fun x => decide (x ∉ A)).map kv), .list ((A.filter fun x => decide (x ∉ E)).map kv)]) := by
  have h1 := hc.push (c := .list ((E.filter fun x => decide (x ∉ A)).map kv)) (aI _ _);have h2 := h1.push (c := .list ((A.filter fun x => decide (x ∉ E)).map kv)) (aI _ _);rwa [yf] at h2
 refine PCX.cut ?_ (by simp) hcl (by simp [bel, bx]);refine H.defX (t := dE) (params := ["expected", "actual"]) (rest := ["i", "j", "missing", "unexpected", "e", "a"]) (dflt := []) (xB (i := 15) rfl) (cD fun _ _ _ _ _ _ => rfl) rfl (by decide +kernel) (aL rfl) rfl rfl rfl fun L H => ?_
 show TSt _ _ _ _ _ _ (execs (ax (stm 42)) _) _;refine a9 (ku (k := id) ?_);refine a9 (ky (i := 2) (j := 3) (aR (n := 0)) rfl rfl (.inl rfl) (.inl rfl) ?_);refine a9 (ab 4 (dk ac) rfl (.inl rfl) ?_);refine a9 (ab 5 (dk ac) rfl (.inl rfl) ?_);have hl1 : (σ ++ [ag.list []]).length = σ.length + 1 := by simp
 rw [hl1];have hln : ∀ c c' : ag, (σ ++ [c, c']).length = σ.length + 2 := fun _ _ => by simp
 refine iv (dfJ σ ke ka E A) ?_ ?_
 ·refine dy (dfK σ ke ka E A) ?_ (E.length + A.length - (0 + 0)) (by rw [yf σ]; exact ⟨0, 0, [], [], none, none, ej.start E A⟩);intro n v' s' h0;refine dfK.rec (fun i j m u x y D => ?_) h0;refine ⟨true, _, dp h8 cu, ntf, fun _ => ?_⟩;have hi := D.hi;have hj := D.hj;have hke := fun l => ad l he
  have hka := fun l => ad l ha
  have hmk := at0 σ [ag.list (u.map kv)] (ag.list (m.map kv));have huk := at1 σ [] (ag.list (m.map kv)) (ag.list (u.map kv));have hml : m.length < 1000 := by rw [D.m]; exact xV (yT (xw ..) (by rw [yn]; exact yo ..)) hlE
  have hul : u.length < 1000 := by rw [D.u]; exact xV (yT (xw ..) (by rw [yn]; exact yo ..)) hlA
  refine a9 (pb (T := "IndexError") (st := false) rfl (XP := dfX σ ke ka E A) ?_ (fun _ _ => H.built rfl rfl) ?_ PySem.F.isExc_IndexError PySem.F.notTuple_IndexError PySem.F.self_IndexError)
  ·rcases z0 i E.length with hiE | hiE
   ·have heE : E[i]? = some (gk E i) := by unfold gk; rw [xg hiE]; rfl
    refine bF (ab 6 (aV (a7 0 rfl rfl) (a7 2 rfl rfl) (ar (hke _)) (aq (hke _) (bt hiE) (yW (yW ‹_› ‹_›) (by decide)))) rfl (.inl rfl) ?_);rcases z0 j A.length with hjA | hjA
    ·have haA : A[j]? = some (gk A j) := by unfold gk; rw [xg hjA]; rfl
     refine bF (ab 7 (aV (a7 1 rfl rfl) (a7 3 rfl rfl) (ar (hka _)) (aq (hka _) (bt hjA) (lC hjA hlA rfl))) rfl (.inl rfl) ?_);refine bC (uP (av (a7 6 rfl rfl) (a7 7 rfl rfl) ls) (fun hlt => ?_) (fun hlt => ?_))
     ·have D' := D.lt hE hA heE haA hlt;refine bF (ci (bZ (a7 4 rfl rfl) (cw hmk xh xi) (.blt _) (aa (a7 6 rfl rfl) ac) (cN hmk (by rw [yA]; exact yT (yU ‹_›) (by decide)))) rfl ?_);rw [mr, show m.map kv ++ [kv (gk E i)] = (m ++ [gk E i]).map kv by rw [yC]; rfl];refine bF (cp (i := 2) rfl rfl (aR (n := 1)) bG (.inl rfl) ?_);have hke' := fun l => ad l he
      rcases z0 (i + 1) E.length with h2 | h2
      ·have he2 : E[i + 1]? = some (gk E (i + 1)) := by unfold gk; rw [xg h2]; rfl
       have hne := gW (hE.get (yq i) heE he2);refine bF (eB (EvB.eq (av (aV (a7 0 rfl rfl) (a7 2 rfl rfl) (ar (hke' _)) (aq (hke' _) (bt h2) (yW (yW ‹_› ‹_›) (by decide)))) (a7 6 rfl rfl) dA) (by rw [decide_eq_false_iff_not]; exact fun q => hne q.symm)) ?_);exact d4 (d4 (ak ⟨E.length + A.length - (i + 1 + j), by exact sH (Nat.add_lt_add_right (yq i) j) (Nat.add_lt_add_of_lt_of_le hiE hj), i + 1, j, _, _, _, _, D'⟩))
      exact bC (bH rfl (jG (fQ (a7 0 rfl rfl) (a7 2 rfl rfl) (hke' _) (by rw [yA]; assumption) (yW (xV ‹_› ‹_›) (by decide)))) ⟨i + 1, j, _, _, _, _, D', .inl (yE ‹_› ‹_›)⟩)
     refine bC (uP (av (a7 6 rfl rfl) (a7 7 rfl rfl) ui) (fun hgt => ?_) (fun hgt => ?_))
     ·have D' := (D.swap.lt hA hE haA heE hgt).swap;refine bF (ci (bZ (a7 5 rfl rfl) (cw huk xh xi) (.blt _) (aa (a7 7 rfl rfl) ac) (cN huk (by rw [yA]; exact lF hul hsl rfl))) rfl ?_);rw [u5, show u.map kv ++ [kv (gk A j)] = (u ++ [gk A j]).map kv by rw [yC]; rfl];refine bF (cp (i := 3) rfl rfl (aR (n := 1)) bG (.inl rfl) ?_);have hka' := fun l => ad l ha
      rcases z0 (j + 1) A.length with h2 | h2
      ·have he2 : A[j + 1]? = some (gk A (j + 1)) := by unfold gk; rw [xg h2]; rfl
       have hne := gW (hA.get (yq j) haA he2);refine bF (eB (EvB.eq (av (aV (a7 1 rfl rfl) (a7 3 rfl rfl) (ar (hka' _)) (aq (hka' _) (bt h2) (lC h2 hlA rfl))) (a7 7 rfl rfl) dA) (by rw [decide_eq_false_iff_not]; exact fun q => hne q.symm)) ?_);exact d4 (d4 (d4 (ak ⟨E.length + A.length - (i + (j + 1)), by exact sH (yq (i + j)) (Nat.add_lt_add_of_lt_of_le hiE hj), i, j + 1, _, _, _, _, D'⟩)))
      exact bC (bH rfl (jG (fQ (a7 1 rfl rfl) (a7 3 rfl rfl) (hka' _) (by rw [yA]; assumption) (lD hjA hlA rfl))) ⟨i, j + 1, _, _, _, _, D', .inr (yE hjA h2)⟩)
     have hea : gk E i = gk A j := by
      rcases cz (gk E i) (gk A j) with q | q | q
      ·rw [q] at hlt; cases hlt
      ·exact q
      rw [q] at hgt; cases hgt
     have D' := D.eq hE hA heE (by rw [haA, hea]);refine bF (cp (i := 2) rfl rfl (aR (n := 1)) bG (.inl rfl) ?_);refine bC (nE rfl ?_);rcases z0 (i + 1) E.length with h2 | h2
     ·have he2 : E[i + 1]? = some (gk E (i + 1)) := by unfold gk; rw [xg h2]; rfl
      have hne := gW (hE.get (yq i) heE he2);refine bF (eB (EvB.eq (av (aV (a7 0 rfl rfl) (a7 2 rfl rfl) (ar (hke _)) (aq (hke _) (bt h2) (by lia))) (a7 6 rfl rfl) dA) (by rw [decide_eq_false_iff_not]; exact fun q => hne q.symm)) ?_);refine d4 ⟨rfl, ?_⟩;refine bF (cp (i := 3) rfl rfl (aR (n := 1)) bG (.inl rfl) ?_);rcases z0 (j + 1) A.length with h3 | h3
      ·have hj2 : A[j + 1]? = some (gk A (j + 1)) := by unfold gk; rw [xg h3]; rfl
       have hne := gW (hA.get (yq j) haA hj2);refine bF (eB (EvB.eq (av (aV (a7 1 rfl rfl) (a7 3 rfl rfl) (ar (hka _)) (aq (hka _) (bt h3) (by lia))) (a7 7 rfl rfl) dA) (by rw [decide_eq_false_iff_not]; exact fun q => hne q.symm)) ?_);exact d4 ⟨rfl, d4 (d4 (d4 (ak ⟨E.length + A.length - (i + 1 + (j + 1)), by exact sH (Nat.add_lt_add (yq i) (yq j)) (Nat.add_lt_add_of_lt_of_le hiE hj), i + 1, j + 1, _, _, _, _, D'⟩)))⟩
      exact bC (bH rfl (jG (fQ (a7 1 rfl rfl) (a7 3 rfl rfl) (hka _) (by rw [yA]; assumption) (by lia))) ⟨i + 1, j + 1, _, _, _, _, D', .inr (by lia)⟩)
     refine bC (bH rfl (jG (fQ (a7 0 rfl rfl) (a7 2 rfl rfl) (hke _) (by rw [yA]; assumption) (by lia))) ?_);refine bF (cp (i := 3) rfl rfl (aR (n := 1)) bG (.inl rfl) ?_);rcases z0 (j + 1) A.length with h3 | h3
     ·have hj2 : A[j + 1]? = some (gk A (j + 1)) := by unfold gk; rw [xg h3]; rfl
      have hne := gW (hA.get (yq j) haA hj2);refine bF (eB (EvB.eq (av (aV (a7 1 rfl rfl) (a7 3 rfl rfl) (ar (hka _)) (aq (hka _) (bt h3) (by lia))) (a7 7 rfl rfl) dA) (by rw [decide_eq_false_iff_not]; exact fun q => hne q.symm)) ?_);exact d4 ⟨rfl, i + 1, j + 1, _, _, _, _, D', .inl (by lia)⟩
     exact bC (bH rfl (jG (fQ (a7 1 rfl rfl) (a7 3 rfl rfl) (hka _) (by rw [yA]; assumption) (by lia))) ⟨i + 1, j + 1, _, _, _, _, D', .inr (by lia)⟩)
    exact bC (kh (fQ (a7 1 rfl rfl) (a7 3 rfl rfl) (hka _) (by rw [yA]; assumption) (yW (xV ‹_› ‹_›) (by decide))) ⟨i, j, m, u, _, _, D, .inr (yE ‹_› ‹_›)⟩)
   exact bC (kh (fQ (a7 0 rfl rfl) (a7 2 rfl rfl) (hke _) (by rw [yA]; assumption) (lD hi hlE rfl)) ⟨i, j, m, u, _, _, D, .inl (yE hi hiE)⟩)
  intro v' s' h0;refine dfX.rec (fun i j m u x y D hd => ?_) h0;have hi := D.hi;have hj := D.hj;have hml : m.length < 1000 := by rw [D.m]; exact xV (yT (xw ..) (by rw [yn]; exact yo ..)) hlE
  have hul : u.length < 1000 := by rw [D.u]; exact xV (yT (xw ..) (by rw [yn]; lia)) hlA
  have hmk := at0 σ [ag.list (u.map kv)] (ag.list (m.map kv));refine a9 (ci (bZ (a7 4 rfl rfl) (cw hmk PySem.F.slot_list_extend PySem.F.type_list_extend) (.blt _) (aa (b6 (a7 0 rfl rfl) (ap (a7 2 rfl rfl)) bf (ar (hke _)) (dU (hke _) (by rw [yA]; exact yT (yU ‹_›) (by decide)))) ac)
   (n9 (ad _ hmk) (ae ..) (by rw [yA, yr, yA]; exact yU (yW (Nat.add_lt_add hml (xV (Nat.sub_le ..) hlE)) (by decide))))) rfl ?_)
  rw [set0', ← List.map_drop, ← yC];rw [show [ag.list (List.map kv u)] ++ [ag.list (List.map kv (List.drop i E))] = [ag.list (List.map kv u), ag.list (List.map kv (List.drop i E))] from rfl];have huk := at1 σ [ag.list ((E.drop i).map kv)] (ag.list ((m ++ E.drop i).map kv)) (ag.list (u.map kv));refine a9 (ci (bZ (a7 5 rfl rfl) (cw huk PySem.F.slot_list_extend PySem.F.type_list_extend) (.blt _) (aa (b6 (a7 1 rfl rfl) (ap (a7 3 rfl rfl)) bf (ar (hka _)) (dU (hka _) (by rw [yA]; exact lF hlA hsl rfl))) ac)
   (n9 (ad _ huk) (ae ..) (by rw [yA, yr, yA]; lia))) rfl ?_)
  refine a9 (uQ ⟨rfl, ?_⟩);rw [set1', ← List.map_drop, ← yC];have h := dfJ.mk (σ := σ) (ke := ke) (ka := ka) i j m u x y [.list ((E.drop i).map kv), .list ((A.drop j).map kv)] D hd;rw [yf σ] at h;exact h
 intro v' s' h0;refine dfJ.rec (fun i j m u x y g D hd => ?_) h0;refine a9 (bm (bD (aa (a7 4 rfl rfl) (aa (a7 5 rfl rfl) ac)) (by show 2 ≤ sizeLine; decide)) ⟨rfl, g, ?_⟩);rw [D.fin1 hd, D.fin2 hd]
noncomputable def fi (x : Key) : List Key → List Key
 | [] => []
 | a :: l => if a = x then l else a :: fi x l
theorem mx (x : Key) : ∀ (l : List Key) (j : Nat), l[j]? = some x → (∀ m, m < j → l[m]? ≠ some x) → l.eraseIdx j = fi x l
 | [], j, h, _ => by simp at h
 | a :: l, 0, h, _ => by
  have h : a = x := by simpa using h
  unfold fi; rw [if_pos h]; rfl
 | a :: l, j + 1, h, hno => by
  have ha : a ≠ x := fun q => hno 0 (yF _ _) (by rw [q]; rfl)
  unfold fi;rw [if_neg ha, List.eraseIdx_cons_succ, mx x l j (by simpa using h) fun m hm q => hno (m + 1) (Nat.succ_lt_succ ‹_›) (by simpa using q)]
theorem kT {x : Key} : ∀ {l : List Key}, x ∈ l → ∃ j : Nat, l[j]? = some x ∧ ∀ m : Nat, m < j → l[m]? ≠ some x
 | [], h => by cases h
 | a :: l, h => by
  by_cases e : a = x
  ·exact ⟨0, by rw [e]; rfl, fun m hm => by lia⟩
  obtain ⟨j, h1, h2⟩ := kT ((yy h).resolve_left (Ne.symm e));refine ⟨j + 1, by simpa using h1, fun m hm q => ?_⟩;cases m with
  | zero => exact e (by simpa using q)
  | succ m => exact h2 m (Nat.lt_of_succ_lt_succ ‹_›) (by simpa using q)
theorem gt {α β : Type} (f : α → β) : ∀ (l : List α) (j : Nat), (l.eraseIdx j).map f = (l.map f).eraseIdx j
 | [], _ => rfl
 | a :: l, 0 => rfl
 | a :: l, j + 1 => by show f a :: (l.eraseIdx j).map f = _; rw [gt f l j]; rfl
theorem mw (x : Key) (l : List Key) : (fi x l).length ≤ l.length := by
 induction l with
 | nil => exact z6 _
 | cons a l ih =>
  unfold fi;split
  ·simp
  simp only [ym]; exact yj ‹_›
theorem RL.eraseIdx {φ : List Addr} {h : Heap} : ∀ {l : List Val} {Vs : List Value} (j : Nat), RL φ h l Vs → RL φ h (l.eraseIdx j) (Vs.eraseIdx j)
 | [], Vs, j, x => by unfold RL at x; rw [x]; show RL φ h [] []; unfold RL; rfl
 | v :: l, Vs, 0, x => by unfold RL at x; obtain ⟨V, Ws, rfl, _, r⟩ := x; exact r
 | v :: l, Vs, j + 1, x => by
  unfold RL at x;obtain ⟨V, Ws, rfl, r1, r2⟩ := x;show RL φ h (v :: l.eraseIdx j) (V :: Ws.eraseIdx j);unfold RL;exact ⟨V, _, rfl, r1, RL.eraseIdx j r2⟩
theorem lR (xs : Array Value) (j : Nat) : (xs.eraseIdxIfInBounds j).toList = xs.toList.eraseIdx j := by
 unfold Array.eraseIdxIfInBounds;split
 ·rw [Array.toList_eraseIdx]
 rename_i h;rw [List.eraseIdx_of_length_le];rw [xK]; exact Nat.le_of_not_lt ‹_›
theorem pr {keys : List Key} (q : RL φ h (keys.map kv) xs.toList) {j : Nat} (hj : j < xs.size) : ∃ k', keys[j]? = some k' ∧ RV φ h (kv k') xs[j] := by
 have e := q.length;rw [xK, yA] at e;have p : (keys.map kv)[j]? = some (kv keys[j]) := by rw [ye, xg (by exact e ▸ hj)]; rfl
 obtain ⟨V', z, r'⟩ := q.get j p;have z : V' = xs[j] := by simp [hj] at z; exact z.symm
 exact ⟨keys[j], xg (by lia), z ▸ r'⟩
open Classical in
theorem ti {A : List Key} {x : Key} (hk : σ[k]? = some (.list (A.map kv))) (hx : x ∈ A) (hsz : A.length < 2 ^ 20) : PC K hn d σ (.builtin "list.remove") [.ref k, kv x] [] .none (σ.set k (.list ((fi x A).map kv))) := fun Ar φ s Vs Ws R G r1 r2 Q E hQ => by
 have hsl : (2 : Nat) ^ 20 ≤ sizeLine := by decide
 have hu : Ar.units + 3 < cLine := by have := R.units; have : cLine = 9900 := rfl; exact aB ‹_› this (n := 2) (by decide)
 obtain ⟨V, W, rfl, q1, q2⟩ := bO r1;have r2 : Ws = [] := by unfold RL at r2; exact r2
 subst r2;obtain ⟨a, xs, n, rfl, ha, ho, r⟩ := G.listObj q1 hk;have e := r.length;rw [xK, yA] at e;obtain ⟨j, h1, h2⟩ := kT hx;have hj : j < xs.size := by rw [e]; exact (x7 h1).1
 have hin := (iU (A := Ar) G hu r q2).1;have hat : ∀ m (hm : m < xs.size), decide (RV φ s.heap (kv x) xs[m]) = decide (A[m]? = some x) := fun m hm => by
  obtain ⟨k', hk', r'⟩ := pr r hm;rw [hk', yH, yh, yh];constructor
  ·intro q; rw [dJ r' q]
  intro q; injection q with q; rw [← q]; exact r'
 refine call_meets PySem.F.slot_list_remove ⟨_, ho, rfl⟩ PySem.F.entry_list_remove (PySem.F.args_list_remove_2 _ _) (jW a xs n W (fun y => decide (RV φ s.heap (kv x) y)) j hj (by rw [hat j hj, yh]; exact h1) (fun m hm hlt => by rw [hat m hm, decide_eq_false_iff_not]; exact h2 m hlt) (lH e hsz hsl rfl)) ⟨ho, hin, ?_⟩;obtain ⟨G', X', _⟩ := G.mapList (f := fun l => l.eraseIdxIfInBounds j) (t := s.toks) ha ho (l' := (fi x A).map kv) (by
  rw [lR, ← mx x A j h1 h2, gt];exact r.eraseIdx j)
 exact hQ φ _ _ X' G' (by unfold RV; rfl)
def PCE (K : KC) (hn : Bool) (d : Nat) (σ : a8) (f : Value) (l : List Val) (X : String) (σ' : a8) : Prop :=
 ∀ (A : Around) (φ : List Addr) (s : Shared) (c : Value) (Vs : List Value), bj K hn d A → cE A s.heap c → af K φ σ s → RL φ s.heap l Vs → ∀ (Q : Value → Shared → Prop) (E : Value → Shared → Prop),
  (∀ φ' s' a, Ext φ s φ' s' → af K φ' σ' s' → eP X c s.heap.objs.size s'.heap a → E (.ref a) s') → wpAny (model pw K.w) A (call f Vs) Q E s
open Classical in
theorem qA {A : List Key} {x : Key} (hk : σ[k]? = some (.list (A.map kv))) (hx : x ∉ A) (hsz : A.length < 2 ^ 20) : PCE K true d σ (.builtin "list.remove") [.ref k, kv x] "ValueError" σ := fun Ar φ s c Vs R hh G r1 Q E hE => by
 have hu : Ar.units + 3 < cLine := by have := R.units; have : cLine = 9900 := rfl; exact aB ‹_› this (n := 2) (by decide)
 have hc := hh.none_of (R.hand rfl);subst hc;obtain ⟨V, W, rfl, q1, q2⟩ := bO r1;obtain ⟨a, xs, n, rfl, ha, ho, r⟩ := G.listObj q1 hk;have hin := (iU (A := Ar) G hu r q2).1;have hat : ∀ m (hm : m < xs.size), decide (RV φ s.heap (kv x) xs[m]) = false := fun m hm => by
  obtain ⟨k', hk', r'⟩ := pr r hm;rw [decide_eq_false_iff_not];intro q;rw [dJ r' q] at hk';exact hx (xB hk')
 refine call_meets PySem.F.slot_list_remove ⟨_, ho, rfl⟩ PySem.F.entry_list_remove (PySem.F.args_list_remove_2 _ _) (fO a xs n W (fun y => decide (RV φ s.heap (kv x) y)) hat) ⟨ho, hin, R.hand rfl, fun h' tk e hk hz hf => ?_⟩;exact hE φ _ e (Ext.keepAll hk hz) (G.keepAll hk hz rfl rfl) hf
theorem uA {o : Expr} {name : Str} {a : Val} (h1 : EvE K hn d F vals σ o a σ1) (hm : oS K σ1 a name f) (hc : cS K.toKB f)
  (ha : EvL K hn d F vals σ1 pos (e :: args) l σ2) (hp : PCE K hn d σ2 f (a :: l) X σ3)
  (hbase : attributeBase o name F.env (eval o F.env) = eval o F.env := by rfl)
  (hfew : methodCallForm ((e :: args).length + ([] : List Keyword).length) (backTo pos (starEach (e :: args) F.env)) (backToKw pos (keywordEach [] F.env)) = true := by rfl) (hline : (apos.endLine == pos.line) = true := by rfl)
  (he : starEach (e :: args) F.env = (false, eval e F.env) :: starEach args F.env := by rfl)
  (hs : (backTo pos (starEach args F.env)).any (·.1) = false := by rfl) :
  EvR K hn d F vals σ (eval (.Call (.Attribute o name apos) (e :: args) [] pos) F.env) X σ3 := fun A φ s c R hh G I Q E hE => by
 rw [arm_eval_Call, hbase];refine za (h1 A φ s R G I _ _ fun φ1 s1 V1 X1 G1 r1 => ?_);refine za (wpAny_standAt ?_);have hpos : methodCallPos true o F.env apos pos = pure pos := by unfold methodCallPos; simp [hline]
 unfold methodCall;rw [hfew];refine za (yP (hm A φ1 s1 V1 _ G1 r1 _ _ ?_));refine za (z9 hpos ?_);have I1 := I.ext G X1;refine aT hc ?_ ?_
 ·rw [he]; exact xk ⟨xk ⟨rfl, hs⟩, rfl⟩
 have ha' := ha A φ1 s1 R G1 I1;rw [he] at ha' ⊢;refine evalArgs_kw rfl (ha' _ _ fun φ2 s2 Vs X2 G2 r2 => wpAny_evalAll_nil ⟨G2.base, ?_⟩);have X12 := X1.trans X2;exact hp A φ2 s2 c (V1 :: Vs) R (hh.extS G I (X12.toS _)) G2 (by unfold RL; exact ⟨V1, Vs, rfl, r1.ext G1 X2, r2⟩) Q E fun φ3 s3 b X3 G3 w => hE φ3 s3 b (X12.trans X3) G3 (w.mono X12.size)
noncomputable def uld : List Key → List Key → List Key → List Key × List Key
 | [], A, m => (m, A)
 | x :: r, A, m => if x ∈ A then uld r (fi x A) m else uld r A (m ++ [x])
theorem oV : ∀ (r A m : List Key), (uld r A m).1.length ≤ m.length + r.length ∧ (uld r A m).2.length ≤ A.length
 | [], A, m => ⟨z6 _, z6 _⟩
 | x :: r, A, m => by
  unfold uld;split
  ·have := oV r (fi x A) m;have := mw x A;simp only [ym]; exact ⟨yk (And.left ‹_ ∧ _›), yT (And.right ‹_ ∧ _›) this⟩
  have := oV r A (m ++ [x]);simp only [xR, ym, List.length_nil] at *; exact ⟨yT this.1 (yV (xW m.length 1 r.length)), this.2⟩
inductive udJ (σ : a8) (ke ka : Nat) (E A : List Key) (n : Nat) (v' : ai) (s' : a8) : Prop
 | mk (E' A' m : List Key) (y : Option Val) (q0 : n = E'.length) (q1 : E'.length ≤ E.length) (q2 : A'.length ≤ A.length) (q3 : m.length + E'.length ≤ E.length) (q4 : uld E'.reverse A' m = uld E.reverse A []) (q5 : v' = [some (.ref ke), some (.ref ka), some (.ref σ.length), y]) (q6 : s' = ((σ.set ke (.list (E'.map kv))).set ka (.list (A'.map kv))) ++ [.list (m.map kv)])
theorem qL (H : Wld K.toKB) {ke ka : Nat} {E A : List Key} (he : σ[ke]? = some (.list (E.map kv))) (ha : σ[ka]? = some (.list (A.map kv))) (hne : ke ≠ ka) (hlE : E.length < 1000) (hlA : A.length < 1000) :
  PC K true (d + 1) σ (.ref 316) [.ref ke, .ref ka] [] (.tup [.ref σ.length, .ref ka]) (((σ.set ke (.list [])).set ka (.list ((uld E.reverse A []).2.map kv))) ++ [.list ((uld E.reverse A []).1.map kv)]) := by
 have hsl : (2 : Nat) ^ 20 ≤ sizeLine := by decide
 have hke := (x7 he).1;have hka := (x7 ha).1;refine H.def (t := cZ) (params := ["expected", "actual"]) (rest := ["missing", "item"]) (dflt := []) (xB (i := 16) rfl) (cD fun _ _ _ _ _ _ => rfl) rfl (by decide +kernel) (aL rfl) rfl rfl rfl fun L H => ?_
 show TSt _ _ _ _ _ _ (execs (ax (stm 43)) _) _;refine a9 (ku (k := id) ?_);refine a9 (ab 2 (dk ac) rfl (.inl rfl) ?_);refine a9 (dy (udJ σ ke ka E A) ?_ E.length ⟨E, A, [], none, rfl, z6 _, z6 _, by simp, rfl, rfl, by rw [← gc he, ← gc ha]; rfl⟩);rintro n v' s' ⟨E', A', m, y, rfl, hE', hA', hm, hu, rfl, rfl⟩;have hlen : ((σ.set ke (.list (E'.map kv))).set ka (.list (A'.map kv))).length = σ.length := by simp
 have gE : (((σ.set ke (.list (E'.map kv))).set ka (.list (A'.map kv))) ++ [.list (m.map kv)])[ke]? = some (.list (E'.map kv)) := ad _ (by rw [xF (Ne.symm hne), xq hke]);refine ⟨!(E'.map kv).isEmpty, _, dp (a7 0 rfl rfl) (qU gE (by rw [yA]; exact yU (lD hE' hlE rfl))), fun hb => ?_, fun hb => ?_⟩
 ·have : E' = [] := by
   cases E' with
   | nil => rfl
   | cons => cases hb
  subst this;refine a9 (bm (bD (aa (a7 2 rfl rfl) (aa (a7 1 rfl rfl) ac)) (by show 2 ≤ sizeLine; decide)) ⟨?_, rfl⟩);rw [← hu]; rfl
 obtain ⟨E2, x, rfl⟩ : ∃ E2 x, E' = E2 ++ [x] := by
  rcases xA E' with h | ⟨E2, x, h⟩
  ·subst h; cases hb
  exact ⟨E2, x, by rw [h]; simp⟩
 rw [xR, xt] at hE' hm ⊢;rw [List.reverse_append, List.reverse_singleton, List.singleton_append] at hu;have gE' : (((σ.set ke (.list ((E2 ++ [x]).map kv))).set ka (.list (A'.map kv))) ++ [.list (m.map kv)])[ke]? = some (.list (E2.map kv ++ [kv x])) := by rw [gE, yC]; rfl
 refine a9 (ab 3 (pC (a7 0 rfl rfl) (cw gE' PySem.F.slot_list_pop PySem.F.type_list_pop) (.blt _) (uW gE' (by rw [yA]; exact yW (yW ‹_› ‹_›) (by decide)))) rfl (.inl rfl) ?_);have eS : (((σ.set ke (ag.list ((E2 ++ [x]).map kv))).set ka (ag.list (A'.map kv))) ++ [ag.list (m.map kv)]).set ke (ag.list (E2.map kv)) = ((σ.set ke (ag.list (E2.map kv))).set ka (ag.list (A'.map kv))) ++ [ag.list (m.map kv)] := by
  rw [List.set_append_left _ _ (by simpa using hke), List.set_comm _ _ (Ne.symm hne), List.set_set, List.set_comm _ _ hne]
 rw [eS];have hlen2 : ((σ.set ke (.list (E2.map kv))).set ka (.list (A'.map kv))).length = σ.length := by simp
 have gA : (((σ.set ke (.list (E2.map kv))).set ka (.list (A'.map kv))) ++ [.list (m.map kv)])[ka]? = some (.list (A'.map kv)) := ad _ (by rw [xq (by simpa using hka)]);rw [show uld (x :: E2.reverse) A' m = if x ∈ A' then uld E2.reverse (fi x A') m else uld E2.reverse A' (m ++ [x]) from rfl] at hu;by_cases hx : x ∈ A'
 ·rw [if_pos hx] at hu;refine a9 (d8 (a9 (ci (bZ (a7 1 rfl rfl) (cw gA PySem.F.slot_list_remove PySem.F.type_list_remove) (.blt _) (aa (a7 3 rfl rfl) ac) (ti gA hx (yW (xV ‹_› ‹_›) (by decide)))) rfl (ak ?_))));refine ak ⟨E2.length, by exact yq _, E2, fi x A', m, _, rfl, by exact yU ‹_›, yT (mw ..) hA', by exact yU ‹_›, hu, rfl, ?_⟩;rw [List.set_append_left _ _ (by simpa using hka), List.set_set]
 rw [if_neg hx] at hu;refine a9 (pb (T := "ValueError") (st := false) rfl (XP := fun v' s' => v' = [some (.ref ke), some (.ref ka), some (.ref σ.length), some (kv x)] ∧ s' = ((σ.set ke (.list (E2.map kv))).set ka (.list (A'.map kv))) ++ [.list (m.map kv)])
  (bC (tY (uA (a7 1 rfl rfl) (cw gA PySem.F.slot_list_remove PySem.F.type_list_remove) (.blt _) (aa (a7 3 rfl rfl) ac) (qA gA hx (lD hA' hlA rfl))) ⟨rfl, rfl⟩))
  (fun _ _ => H.built rfl rfl) ?_ PySem.F.isExc_ValueError PySem.F.notTuple_ValueError PySem.F.self_ValueError)
 rintro v' s' ⟨rfl, rfl⟩;have gM : (((σ.set ke (.list (E2.map kv))).set ka (.list (A'.map kv))) ++ [.list (m.map kv)])[σ.length]? = some (.list (m.map kv)) := by
  have := ae ((σ.set ke (.list (E2.map kv))).set ka (.list (A'.map kv))) (.list (m.map kv));rwa [hlen2] at this
 refine a9 (ci (bZ (a7 2 rfl rfl) (cw gM xh xi) (.blt _) (aa (a7 3 rfl rfl) ac) (cN gM (by rw [yA]; exact lG (yT (yp ..) hm) hlE hsl rfl))) rfl (ak ?_));refine ak ⟨E2.length, by exact yq _, E2, A', m ++ [x], _, rfl, by exact Nat.le_of_succ_le hE', hA', by rw [xR, xt]; exact yT (yV (xW ..)) hm, hu, rfl, ?_⟩;have := mo ((σ.set ke (.list (E2.map kv))).set ka (.list (A'.map kv))) (.list (m.map kv)) (.list (m.map kv ++ [kv x]));rw [hlen2] at this;rw [this, yC]; rfl
noncomputable def dget (l : List (Str × Val)) (x : Str) : Option Val := (l.find? fun p => decide (p.1 = x)).map (·.2)
theorem RD.pairs {w : World} {φ : List Addr} {h : Heap} : ∀ {l : List (Str × Val)} {es : List DictEntry}, RD φ h l es → ∃ kvs : List (Str × Value), Pairs (strKind pw w) es kvs ∧ kvs.map (·.1) = l.map (·.1) ∧ RL φ h (l.map (·.2)) (kvs.map (·.2))
 | [], es, x => by have x : es = [] := x; subst x; exact ⟨[], .nil, rfl, by show RL φ h [] []; unfold RL; rfl⟩
 | (y, v) :: l, es, x => by
  obtain ⟨e, r, rfl, ⟨t, ht⟩, r1, r2⟩ := x;obtain ⟨kvs, p1, p2, p3⟩ := RD.pairs (w := w) r2;refine ⟨(y, e.val) :: kvs, .cons (by rw [ht]; exact strKind_is _ _ _ _) rfl p1, by simp [p2], ?_⟩;show RL φ h (v :: l.map (·.2)) (e.val :: kvs.map (·.2));unfold RL;exact ⟨_, _, rfl, r1, p3⟩
theorem RD.append {φ : List Addr} {h : Heap} {e : DictEntry} {x : Str} {t : Tok} {v : Val} (he : e.key = .str x t) (rv : RV φ h v e.val) : ∀ {l : List (Str × Val)} {es : List DictEntry}, RD φ h l es → RD φ h (l ++ [(x, v)]) (es ++ [e])
 | [], es, r => by have r : es = [] := r; subst r; exact ⟨e, [], rfl, ⟨t, he⟩, rv, rfl⟩
 | (y, u) :: l, es, r => by
  obtain ⟨e', r', rfl, ht, r1, r2⟩ := r;exact ⟨e', _, rfl, ht, r1, RD.append he rv r2⟩
theorem nv {φ : List Addr} {h : Heap} {x : Str} : ∀ {l : List (Str × Val)} {kvs : List (Str × Value)}, kvs.map (·.1) = l.map (·.1) → RL φ h (l.map (·.2)) (kvs.map (·.2)) →
  (∀ v, dget l x = some v → ∃ V, valueAt kvs x = some V ∧ RV φ h v V) ∧ (dget l x = none → valueAt kvs x = none)
 | [], kvs, e, r => by
  have : kvs = [] := by simpa using e
  subst this;exact ⟨fun v h => by simp [dget] at h, fun _ => rfl⟩
 | (y, v) :: l, [], e, r => by cases e
 | (y, v) :: l, (y', V) :: kvs, e, r => by
  simp only [yR, List.cons.injEq] at e;obtain ⟨rfl, e⟩ := e;simp only [yR] at r;unfold RL at r;obtain ⟨V', Ws, e', r1, r2⟩ := r;cases e';have ih := nv (x := x) e r2
  delta dget valueAt
  rw [List.find?_cons, List.find?_cons];by_cases hy : y' = x
  ·simp only [hy, decide_true, Option.map_some];exact ⟨fun v' q => by cases q; exact ⟨_, rfl, r1⟩, fun q => by cases q⟩
  simp only [hy, decide_false];exact ih
theorem Wld.notMods (H : Wld K.toKB) {φ : List Addr} {s : Shared} {a : Addr} (G : af K φ σ s) (ha : a ∈ φ) : (a == sysModules) = false := by
 have h1 := (G.hi a ha).1;obtain ⟨o, _, _, _, _, ho, _⟩ := H.fn oW (xB (i := 26) rfl);have h2 : 452 < K.h0.objs.size := al ho;have h3 : sysModules = 1 := rfl;rw [h3, beq_eq_false_iff_ne];intro q;have : K.h0.objs.size ≤ 1 := q ▸ h1;exact absurd (xU h2 (q ▸ h1)) (by decide)
theorem af.dictAt {s : Shared} {l : List (Str × Val)} (G : af K φ σ s) (r : RV φ s.heap (.ref k) V) (hk : σ[k]? = some (.dict l)) (hn : (l.map (·.1)).Nodup) :
  ∃ a kvs, V = .ref a ∧ φ[k]? = some a ∧ s.heap.DictAt (strKind pw K.w) a kvs l.length ∧ kvs.map (·.1) = l.map (·.1) ∧ RL φ s.heap (l.map (·.2)) (kvs.map (·.2)) := by
 unfold RV at r;obtain ⟨a, e, rfl⟩ := r;obtain ⟨o, es, n, ho, hc, hd, ⟨hkk, rfl⟩, rd⟩ := G.cells k a _ e hk;obtain ⟨kvs, p1, p2, p3⟩ := RD.pairs (w := K.w) rd;exact ⟨a, kvs, rfl, e, ⟨o, es, ho, hc, hd, hkk, p1, by rw [p2]; exact hn⟩, p2, p3⟩
theorem pD : EvE K hn d F vals σ (.Dict [] [] pos) (.ref σ.length) (σ ++ [.dict []]) := fun A φ s R G I Q E hQ => by
 refine wpAny_Dict_empty ?_;refine hQ (φ ++ [s.heap.objs.size]) _ _ (Ext.alloc ..) (G.alloc _ (.dict []) ⟨_, #[], 0, xL _ rfl, ⟨rfl, rfl, rfl⟩, rfl, ⟨fun _ h => by simp at h, rfl⟩, rfl⟩) ?_;unfold RV;exact ⟨s.heap.objs.size, by rw [← G.len]; simp, rfl⟩
theorem lq (H : Wld K.toKB) {k : Nat} {l : List (Str × Val)} {x : Str} (hk : σ[k]? = some (.dict l)) (hnd : (l.map (·.1)).Nodup) : P2 K hn d σ (compareOp .NotIn) (.str x) (.ref k) (.bool (!(dget l x).isSome)) σ := fun A φ s V1 V2 R G r r' Q E hQ => by
 obtain ⟨a, kvs, rfl, ha, hm, h1, h2⟩ := G.dictAt r' hk hnd;unfold RV at r; obtain ⟨t, rfl⟩ := r;refine wpAny_notIn_of (k := x) (strKind_is _ _ _ _) (H.notMods G (xB ha)) hm.dictOf.mapOf ?_;have hv := nv (x := x) h1 h2;have : (valueAt kvs x).isSome = (dget l x).isSome := by
  cases hd : dget l x with
  | none => rw [hv.2 hd]; rfl
  | some v => obtain ⟨V, e, _⟩ := hv.1 v hd; rw [e]; rfl
 rw [this];exact hQ φ _ _ (Ext.toks ..) (G.toks _) (az _)
theorem jB {l : List (Str × Val)} (hk : σ[k]? = some (.dict l)) : fZ K σ (.ref k) := fun φ s V G r => by
 unfold RV at r;obtain ⟨a, e, rfl⟩ := r;obtain ⟨o, es, n, ho, hc, _⟩ := G.cells k a _ e hk;exact ⟨"dict", _, ⟨o, ho, hc.1⟩, slot_dict_getitem.lookup⟩
theorem eD {l : List (Str × Val)} {x : Str} (hk : σ[k]? = some (.dict l)) (hnd : (l.map (·.1)).Nodup) (hv : dget l x = some v) : P2 K hn d σ getItem (.ref k) (.str x) v σ := fun A φ s V1 V2 R G r r' Q E hQ => by
 obtain ⟨a, kvs, rfl, ha, hm, h1, h2⟩ := G.dictAt r hk hnd;unfold RV at r'; obtain ⟨t, rfl⟩ := r';obtain ⟨V, e, rv⟩ := (nv (x := x) h1 h2).1 v hv;refine wpAny_getItem_of (k := x) (strKind_is _ _ _ _) hm.dictOf.mapOf e ?_;exact hQ φ _ _ (Ext.toks ..) (G.toks _) rv
theorem jO {s : Shared} {d : Addr} {es : Array DictEntry} {ep : Nat} {x : Str} {v : Value} {Q : Unit → Shared → Prop} (ho : s.heap.get? d = some o) (hc : o.ExactDict)
  (hd : o.data = .dict es ep) (hk : KeysOf (strKind pw w) es) (hno : (es.findIdx? fun e => (strKind pw w).is x e.key) = none) (hes : es.size ≤ sizeLine)
  (hQ : Q () { s with heap := s.heap.update d (Obj.mapDictKeys (·.push ⟨(strKind pw w).hash x, .str x t, v⟩)), toks := s.toks + 1 }) :
  wpAny (model pw w) A (setItem (.ref d) (.str x t) v) Q E s := by
 have hT : s.TypeIs (.ref d) "dict" := ⟨o, ho, hc.1⟩
 delta setItem
 try with_reducible refine yP ?_
 refine za (wpAny_sequenceKey hT (by decide) ?_);refine za (wpAny_callSpecial?_slot (name := Str.ofString "__setitem__") hT slot_dict_setitem (wpAny_call_entry slot_dict_setitem hT entry_dict_setitem ?_ (args_dict_setitem _ _ _)));show wpAny _ _ (Builtin.Dict.notOrdered "__setitem__" ⟨[.ref d, .str x t, v], []⟩ >>= _) _ _ s;refine za (wpAny_notOrdered_dict hT ?_);show wpAny _ _ (dictSet d (.str x t) v >>= _) _ _ s;refine za ?_
 delta dictSet
 try with_reducible refine yP ?_
 refine za ((strKind pw w).pyHash (k := x) (strKind_is _ _ _ _) ?_)
 delta dictSetHashed
 try with_reducible refine yP ?_
 refine za (wpAny_dictFind_of (s := { s with toks := s.toks + 1 }) (strKind_is _ _ _ _) ho hd hk ?_);rw [hno];refine za (wpAny_rule (wpAny_updateDictKeys (hz := hes) (s := { s with toks := s.toks + 1 }) ho hd ?_));exact zb ⟨.none, rfl, zb hQ⟩
theorem qv {x : Str} {l : List (Str × Val)} {es : Array DictEntry} (r : RD φ h l es.toList) (hx : dget l x = none) : (es.findIdx? fun e => (strKind pw w).is x e.key) = none := by
 have aux : ∀ (l : List (Str × Val)) (es : List DictEntry), RD φ h l es → dget l x = none → ∀ e ∈ es, (strKind pw w).is x e.key = false := by
  intro l
  induction l with
  | nil => intro es r _ e he; have r : es = [] := r; subst r; cases he
  | cons p l ih =>
   obtain ⟨y, v⟩ := p;intro es r hx e he;obtain ⟨e', r', rfl, ⟨t, ht⟩, r1, r2⟩ := r
   delta dget at hx
   rw [List.find?_cons] at hx;by_cases hy : y = x
   ·simp [hy] at hx
   simp only [hy, decide_false] at hx;rcases yy he with rfl | he
   ·rw [ht];have := KeyKind.is_eq_decide (knd := strKind pw w) (k := y) (v := .str y t) (strKind_is _ _ _ _) x;rw [this, decide_eq_false_iff_not];exact Ne.symm hy
   exact ih r' r2 hx e he
 rw [Array.findIdx?_eq_none_iff];intro e he;exact aux l es.toList r hx e (by simpa using he)
theorem rm {o value : Expr} {l : List (Str × Val)} {x : Str} (h1 : EvE K hn d F vals σ value v σ1) (h2 : EvE K hn d F vals σ1 o (.ref k) σ2) (h3 : EvE K hn d F vals σ2 ie (.str x) σ3)
  (hk : σ3[k]? = some (.dict l)) (hx : dget l x = none) (hsz : l.length < 1000) (hP : P .next vals (σ3.set k (.dict (l ++ [(x, v)]))))
  (hs : swapsWith value (some (.Subscript o ie p')) pos.line F.env = pure false := by rfl) : TSt K hn d F vals σ (exec (.Assign [.Subscript o ie p'] value pos) F.env) P := fun A φ s R G I Q E hQ => by
 have hsl : (2 : Nat) ^ 20 ≤ sizeLine := by decide
 refine wpAny_Assign_Subscript (h1 A φ s R G I _ _ fun φ1 s1 V1 X1 G1 r1 => h2 A φ1 s1 R G1 (I.ext G X1) _ _ fun φ2 s2 V2 X2 G2 r2 => h3 A φ2 s2 R G2 ((I.ext G X1).ext G1 X2) _ _ fun φ3 s3 V3 X3 G3 r3 => ?_) hs;have I3 := ((I.ext G X1).ext G1 X2).ext G2 X3;have rv := (r1.ext G1 X2).ext G2 X3;have rr := r2.ext G2 X3;unfold RV at rr;obtain ⟨a, ha, rfl⟩ := rr;obtain ⟨ob, es, n, ho, hc, hd, ⟨hkk, hnl⟩, rd⟩ := G3.cells k a _ ha hk;unfold RV at r3;obtain ⟨t, rfl⟩ := r3;have hes : es.size = l.length := by
  obtain ⟨kvs, p1, p2, _⟩ := RD.pairs (w := K.w) rd;have e1 := p1.length;have e2 := congrArg List.length p2;simp only [yA, xK] at e1 e2;exact e1.trans e2
 refine jO ho hc hd hkk (qv rd hx) (lH hes hsz hsl rfl) ?_;have hsb : Heap.SameBut a s3.heap (s3.heap.update a (Obj.mapDictKeys (·.push ⟨(strKind pw K.w).hash x, .str x t, V1⟩))) := Heap.SameBut.update ..
 have hnt : ∀ o', s3.heap.get? a = some o' → o'.cls ≠ .type "tuple" ∧ o'.cls ≠ .ref 387 := fun o' e => by rw [ho] at e; cases e; rw [hc.1]; exact ⟨by decide, nofun⟩
 have hdd := Obj.data_mapDictKeys hd (·.push ⟨(strKind pw K.w).hash x, .str x t, V1⟩);have hcell : b5 K.w φ3 (s3.heap.update a (Obj.mapDictKeys (·.push ⟨(strKind pw K.w).hash x, .str x t, V1⟩))) a (.dict (l ++ [(x, v)])) := by
  refine ⟨_, _, n + 1, xv _ ho (Obj.isFreed_of_dict hdd), hc.mapDictKeys _, hdd, ⟨hkk.push (strKind_is _ _ _ _) _, by rw [hnl]; simp⟩, ?_⟩;rw [Array.toList_push];refine RD.append rfl (rv.in_heap hsb hnt) ?_;exact rd.keep (fun b o' e h => (hsb.2 b fun q => by subst q; exact h.1.elim (hnt o' e).1 (hnt o' e).2).trans e) ⟨[], by simp⟩
 have G4 := G3.upd (t := s3.toks + 1) ha hsb hnt hcell;have X4 : Ext φ3 s3 φ3 { s3 with heap := s3.heap.update a (Obj.mapDictKeys (·.push ⟨(strKind pw K.w).hash x, .str x t, V1⟩)), toks := s3.toks + 1 } := Ext.upd (xB ha) hsb;exact hQ φ3 _ .next .next vals _ ((((X1.trans X2).trans X3).trans X4).toS _) G4 (I3.ext G3 X4) rfl hP
theorem oM {l : List (Str × Val)} (hk : σ[k]? = some (.dict l)) : PC K hn d σ (.builtin "isinstance") [.ref k, .glob (.type "list")] [] (.bool false) σ := fun A φ s Vs Ws R G r1 r2 Q E hQ => by
 obtain ⟨V, W, rfl, q1, q2⟩ := bO r1;have r2 : Ws = [] := by unfold RL at r2; exact r2
 subst r2;unfold RV at q1 q2;obtain ⟨a, ha, rfl⟩ := q1;subst q2;obtain ⟨o, es, n, ho, hc, _⟩ := G.cells k a _ ha hk;exact PySem.IsiPair.dict_list ho hc.1 (hQ φ _ _ (Ext.toks ..) (G.toks _) (az _))
theorem oN {l : List (Str × Val)} (hk : σ[k]? = some (.dict l)) : PC K hn d σ (.builtin "isinstance") [.ref k, .glob (.type "dict")] [] (.bool true) σ := fun A φ s Vs Ws R G r1 r2 Q E hQ => by
 obtain ⟨V, W, rfl, q1, q2⟩ := bO r1;have r2 : Ws = [] := by unfold RL at r2; exact r2
 subst r2;unfold RV at q1 q2;obtain ⟨a, ha, rfl⟩ := q1;subst q2;obtain ⟨o, es, n, ho, hc, _⟩ := G.cells k a _ ha hk;exact PySem.IsiPair.dict_dict ho hc.1 (hQ φ _ _ (Ext.refl ..) G (az _))
theorem b5.dictNot {l : List (Str × Val)} (x : b5 w φ h a (.dict l)) : True := trivial
noncomputable def s9 (K : KC) (k : Nat) (l : List (Str × Val)) : aZ K where
 At := fun i φ h a => ∃ da, φ[k]? = some da ∧ h.IsKeyIter a da i l.length l.length
 item := fun i _ => (l[i]?).map fun p => .str p.1
 bound := l.length
 ok := fun σ => σ[k]? = some (.dict l) ∧ (l.map (·.1)).Nodup
 ends := fun i σ v _ h => by
  obtain ⟨p, hp, _⟩ := xf h;exact (x7 hp).1
 obj := fun i φ h a ⟨da, _, o, ho, hc, hd⟩ => ⟨o, ho, ⟨fun v e => by rw [hd] at e; (cases e), fun es n e => by rw [hd] at e; (cases e)⟩, by rw [hc]; decide, by rw [hc]; exact nofun⟩
 stable := fun i φ φ' h h' a ⟨da, hda, o, ho, hc, hd⟩ e _ ⟨new, hp⟩ => ⟨da, by rw [hp, xc (x7 hda).1]; exact hda, o, e.trans ho, hc, hd⟩
 next := fun {i φ s a A σ d Q E} R G ⟨hok, hnd⟩ ⟨da, hda, hit⟩ ha h0 h1 => by
  have r : RV φ s.heap (.ref k) (.ref da) := by unfold RV; exact ⟨da, hda, rfl⟩
  obtain ⟨da', kvs, e, hda', hm, e1, e2⟩ := G.dictAt r hok hnd;cases e;have hlen : kvs.length = l.length := by have := congrArg List.length e1; simpa using this
  rw [← hlen] at hit;have hit : s.heap.IsKeyIter a da i kvs.length l.length := by rw [hlen] at hit ⊢; exact hit
  cases hx : l[i]? with
  | none =>
   have hkx : kvs[i]? = none := by have := x8 hx; exact xx (by exact hlen ▸ this)
   rw [hx] at h0;exact wpAny_pyNext_dict_end (R.hand rfl) hit hm hkx fun h' hs => h0 rfl _ (fun b o hb e => hs b o hb e) rfl rfl
  | some p =>
   obtain ⟨y, v⟩ := p;have hi := (x7 hx).1;have hkx : kvs[i]? = some (y, (kvs[i]'(by exact hlen ▸ hi)).2) := by
    rw [xg (by lia)];have := congrArg (fun z => z[i]?) e1;simp only [ye, hx, Option.map_some] at this;rw [xg (by lia), Option.map_some] at this;injection this with this
    rw [← this]
   rw [hx] at h1;refine wpAny_pyNext_dict_item hit hm hkx fun key h' hkey hit' hs => ?_
   obtain ⟨t, rfl⟩ := Value.isStrOf_shape (x := y) (v := key) hkey;refine h1 _ rfl _ _ (fun b o hb e => (hs.2 b hb).trans e) rfl rfl ⟨da, hda, ?_⟩ (d9 ..);rw [hlen] at hit'; exact hit'
theorem qo (H : Wld K.toKB) {k : Nat} {l : List (Str × Val)} (hk : σ[k]? = some (.dict l)) (hnd : (l.map (·.1)).Nodup) : pO K σ (.ref k) (s9 K k l) := fun A φ s V d R G r Q E hQ => by
 obtain ⟨a, kvs, rfl, ha, hm, e1, e2⟩ := G.dictAt r hk hnd;have hlen : kvs.length = l.length := by have := congrArg List.length e1; simpa using this
 refine wpAny_pyIter_dict (H.notMods G (xB ha)) hm ?_;exact hQ _ _ (fun b o e => xo _ e) rfl rfl (z6 _) ⟨a, ha, _, xL _ rfl, rfl, by rw [hlen]; rfl⟩
section
set_option tactic.hygienic true
noncomputable abbrev Tab := List (Key × Nat)
noncomputable def pq (w : Key) (p : Key × Nat) : Option (Str × Val) := match p.1.getLast? with
 | some n => if p.1.dropLast = w then some (n, .ref p.2) else none
 | none => none
noncomputable def bg (N : Tab) (w : Key) : List (Str × Val) := N.filterMap (pq w)
theorem di {w : Key} {p : Key × Nat} {q : Str × Val} : pq w p = some q ↔ p.1 = w ++ [q.1] ∧ q.2 = .ref p.2 := by
 obtain ⟨x, i⟩ := p;obtain ⟨n, v⟩ := q;unfold pq;constructor
 ·intro h;rcases xA x with rfl | ⟨y, m, rfl⟩
  ·cases h
  simp only [xz, List.getLast?_append, List.getLast?_singleton, Option.or_some, xJ] at h;have h : (if y = w then some (m, Val.ref i) else none) = some (n, v) := h;by_cases hy : y = w
  ·rw [if_pos hy] at h;injection h with h
   injection h with h1 h2
   subst hy;exact ⟨by rw [xz, h1], h2.symm⟩
  rw [if_neg hy] at h; cases h
 rintro ⟨h1, h2⟩;have h1 : x = w ++ [n] := h1;have h2 : v = .ref i := h2;subst h1 h2;simp
structure bc (σ : a8) (N : Tab) : Prop where
 nk : (N.map (·.1)).Nodup
 ni : (N.map (·.2)).Nodup
 up : ∀ w n, w ++ [n] ∈ N.map (·.1) → w ∈ N.map (·.1)
 root : [] ∈ N.map (·.1)
 cell : ∀ w i, (w, i) ∈ N → σ[i]? = some (.dict (bg N w))
theorem Tab.uniq : ∀ {N : Tab}, (N.map (·.1)).Nodup → ∀ {w : Key} {i j : Nat}, (w, i) ∈ N → (w, j) ∈ N → i = j
 | [], _, w, i, j, h, _ => by cases h
 | p :: N, hn, w, i, j, h1, h2 => by
  rw [yR, List.nodup_cons] at hn;rcases yy h1 with e1 | e1 <;> rcases yy h2 with e2 | e2
  ·rw [← e1] at e2; injection e2 with _ e2; exact e2.symm
  ·subst e1; exact absurd (List.mem_map_of_mem (f := (·.1)) e2) hn.1
  ·subst e2; exact absurd (List.mem_map_of_mem (f := (·.1)) e1) hn.1
  exact Tab.uniq hn.2 e1 e2
theorem dg {w : Key} (h : w ∈ N.map (·.1)) : ∃ i, (w, i) ∈ N := by
 obtain ⟨⟨x, i⟩, h1, h2⟩ := yK h;have h2 : x = w := h2;exact ⟨i, h2 ▸ h1⟩
theorem cL {w : Key} (h : (w, i) ∈ N) : w ∈ N.map (·.1) := List.mem_map_of_mem (f := (·.1)) h
theorem bQ {w : Key} {q : Str × Val} : q ∈ bg N w ↔ ∃ i, (w ++ [q.1], i) ∈ N ∧ q.2 = .ref i := by
 unfold bg;rw [List.mem_filterMap];constructor
 ·rintro ⟨⟨x, i⟩, hp, h⟩;obtain ⟨h1, h2⟩ := di.mp h;have h1 : x = w ++ [q.1] := h1;exact ⟨i, h1 ▸ hp, h2⟩
 rintro ⟨i, hp, h⟩;exact ⟨_, hp, di.mpr ⟨rfl, h⟩⟩
theorem bX (w : Key) : ∀ {N : Tab}, (N.map (·.1)).Nodup → ((bg N w).map (·.1)).Nodup
 | [], _ => List.nodup_nil
 | p :: N, hn => by
  rw [yR, List.nodup_cons] at hn;have ih := bX w hn.2;unfold bg;rw [List.filterMap_cons];split
  ·exact ih
  rename_i q h;rw [yR, List.nodup_cons];refine ⟨fun hm => ?_, ih⟩;obtain ⟨q', hq', e⟩ := yK hm;obtain ⟨i, hi, _⟩ := bQ.mp hq';obtain ⟨h1, _⟩ := di.mp h;have e : q'.1 = q.1 := e;rw [e, ← h1] at hi;exact hn.1 (cL hi)
theorem n5 : ∀ {l : List (Str × Val)} {x : Str} {v : Val}, (l.map (·.1)).Nodup → (x, v) ∈ l → dget l x = some v
 | p :: l, x, v, hn, h => by
  obtain ⟨y, u⟩ := p;rw [yR, List.nodup_cons] at hn;unfold dget;rw [List.find?_cons];rcases yy h with e | e
  ·cases e; simp
  have hy : y ≠ x := fun q => hn.1 (q ▸ List.mem_map_of_mem (f := (·.1)) e)
  simp only [hy, decide_false];exact n5 hn.2 e
theorem kV : ∀ {l : List (Str × Val)} {x : Str}, x ∉ l.map (·.1) → dget l x = none
 | [], _, _ => rfl
 | p :: l, x, h => by
  obtain ⟨y, u⟩ := p;rw [yR, List.mem_cons] at h;have hy : y ≠ x := fun q => h (.inl q.symm)
  unfold dget;rw [List.find?_cons];simp only [hy, decide_false];exact kV fun q => h (.inr q)
theorem bc.dget {σ : a8} (T : bc σ N) {w : Key} {n : Str} {j : Nat} (h : (w ++ [n], j) ∈ N) : dget (bg N w) n = some (.ref j) :=
 n5 (bX w T.nk) (bQ.mpr ⟨j, h, rfl⟩)
theorem bc.dget_no {σ : a8} (T : bc σ N) {w : Key} {n : Str} (h : w ++ [n] ∉ N.map (·.1)) : Mine.dget (bg N w) n = none :=
 kV fun q => by
  obtain ⟨p, hp, e⟩ := yK q;obtain ⟨i, hi, _⟩ := bQ.mp hp;have e : p.1 = n := e;rw [e] at hi;exact h (cL hi)
theorem bc.more {σ : a8} (T : bc σ N) (g : a8) : bc (σ ++ g) N := ⟨T.nk, T.ni, T.up, T.root, fun w i h => ad g (T.cell w i h)⟩
theorem bc.pre {σ : a8} (T : bc σ N) {key : Key} (h : key ∈ N.map (·.1)) : ∀ {w : Key}, w <+: key → w ∈ N.map (·.1) := by
 intro w ⟨t, ht⟩;obtain ⟨m, hm⟩ : ∃ m, t.length = m := ⟨_, rfl⟩
 induction m generalizing key t with
 | zero =>
  have : t = [] := x6 hm;subst this;rw [yG] at ht; rw [ht]; exact h
 | succ m ih =>
  rcases xA t with rfl | ⟨t', n, rfl⟩
  ·cases hm
  rw [xz] at ht hm;refine ih (key := w ++ t') (T.up _ n ?_) t' rfl (by simpa using hm);rw [yf, ht]; exact h
noncomputable def bl (N : Tab) : Nat → Key → List Key
 | 0, w => [w]
 | f + 1, w => w :: (bg N w).flatMap fun q => bl N f (w ++ [q.1])
noncomputable def wB (n : Nat) : Nat → Nat
 | 0 => 1
 | f + 1 => 1 + n * wB n f
theorem gz {α β : Type} (f : α → List β) (b : Nat) : ∀ l : List α, (∀ x ∈ l, (f x).length ≤ b) → (l.flatMap f).length ≤ l.length * b
 | [], _ => by simp
 | a :: l, h => by
  rw [List.flatMap_cons, xR, ym, Nat.succ_mul];have h1 := h a (xT ..);have h2 := gz f b l fun x hx => h x (xC _ hx)
  exact yT (yN h1 h2) (yV (yX ..))
theorem jx (N : Tab) (w : Key) : (bg N w).length ≤ N.length := List.length_filterMap_le ..
theorem k9 (N : Tab) : ∀ (f : Nat) (w : Key), (bl N f w).length ≤ wB N.length f
 | 0, w => z6 _
 | f + 1, w => by
  show (w :: _).length ≤ 1 + N.length * wB N.length f;rw [ym];have h1 := gz (fun q : Str × Val => bl N f (w ++ [q.1])) (wB N.length f) (bg N w) fun q _ => k9 N f _
  have h2 := xH (wB N.length f) (jx N w);exact yT (yt (yT h1 h2)) (yV (yX _ 1))
inductive atJ (σ : a8) (N : Tab) (key : Key) (p : Nat) (v' : ai) (s' : a8) : Prop
 | mk (j : Nat) (y : Option Val) (q0 : p ≤ key.length) (q1 : (key.take p, j) ∈ N) (q2 : v' = [some (.ref j), some (kv key), y]) (q3 : s' = σ)
@[elab_as_elim] theorem atJ.ind {σ : a8} {N : Tab} {key : Key} {p : Nat} {v' : ai} {s' : a8} {motive : ai → a8 → Prop} (h0 : atJ σ N key p v' s') (k0 : ∀ (j : Nat) (y : Option Val) (q0 : p ≤ key.length) (q1 : (key.take p, j) ∈ N), motive ([some (.ref j), some (kv key), y]) (σ)) : motive v' s' := by
 obtain ⟨j, y, q0, q1, rfl, rfl⟩ := h0;exact k0 _ _ q0 q1
theorem at_ok (H : Wld K.toKB) {N : Tab} {r i : Nat} {key : Key} (T : bc σ N) (hr : ([], r) ∈ N) (hi : (key, i) ∈ N) (hsz : key.length < 1000) : PC K true (d + 1) σ (.ref 425) [.ref r, kv key] [] (.ref i) σ := by
 refine H.def (t := va) (params := ["nest", "key"]) (rest := ["name"]) (dflt := []) (xB (i := 21) rfl) (cD fun _ _ _ _ _ _ => rfl) rfl (by decide +kernel) (aL rfl) rfl rfl rfl fun L H => ?_
 show TSt _ _ _ _ _ _ (execs (ax (stm 51)) _) _;refine a9 (gf (ix := 2) (T := rZ _ (key.map Val.str)) (bB (a7 1 rfl rfl) mO) rfl (.inl rfl) (atJ σ N key) ⟨r, none, z7 _, hr, rfl, rfl⟩ (fun _ _ _ _ => trivial) ?_ ?_)
 ·intro p v' s' h0;refine h0.ind fun j y hp hj => ?_
  rintro hit;have hp' : p = key.length := by
   have : (key.map Val.str)[p]? = none := hit;have := x8 this;rw [yA] at this; exact yE ‹_› ‹_›
  subst hp';rw [yv] at hj;have : j = i := Tab.uniq T.nk hj hi;subst this;exact a9 (bm (a7 0 rfl rfl) ⟨rfl, rfl⟩)
 intro p v' s' v h0;refine h0.ind fun j y hp hj => ?_
 rintro hit;have hit : (key.map Val.str)[p]? = some v := hit;rw [ye] at hit;obtain ⟨n, hn, rfl⟩ := xf hit;have hlt := (x7 hn).1;have htake : key.take (p + 1) = key.take p ++ [n] := ah hn;obtain ⟨j', hj'⟩ := dg (T.pre (cL hi) (List.take_prefix (p + 1) key));rw [htake] at hj';exact a9 (ab 0 (aV (a7 0 rfl rfl) (a7 2 rfl rfl) (jB (T.cell _ _ hj)) (eD (T.cell _ _ hj) (bX _ T.nk) (T.dget hj'))) rfl (.inl rfl) (ak ⟨j', some (.str n), by assumption, by rw [htake]; exact hj', rfl, rfl⟩))
inductive wyJ (σ : a8) (N : Tab) (i : Nat) (w : Key) (sub : Key → List Key) (p : Nat) (v' : ai) (s' : a8) : Prop
 | mk (g : a8) (k : Nat) (y : Option Val) (q0 : p ≤ (bg N w).length) (q1 : s' = σ ++ g) (q2 : (σ ++ g)[k]? = some (.list ((w :: ((bg N w).take p).flatMap fun q => sub (w ++ [q.1])).map kv))) (q3 : σ.length ≤ k) (q4 : am (σ ++ g)) (q5 : v' = [some (.ref i), some (kv w), some (.ref k), y])
@[elab_as_elim] theorem wyJ.ind {σ : a8} {N : Tab} {i : Nat} {w : Key} {sub : Key → List Key} {p : Nat} {v' : ai} {s' : a8} {motive : ai → a8 → Prop} (h0 : wyJ σ N i w sub p v' s') (k0 : ∀ (g : a8) (k : Nat) (y : Option Val) (q0 : p ≤ (bg N w).length) (q2 : (σ ++ g)[k]? = some (.list ((w :: ((bg N w).take p).flatMap fun q => sub (w ++ [q.1])).map kv))) (q3 : σ.length ≤ k) (q4 : am (σ ++ g)), motive ([some (.ref i), some (kv w), some (.ref k), y]) (σ ++ g)) : motive v' s' := by
 obtain ⟨g, k, y, q0, rfl, q2, q3, q4, rfl⟩ := h0;exact k0 _ _ _ q0 q2 q3 q4
theorem oU : ∀ (f : Nat) {K : KC} {σ : a8} (H : Wld K.toKB) {i : Nat} {w : Key} (T : bc σ N) (hc : am σ) (hi : (w, i) ∈ N) (hd : ∀ x ∈ N.map (·.1), x.length ≤ w.length + f) (hb : wB N.length f ≤ 2 ^ 20) (hw : w.length + f < 1000),
  PC K true (d + 1 + f) σ (.ref 418) [.ref i, kv w] [] (.ref σ.length) (σ ++ [.list ((bl N f w).map kv)]) := by
 have hsl : (2 : Nat) ^ 20 ≤ sizeLine := by decide
 have core : ∀ {K : KC} {σ : a8} {e : Nat} (H : Wld K.toKB) {i : Nat} {w : Key} (sub : Key → List Key) (T : bc σ N) (hc : am σ) (hi : (w, i) ∈ N) (bnd : Nat) (hbnd : ∀ x, (sub x).length ≤ bnd) (hb : 1 + N.length * bnd ≤ 2 ^ 20) (hw : w.length < 1000) (hin : ∀ {K : KC} {σ : a8} (H : Wld K.toKB) {n : Str} {j : Nat} (T : bc σ N) (hc : am σ) (hj : (w ++ [n], j) ∈ N), PC K true e σ (.ref 418) [.ref j, kv (w ++ [n])] [] (.ref σ.length) (σ ++ [.list ((sub (w ++ [n])).map kv)])), PC K true (e + 1) σ (.ref 418) [.ref i, kv w] [] (.ref σ.length) (σ ++ [.list ((w :: (bg N w).flatMap fun q => sub (w ++ [q.1])).map kv)]) := by
  intro K σ e H i w sub T hc hi bnd hbnd hb hw hin;refine PCX.pick ?_ (z6 _) hc (aI _ _);refine H.defX (t := j8) (params := ["nest", "way"]) (rest := ["ways", "name"]) (dflt := []) (xB (i := 20) rfl) (cD fun _ _ _ _ _ _ => rfl) rfl (by decide +kernel) (aL rfl) rfl rfl rfl fun L H => ?_
  show TSt _ _ _ _ _ _ (execs (ax (stm 50)) _) _;have hnd := bX w T.nk;refine a9 (ab 2 (dk (aa (a7 1 rfl rfl) ac) (by show 1 ≤ sizeLine; decide)) rfl (.inl rfl) ?_);refine a9 (gf (ix := 3) (T := s9 _ i (bg N w)) (bB (a7 0 rfl rfl) (qo H (ad _ (T.cell w i hi)) hnd)) rfl (.inl rfl) (wyJ σ N i w sub) ⟨[.list [kv w]], σ.length, none, z7 _, rfl, by rw [yL]; exact ae .., z6 _, hc.push (aI _ [w]), rfl⟩ (fun p v' s' ⟨g, k, y, h1, h2, _, _, _, _⟩ => ⟨by rw [h2]; exact ad g (T.cell w i hi), hnd⟩) ?_ ?_)
  ·intro p v' s' h0;refine h0.ind fun g k y hp hk hkn hcl => ?_
   rintro hit;have hp' : p = (bg N w).length := by
    have hit : ((bg N w)[p]?).map (fun p => Val.str p.1) = none := hit;rw [Option.map_eq_none_iff, List.getElem?_eq_none_iff] at hit;exact yE ‹_› ‹_›
   subst hp';rw [yv] at hk;exact a9 (bm (a7 2 rfl rfl) ⟨k, g, rfl, rfl, hk, hkn⟩)
  intro p v' s' v h0;refine h0.ind fun g k y hp hk hkn hcl => ?_
  rintro hit;have hit : ((bg N w)[p]?).map (fun p => Val.str p.1) = some v := hit;obtain ⟨⟨n, u⟩, hq, rfl⟩ := xf hit;have hlt := (x7 hq).1;obtain ⟨j, hj, hu⟩ := bQ.mp (xB hq);have Tg := T.more g;have htk : (bg N w).take (p + 1) = (bg N w).take p ++ [(n, u)] := ah hq;have hacc : (w :: ((bg N w).take p).flatMap fun q => sub (w ++ [q.1])).length + (sub (w ++ [n])).length ≤ 2 ^ 20 := by
   have h1 := gz (fun q : Str × Val => sub (w ++ [q.1])) bnd ((bg N w).take (p + 1)) fun q _ => hbnd _
   have h2 := jx N w;rw [htk, xN, xR] at h1;simp only [List.flatMap_cons, List.flatMap_nil, yG] at h1;have h3 : ((bg N w).take p ++ [(n, u)]).length ≤ N.length := by rw [← htk, yn]; exact yT (yo ..) h2
   have h4 := xH bnd h3;rw [ym];exact yT (yV (xW _ 1 _)) (yT (yt (yT h1 h4)) (yT (yV (yX _ 1)) hb))
  have hcall := hin H Tg hcl hj;have hkv : kv (w ++ [n]) = .tup (w.map Val.str ++ [.str n]) := by unfold kv; rw [yC]; rfl
  refine a9 (ab 2 (aS (a7 2 rfl rfl) (aj (kl := []) (H.name (v := .glob (.ref 418)) rfl rfl) (H.callee (t := j8) (xB (i := 20) rfl)) (aa (aV (a7 0 rfl rfl) (a7 3 rfl rfl) (jB (Tg.cell _ _ hi)) (eD (Tg.cell _ _ hi) hnd (Tg.dget hj))) (aa (EvE.eq (aS (a7 1 rfl rfl) (bD (aa (a7 3 rfl rfl) ac) (by show 1 ≤ sizeLine; decide)) (kC (by rw [yA]; show w.length + 1 ≤ sizeLine; exact yW ‹_› (by decide)))) hkv.symm) ac)) ao hcall)
   (fJ (ad _ hk) (ae ..) (by rw [yA, yA]; exact yT hacc hsl))) rfl (.inl rfl) (ak ?_))
  refine ⟨g ++ [.list ((sub (w ++ [n])).map kv)] ++ [.list ((w :: ((bg N w).take p).flatMap fun q => sub (w ++ [q.1])).map kv ++ (sub (w ++ [n])).map kv)], (σ ++ g ++ [ag.list ((sub (w ++ [n])).map kv)]).length, some (.str n), by assumption, by simp, ?_, ?_, ?_, rfl⟩
  ·have e1 : σ ++ (g ++ [.list ((sub (w ++ [n])).map kv)] ++ [.list ((w :: ((bg N w).take p).flatMap fun q => sub (w ++ [q.1])).map kv ++ (sub (w ++ [n])).map kv)]) = (σ ++ g ++ [.list ((sub (w ++ [n])).map kv)]) ++ [.list ((w :: ((bg N w).take p).flatMap fun q => sub (w ++ [q.1])).map kv ++ (sub (w ++ [n])).map kv)] := by simp
   rw [e1];have := ae (σ ++ g ++ [.list ((sub (w ++ [n])).map kv)]) (.list ((w :: ((bg N w).take p).flatMap fun q => sub (w ++ [q.1])).map kv ++ (sub (w ++ [n])).map kv));rw [this, htk, xN];simp
  ·simp only [xR]; exact yT (yp ..) (yp ..)
  have h1 := (hcl.push (c := .list ((sub (w ++ [n])).map kv)) (aI _ _)).push (c := .list ((w :: ((bg N w).take p).flatMap fun q => sub (w ++ [q.1])).map kv ++ (sub (w ++ [n])).map kv)) (nh (aI _ _) (aI _ _));rw [yf, yf] at h1;rw [yf];exact h1
 intro f
 induction f with
 | zero =>
  intro K σ H i w T hc hi hd hb hw;have hk0 : bg N w = [] := by
   rw [List.eq_nil_iff_forall_not_mem];intro q hq;obtain ⟨j, hj, _⟩ := bQ.mp hq;have := hd _ (cL hj);rw [xR, xt] at this;exact absurd ‹_› (yQ _)
  have := core (e := d) H (w := w) (i := i) (fun _ => []) T hc hi 0 (fun _ => z6 _) ‹_› ‹_› (fun {K σ} H {n j} T hc hj => absurd (bQ.mpr ⟨j, hj, rfl⟩ : (n, Val.ref j) ∈ bg N w) (by rw [hk0]; simp));rw [hk0] at this;exact this
 | succ f ih =>
  intro K σ H i w T hc hi hd hb hw;exact core (e := d + 1 + f) H (bl N f) T hc hi (wB N.length f) (k9 N f) hb (xV (yp ..) hw) fun {K σ} H {n j} T hc hj => ih H T hc hj (fun x hx => by have := hd x hx; rw [xR, xt]; exact yT this (yV (xW _ f 1))) (by
   by_cases hN : N.length = 0
   ·have : N = [] := x6 hN;subst this; cases hj
   have : 1 * wB N.length f ≤ N.length * wB N.length f := xH _ (Nat.pos_of_ne_zero ‹_›);unfold wB at hb; exact yT (yT (yV (Nat.one_mul _).symm) this) (yT (yF ..) hb)) (by rw [xR, xt]; exact aE hw)
end
noncomputable def qm (N : Tab) (w : Key) : Nat := ((N.find? fun p => decide (p.1 = w)).map (·.2)).getD 0
theorem dZ : ∀ {N : Tab}, (N.map (·.1)).Nodup → ∀ {w : Key} {i : Nat}, (w, i) ∈ N → qm N w = i
 | p :: N, hn, w, i, h => by
  rw [yR, List.nodup_cons] at hn;unfold qm;rw [List.find?_cons];rcases yy h with e | e
  ·rw [← e]; simp
  have hp : p.1 ≠ w := fun q => hn.1 (q ▸ cL e)
  simp only [hp, decide_false];exact dZ hn.2 e
noncomputable def bw : a8 → Tab → Key → List Str → a8 × Tab
 | σ, N, _, [] => (σ, N)
 | σ, N, w, n :: r => if w ++ [n] ∈ N.map (·.1) then bw σ N (w ++ [n]) r
   else bw ((σ ++ [ag.dict []]).set (qm N w) (ag.dict (bg N w ++ [(n, Val.ref σ.length)]))) (N ++ [(w ++ [n], σ.length)]) (w ++ [n]) r
theorem fb (n : Str) : ∀ (r : List Str) (σ : a8) (N : Tab) (w : Key), bw σ N w (r ++ [n]) = bw (bw σ N w r).1 (bw σ N w r).2 (w ++ r) [n]
 | [], σ, N, w => by rw [yG]; rfl
 | m :: r, σ, N, w => by
  show (if w ++ [m] ∈ N.map (·.1) then bw σ N (w ++ [m]) (r ++ [n]) else bw _ _ (w ++ [m]) (r ++ [n])) = _;have e : w ++ (m :: r) = (w ++ [m]) ++ r := by simp
  rw [e];show _ = bw (if w ++ [m] ∈ N.map (·.1) then bw σ N (w ++ [m]) r else _).1 (if w ++ [m] ∈ N.map (·.1) then bw σ N (w ++ [m]) r else _).2 _ _;split
  ·exact fb n r σ N (w ++ [m])
  exact fb n r _ _ (w ++ [m])
structure gD (σ : a8) (N : Tab) (key : Key) (σ' : a8) (N' : Tab) : Prop where
 T : bc σ' N'
 old : ∀ p ∈ N, p ∈ N'
 keys : ∀ w, w ∈ N'.map (·.1) ↔ w ∈ N.map (·.1) ∨ w <+: key
 keep : ∀ k, k < σ.length → k ∉ N.map (·.2) → σ'[k]? = σ[k]?
 len : σ.length ≤ σ'.length
 closed : am σ'
 num : N'.length ≤ N.length + key.length
 idx : ∀ i ∈ N'.map (·.2), i ∈ N.map (·.2) ∨ σ.length ≤ i
theorem eC {w k : Key} {n : Str} : w <+: k ++ [n] ↔ w <+: k ∨ w = k ++ [n] := by
 constructor
 ·rintro ⟨t, ht⟩;rcases xA t with rfl | ⟨t', m, rfl⟩
  ·rw [yG] at ht; exact .inr ht
  rw [xz, ← yf] at ht;have := List.append_inj' ht rfl;exact .inl ⟨t', this.1⟩
 rintro (⟨t, ht⟩ | rfl)
 ·exact ⟨t ++ [n], by rw [← yf, ht]⟩
 exact ⟨[], yG _⟩
theorem bc.lt {σ : a8} (T : bc σ N) {i : Nat} (h : i ∈ N.map (·.2)) : i < σ.length := by
 obtain ⟨⟨w, j⟩, hp, e⟩ := yK h;have e : j = i := e;subst e;exact (x7 (T.cell w j hp)).1
theorem fc {w : Key} (h : (w, i) ∈ N) : i ∈ N.map (·.2) := List.mem_map_of_mem (f := (·.2)) h
theorem Tab.uniq2 : ∀ {N : Tab}, (N.map (·.2)).Nodup → ∀ {w x : Key} {i : Nat}, (w, i) ∈ N → (x, i) ∈ N → w = x
 | [], _, w, i, j, h, _ => by cases h
 | p :: N, hn, w, x, i, h1, h2 => by
  rw [yR, List.nodup_cons] at hn;rcases yy h1 with e1 | e1 <;> rcases yy h2 with e2 | e2
  ·rw [← e1] at e2; injection e2 with e2 _; exact e2.symm
  ·subst e1; exact absurd (fc e2) hn.1
  ·subst e2; exact absurd (fc e1) hn.1
  exact Tab.uniq2 hn.2 e1 e2
theorem eF (N N' : Tab) (w : Key) : bg (N ++ N') w = bg N w ++ bg N' w := List.filterMap_append ..
theorem mL {w : Key} {n : Str} : bg [(w ++ [n], i)] w = [(n, .ref i)] := by
 unfold bg;rw [List.filterMap_cons_some (b := (n, Val.ref i)) (di.mpr ⟨rfl, rfl⟩)]; rfl
theorem iG {w x : Key} {n : Str} (h : x ≠ w) : bg [(w ++ [n], i)] x = [] := by
 unfold bg;rw [List.filterMap_cons_none]
 ·rfl
 cases hk : pq x (w ++ [n], i) with
 | none => rfl
 | some q =>
  have h1 : w ++ [n] = x ++ [q.1] := (di.mp hk).1;exact absurd (List.append_inj' h1 rfl).1.symm h
theorem gD.start {σ : a8} (T : bc σ N) (hc : am σ) : gD σ N [] σ N :=
 ⟨T, fun _ h => h, fun w => ⟨.inl, fun h => h.elim id fun h => by rw [List.prefix_nil] at h; rw [h]; exact T.root⟩, fun _ _ _ => rfl, z6 _, hc, z6 _, fun i h => .inl h⟩
theorem gD.step {σ σ1 : a8} {N1 : Tab} {w : Key} {n : Str} (g : gD σ N w σ1 N1) (hi : ∃ j, (w, j) ∈ N1) : gD σ N (w ++ [n]) (bw σ1 N1 w [n]).1 (bw σ1 N1 w [n]).2 := by
 obtain ⟨j, hj⟩ := hi;have T := g.T;show gD σ N (w ++ [n]) (if w ++ [n] ∈ N1.map (·.1) then (σ1, N1) else _).1 (if w ++ [n] ∈ N1.map (·.1) then (σ1, N1) else _).2;by_cases hin : w ++ [n] ∈ N1.map (·.1)
 ·rw [if_pos hin];refine ⟨T, g.old, fun x => ⟨fun h => ((g.keys x).mp h).imp id fun h => eC.mpr (.inl h), fun h => ?_⟩, g.keep, g.len, g.closed, by have := g.num; rw [xR]; show N1.length ≤ _; exact yk ‹_›, g.idx⟩;rcases h with h | h
  ·exact (g.keys x).mpr (.inl h)
  rcases eC.mp h with h | rfl
  ·exact (g.keys x).mpr (.inr h)
  exact hin
 rw [if_neg hin];show gD σ N (w ++ [n]) ((σ1 ++ [ag.dict []]).set (qm N1 w) (ag.dict (bg N1 w ++ [(n, Val.ref σ1.length)]))) (N1 ++ [(w ++ [n], σ1.length)]);rw [dZ T.nk hj];have hjl := T.lt (fc hj);have hnew : σ1.length ∉ N1.map (·.2) := fun h => absurd (T.lt h) (yQ _)
 have e1 : ∀ x, x ∈ (N1 ++ [(w ++ [n], σ1.length)]).map (·.1) ↔ x ∈ N1.map (·.1) ∨ x = w ++ [n] := fun x => by
  rw [yC, yD];show _ ∨ x ∈ [w ++ [n]] ↔ _;rw [yb]
 have e2 : ∀ x, x ∈ (N1 ++ [(w ++ [n], σ1.length)]).map (·.2) ↔ x ∈ N1.map (·.2) ∨ x = σ1.length := fun x => by
  rw [yC, yD];show _ ∨ x ∈ [σ1.length] ↔ _;rw [yb]
 have lenS : ((σ1 ++ [ag.dict []]).set j (ag.dict (bg N1 w ++ [(n, Val.ref σ1.length)]))).length = σ1.length + 1 := by simp
 refine ⟨⟨?_, ?_, ?_, ?_, ?_⟩, fun p h => xE _ (g.old p h), fun x => ?_, fun k h1 h2 => ?_, by rw [lenS]; have := g.len; exact yk ‹_›, ?_, ?_, fun i h => ?_⟩
 ·rw [yC, List.nodup_append];refine ⟨T.nk, by simp, fun a ha b hb => ?_⟩;have hb : b = w ++ [n] := by simpa using hb
  rw [hb]; exact fun e => hin (e ▸ ha)
 ·rw [yC, List.nodup_append];refine ⟨T.ni, by simp, fun a ha b hb => ?_⟩;have hb : b = σ1.length := by simpa using hb
  rw [hb]; exact fun e => hnew (e ▸ ha)
 ·intro x m h;rcases (e1 _).mp h with h | h
  ·exact (e1 _).mpr (.inl (T.up x m h))
  rw [(List.append_inj' h rfl).1];exact (e1 _).mpr (.inl (cL hj))
 ·exact (e1 _).mpr (.inl T.root)
 ·intro x i h0;rcases yd h0 with h | h
  ·have hil := T.lt (fc h);by_cases hij : i = j
   ·subst hij;have hxw : x = w := Tab.uniq2 T.ni h hj;subst hxw;rw [xq (by simp; exact yl ‹_›), eF, mL]
   have hxw : x ≠ w := fun q => hij (Tab.uniq T.nk h (q ▸ hj))
   rw [xF (Ne.symm hij), xc hil, T.cell x i h, eF, iG hxw, yG]
  have h : (x, i) = (w ++ [n], σ1.length) := by simpa using h
  injection h with h1 h2
  subst h1 h2;have hne : w ++ [n] ≠ w := fun q => by
   have := congrArg List.length q;rw [xR, xt] at this;lia
  rw [xF (yZ ‹_›), ae, eF, iG hne, yG];have : bg N1 (w ++ [n]) = [] := by
   rw [List.eq_nil_iff_forall_not_mem];intro q hq;obtain ⟨i, hi, _⟩ := bQ.mp hq;exact hin (T.up _ _ (cL hi))
  rw [this]
 ·rw [e1, g.keys, eC, or_assoc]
 ·have hkj : k ≠ j := fun q => by
   subst q;rcases g.idx k (fc hj) with q | q
   ·exact h2 q
   exact absurd ‹_› (Nat.not_le.mpr ‹_›)
  rw [xF (Ne.symm hkj), xc (by have := g.len; exact xU ‹_› ‹_›)];exact g.keep k h1 h2
 ·refine (g.closed.push (c := .dict []) rfl).set ?_;rw [xR, xt];show bx (σ1.length + 1) ((bg N1 w ++ [(n, Val.ref σ1.length)]).map (·.2)) = true;rw [bu];intro v hv;rw [yC, yD] at hv;rcases hv with hv | hv
  ·obtain ⟨q, hq, rfl⟩ := yK hv;obtain ⟨i, hi, e⟩ := bQ.mp hq;rw [e];unfold bel;have := T.lt (fc hi);exact decide_eq_true (yl this)
  have hv : v = .ref σ1.length := by simpa using hv
  rw [hv];unfold bel;exact decide_eq_true (yq _)
 ·have := g.num;simp only [xR, xt]; exact yj ‹_›
 rcases (e2 i).mp h with h | h
 ·exact g.idx i h
 exact .inr (by rw [h]; exact g.len)
theorem gY {σ : a8} {N : Tab} (T : bc σ N) (hc : am σ) (key : Key) : ∀ p, p ≤ key.length → gD σ N (key.take p) (bw σ N [] (key.take p)).1 (bw σ N [] (key.take p)).2
 | 0, _ => by rw [yL]; exact gD.start T hc
 | p + 1, h => by
  have g := gY T hc key p (yU ‹_›);have hk : key[p]? = some (key[p]'‹_›) := xg ‹_›;rw [ah hk, fb, List.nil_append];exact g.step (dg ((g.keys _).mpr (.inr (yx _))))
theorem oO (H : Wld K.toKB) : bL K.toKB lf 2 [] ["self", "key", "access_lists"] [.bool true] :=
 ⟨[.bool true], fun _ _ => by unfold RL; exact ⟨_, [], rfl, az _, by unfold RL; rfl⟩, fun doc pm ct an s Vs Ws hb h1 h2 => by
  obtain ⟨a, b, rfl⟩ := oj h1;intro M A E Q hq;obtain ⟨m, hm, hv⟩ := H.acc;obtain rfl : Ws = [] := x6 h2;unfold bindArgs;refine za (z9 (a := ([(Str.ofString "self", a), (Str.ofString "key", b)], [])) rfl ?_);refine za (z9 (a := none) rfl ?_);refine wpAny_ite_false rfl ?_;refine wpAny_ite_false rfl ?_;refine za (z9 (a := [(Str.ofString "self", a), (Str.ofString "key", b)]) rfl ?_);refine za (m := forIn [Str.ofString "access_lists"] _ _) ?_;rw [List.forIn_cons];refine za ?_;refine wpAny_ite_true rfl ?_;refine za (m := nsGet 125 (Str.ofString "access_lists")) (wpAny_nsGet (hm.keeps hb) ?_);rw [hv];refine zb ?_;refine zb ?_;exact z9 rfl hq⟩
theorem Wld.cls (H : Wld K.toKB) : ∃ G : Frag, G.In K.h0 ∧ makesIn G 142 = true ∧ findIn G (.ref 142) "__init__" = some (some (.ref 124)) ∧ typeIn G (.ref 124) = some (.type "function") ∧
 findIn G (.ref 142) "__getattribute__" = some (some (.builtin "object.__getattribute__")) ∧ findIn G (.ref 142) "__getattr__" = some none ∧
 findIn G (.ref 142) "dict" = some none ∧ (clsIn G 142).any (·.hasDict) = true ∧ findIn G (.ref 142) "get_or_create_nest" = some (some (.ref 132)) ∧ typeIn G (.ref 132) = some (.type "function") ∧
 findIn G (.ref 142) "__setattr__" = some (some (.builtin "object.__setattr__")) ∧ plainOver G 142 = true ∧ takerIn G 142 "dict" = some none := by
 obtain ⟨G, hG, hc, _⟩ := H.frag;unfold lU at hc;simp only [yu, zk] at hc;obtain ⟨⟨⟨⟨⟨⟨⟨⟨⟨⟨⟨c1, c2⟩, c3⟩, c4⟩, c5⟩, c6⟩, c7⟩, c8⟩, c9⟩, c10⟩, c11⟩, c12⟩ := hc;exact ⟨G, hG, c1, c2, c3, c4, c5, c6, c7, c8, c9, c10, c11, c12⟩
theorem af.inst {s : Shared} (G : af K φ σ s) (r : RV φ s.heap (.ref k) V) (hk : σ[k]? = some (.inst kd)) : ∃ x dx ox, V = .ref x ∧ φ[kd]? = some dx ∧ s.heap.get? x = some ox ∧ ox.cls = .ref 142 ∧ ox.dict = some dx ∧ ox.data = .plain ∧ φ[k]? = some x := by
 unfold RV at r;obtain ⟨x, hx, rfl⟩ := r;obtain ⟨o, dx, h1, h2, h3, h4, h5⟩ := G.cells k x _ hx hk;exact ⟨x, dx, o, rfl, h5, h1, h2, h3, h4, hx⟩
theorem dC (H : Wld K.toKB) {value : Expr} {pos : Pos} {k kd n : Nat} (h : EvE K hn d F vals σ value (.ref k) σ1) (hk : σ1[k]? = some (.inst kd)) (hd : σ1[kd]? = some (.ns n))
  (he : eval (.Attribute value "dict" pos) F.env = (do
   let o ← eval value F.env
   standAt pos.atName
   let r ← holding [o] (getAttr o "dict" true)
   letTemporaryGo value o r
   pure r) := by with_unfolding_all rfl) : EvE K hn d F vals σ (.Attribute value "dict" pos) (.ref n) σ1 := fun A φ s R G I Q E hQ => by
 obtain ⟨FG, hG, _, _, _, c4, c5, c6, c7, _⟩ := H.cls;refine Attribute_any_ (h A φ s R G I _ _ fun φ1 s1 V1 X1 G1 r1 => ?_) he;obtain ⟨x, dx, ox, rfl, hdx, hx, hcl, hdd, hpl, hkx⟩ := G1.inst r1 hk;obtain ⟨od, e, m, t, hod, hoc, hodd, hkey, hval⟩ := G1.cells kd dx _ hdx hd;have hI : InstAt s1.heap x ox 142 (some od) := ⟨hx, hcl, by unfold notCls; rw [hpl], by rw [hdd]; exact hod⟩
 have hlk : lookIn "dict" od = some (some e.val) := by
  unfold lookIn;rw [hodd];have : (e.key.isStr (Str.ofString "dict")) = true := by rw [hkey]; exact beq_self_eq_true _
  simp [this]
 obtain ⟨cd, hcd, hhd⟩ := any_some c7;have hf : findObj FG 142 (some od) "dict" = some (.value e.val) := by
  unfold findObj;rw [hcd, Option.bind_some, c6, Option.bind_some];have ho : W.ownOf cd (some od) "dict" = some (some e.val) := by unfold W.ownOf; rw [if_pos hhd]; exact hlk
  simp [ho]
 have hval' := hval;unfold RV at hval';obtain ⟨b, hb, hbv⟩ := hval';refine get_value (hG.keeps G1.base) hI c4 hf (by rw [hbv]; rfl) ?_;exact hQ φ1 _ _ (X1.trans (Ext.toks ..)) (G1.toks _) hval
theorem vo (H : Wld K.toKB) {k kd n : Nat} (hk : σ[k]? = some (.inst kd)) (hd : σ[kd]? = some (.ns n)) : oS K σ (.ref k) "get_or_create_nest" (.ref 132) := fun A φ s V pl G r Q E hQ => by
 obtain ⟨FG, hG, _, _, _, c4, c5, _, _, c8, c9, _⟩ := H.cls;have X := hG.keeps G.base;obtain ⟨x, dx, ox, rfl, hdx, hx, hcl, hdd, hpl, hkx⟩ := G.inst r hk;obtain ⟨od, e, m, t, hod, hoc, hodd, hkey, hval⟩ := G.cells kd dx _ hdx hd;have hI : InstAt s.heap x ox 142 (some od) := ⟨hx, hcl, by unfold notCls; rw [hpl], by rw [hdd]; exact hod⟩
 have hty : Looks (model pw K.w) s.heap (typeOf (.ref x)) (.ref 142) := hI.type;have sp : ∀ (nm : Str) (v : Option Value), findIn FG (.ref 142) nm = some v → Looks (model pw K.w) s.heap (specialOf (.ref x) nm) v := fun nm v h => hty.andThen (looks_findIn X h)
 unfold getMethod;refine za ((sp _ _ c4).here ?_);dsimp only;rw [if_neg (by decide +kernel)];refine za ((sp _ _ c5).here ?_);rw [if_neg (by simp)];refine za ((sp _ _ c8).here ?_);dsimp only;refine za ((looks_typeIn X c9).here ?_);rw [if_neg (by decide)];refine za ((Looks.ld (part := some headPart) hx).here ?_);rw [hdd];have hns : Looks (model pw K.w) s.heap (nsGet dx "get_or_create_nest") none := by
  refine looks_nsIn (K := [(dx, od)]) (fun a o h => ?_) ?_
  ·rw [List.lookup_cons] at h;split at h
   ·rename_i q;cases h;rw [beq_iff_eq.mp q]; exact hod
   cases h
  unfold nsIn;rw [List.lookup_cons, beq_self_eq_true];obtain ⟨c, dd, dt, sl⟩ := od;simp only at hodd;subst hodd;have h1 : (e.key.isStr (Str.ofString "get_or_create_nest")) = false := by
   rw [hkey];show (Str.ofString "dict" == Str.ofString "get_or_create_nest") = false;decide +kernel
  have h2 : e.refKey = false := by unfold DictEntry.refKey; rw [hkey]
  simp [h1, h2]
 refine za (hns.here ?_);rw [if_neg (by simp)]
 first
 | exact za (wpAny_rule (zb hQ))
 | exact wpAny_rule (zb hQ)
inductive neJ (σ : a8) (N : Tab) (k : Nat) (key : Key) (p : Nat) (v' : ai) (s' : a8) : Prop
 | mk (y : Option Val) (q0 : p ≤ key.length) (q1 : v' = [some (.ref k), some (kv key), some (.bool true), some (.ref (qm (bw σ N [] (key.take p)).2 (key.take p))), y]) (q2 : s' = (bw σ N [] (key.take p)).1)
theorem um (H : Wld K.toKB) {N : Tab} {k kd r : Nat} {key : Key} (T : bc σ N) (hc : am σ) (hk : σ[k]? = some (.inst kd)) (hd : σ[kd]? = some (.ns r)) (hr : ([], r) ∈ N) (hsz : N.length + key.length < 900) :
  PC K true (d + 1) σ (.ref 132) [.ref k, kv key] [] (.ref (qm (bw σ N [] key).2 key)) (bw σ N [] key).1 := by
 refine H.def (t := lf) (params := ["self", "key", "access_lists"]) (rest := ["cont", "k"]) (dflt := [.bool true]) (xB (i := 28) rfl) (oO H) rfl (by decide +kernel) (aL rfl) rfl rfl rfl fun L H => ?_
 show TSt _ _ _ _ _ _ (execs (ax (sub 22 1)) _) _;refine a9 (ab 3 (dC H (a7 0 rfl rfl) hk hd) rfl (.inl rfl) ?_);have hG := gY T hc key;refine a9 (gf (ix := 4) (T := rZ _ (key.map Val.str)) (bB (a7 1 rfl rfl) mO) rfl (.inl rfl) (neJ σ N k key) ⟨none, z7 _, by rw [yL, show (bw σ N [] []).2 = N from rfl, dZ T.nk hr]; rfl, by rw [yL]; rfl⟩ (fun _ _ _ _ => trivial) ?_ ?_)
 ·rintro p v' s' ⟨y, hp, rfl, rfl⟩ hit;have hp' : p = key.length := by
   have : (key.map Val.str)[p]? = none := hit;have := x8 this;rw [yA] at this; exact yE ‹_› ‹_›
  subst hp';rw [yv];exact a9 (bm (a7 3 rfl rfl) ⟨rfl, rfl⟩)
 rintro p v' s' v ⟨y, hp, rfl, rfl⟩ hit;have hit : (key.map Val.str)[p]? = some v := hit;rw [ye] at hit;obtain ⟨n, hn', rfl⟩ := xf hit;have hlt := (x7 hn').1;have htake : key.take (p + 1) = key.take p ++ [n] := ah hn';have g := hG p hp;have g' := hG (p + 1) hlt;obtain ⟨j, hj⟩ := dg ((g.keys (key.take p)).mpr (.inr (yx _)));obtain ⟨j', hj'⟩ := dg ((g'.keys (key.take (p + 1))).mpr (.inr (yx _)));have hins : bw σ N [] (key.take (p + 1)) = bw (bw σ N [] (key.take p)).1 (bw σ N [] (key.take p)).2 (key.take p) [n] := by rw [htake, fb, List.nil_append]
 rw [dZ g.T.nk hj];have T1 := g.T;have T2 := g'.T;have hlen : (bw σ N [] (key.take p)).2.length < 900 := by have := g.num; rw [yn] at this; exact xV (yT this (xM (yo ..) _)) hsz
 have tail : ∀ {K' : KC} (H : Wld K'.toKB) (F' : Frm) (body : List Stmt), True := fun _ _ _ => trivial
 have fin : (bw σ N [] (key.take (p + 1))).1[j]? = some (.dict (bg (bw σ N [] (key.take (p + 1))).2 (key.take p))) := by
  refine T2.cell _ _ ?_;by_cases hin : key.take p ++ [n] ∈ (bw σ N [] (key.take p)).2.map (·.1)
  ·rw [hins]; show (key.take p, j) ∈ (if _ then _ else _ : a8 × Tab).2; rw [if_pos hin]; exact hj
  rw [hins]; show (key.take p, j) ∈ (if _ then _ else _ : a8 × Tab).2; rw [if_neg hin]; exact xE _ hj
 have hj2 : (key.take p ++ [n], j') ∈ (bw σ N [] (key.take (p + 1))).2 := by rw [← htake]; exact hj'
 have hcell2 := T2.cell _ _ hj';refine nO (w' := [some (.ref k), some (kv key), some (.bool true), some (.ref j), some (.str n)]) (σ' := (bw σ N [] (key.take (p + 1))).1) ?_ ?_
 ·refine be (av (a7 4 rfl rfl) (a7 3 rfl rfl) (lq H (T1.cell _ _ hj) (bX _ T1.nk))) (fun hb => ?_) (fun hb => ?_)
  ·have hin : key.take p ++ [n] ∉ (bw σ N [] (key.take p)).2.map (·.1) := fun h => by
    obtain ⟨i, hi⟩ := dg h;rw [T1.dget hi] at hb; cases hb
   refine a9 (rm pD (a7 3 rfl rfl) (a7 4 rfl rfl) (ad _ (T1.cell _ _ hj)) (T1.dget_no hin) (by have := jx (bw σ N [] (key.take p)).2 (key.take p); exact yW (xV ‹_› ‹_›) (by decide)) (ak ⟨rfl, rfl, ?_⟩));rw [hins];show _ = (if _ then _ else _ : a8 × Tab).1;rw [if_neg hin, dZ T1.nk hj]; rfl
  have hin : key.take p ++ [n] ∈ (bw σ N [] (key.take p)).2.map (·.1) := by
   refine Classical.byContradiction fun h => ?_
   rw [T1.dget_no h] at hb; cases hb
  refine ak ⟨rfl, rfl, ?_⟩;rw [hins];show _ = (if _ then _ else _ : a8 × Tab).1;rw [if_pos hin]; rfl
 refine a9 (ab 3 (aV (a7 3 rfl rfl) (a7 4 rfl rfl) (jB fin) (eD fin (bX _ T2.nk) (T2.dget hj2))) rfl (.inl rfl) ?_);refine a9 (be (b := false) (i5 (dD (dp (a7 2 rfl rfl) cu) (iH (dp (aj (kl := []) (H.built rfl rfl) (.blt _) (aa (a7 3 rfl rfl) (aa (H.built (V := .type "list") rfl rfl) ac)) ao (oM hcell2)) cu)))) nft fun _ => ak ?_);refine a9 (be (b := false) (l6 (dp (aj (kl := []) (H.built rfl rfl) (.blt _) (aa (a7 3 rfl rfl) (aa (H.built (V := .type "dict") rfl rfl) ac)) ao (oN hcell2)) cu)) nft fun _ => ak (ak ?_));refine ⟨some (.str n), hlt, ?_, rfl⟩;rw [dZ T2.nk hj']; rfl
open PySem.Builtin PySem.Builtin.ObjectAttr
theorem bj.in1 (R : bj K hn (d + 1) A) : bj K hn d A.in1 := ⟨R.hand, R.frames, by have := R.depth; show A.depth + d < 990; exact yU ‹_›, by have := R.units; show A.units + 1 + 60 * d + 100 < 9000; exact aD this (by decide)⟩
theorem units_make (C : Addr) (args : List Value) (kw : List (Str × Value)) : (Code.builtin "type.__call__" ⟨.ref C :: args, kw⟩).cUnits = 1 := rfl
theorem bj.make {args : List Value} {kw : List (Str × Value)} (R : bj K hn (d + 1) A) : bj K hn d (A.under (.builtin "type.__call__" ⟨.ref C :: args, kw⟩)) :=
 ⟨R.hand, by show pushEnvs [] A.frames = _; exact R.frames, by have := R.depth; show A.depth + 1 + d < 990; exact aE this, by have := R.units; show A.units + 1 + 60 * d + 100 < 9000; exact aD this (by decide)⟩
def nq (K : KB) (a : Addr) : Prop := ∃ (G : Frag) (o : Obj) (cd : ClassData), G.In K.h0 ∧ specialIn G (.ref a) "__call__" = some (some (.builtin "type.__call__")) ∧ K.h0.get? a = some o ∧ o.data = .cls cd
theorem gC {s : Shared} {args : List (Bool × Sem Value)} {kws : List (Option Str × Sem Value)} (hc : nq K.toKB a)
  (hs : (args.any (·.1) || kws.any (·.1.isNone)) = false)
  (h : wpAny (model pw K.w) A (evalArgs (.ref a) true args kws) (fun x s1 => (∀ b o, K.h0.get? b = some o → s1.heap.get? b = some o) ∧ wpAny (model pw K.w) A (call (.ref a) x.pos x.kw) Q E s1) E s) :
  wpAny (model pw K.w) A (callWith pos (.ref a) [] args kws) Q E s := by
 obtain ⟨G, o, cd, hG, hsp, ho, hd⟩ := hc;unfold callWith;refine za (yP (zj h (fun x s₁ h₁ => za (wpAny_standAt ?_)) fun _ _ x => x));have tail : ∀ {t : Sem Value}, wpAny (model pw K.w) A t Q E s₁ → wpAny (model pw K.w) A (t >>= fun r => holding [r] point >>= fun _ => pure r) Q E s₁ :=
  fun ht => za (zj ht (fun r s₂ hr => za (yP (wpAny_point (zb hr)))) fun _ _ x => x)
 rw [hs];refine za (m := keeperOf _) ?_;unfold keeperOf;refine za (wpAny_load (h₁.1 _ _ ho) ?_);rw [hd];dsimp only;refine za ((looks_specialIn (hG.keeps h₁.1) hsp).here ?_);rw [if_pos (beq_self_eq_true _)];exact zb (tail (by rw [List.nil_append]; exact h₁.2))
theorem t7 {n : Str} (hf : EvE K hn d F vals σ (.Name n p) (.glob (.ref a)) σ) (hc : nq K.toKB a)
  (hp : PC K hn d σ (.ref a) [] [] v σ3) : EvE K hn d F vals σ (.Call (.Name n p) [] [] pos) v σ3 := fun A φ s R G I Q E hQ => by
 refine wpAny_Call_Name_kw (hf A φ s R G I _ _ fun φ0 s0 V0 X0 G0 r0 => ?_);unfold RV at r0;subst r0;refine gC hc rfl (PySem.evalArgs_none ⟨G0.base, ?_⟩);exact hp A φ0 s0 [] [] R G0 (by unfold RL; rfl) (by unfold RL; rfl) Q E fun φ3 s3 V X3 G3 r3 => hQ φ3 s3 V (X0.trans X3) G3 r3
theorem pF {n : Str} (hf : EvE K hn d F vals σ (.Name n p) (.glob (.ref a)) σ) (hc : nq K.toKB a)
  (ha : EvL K hn d F vals σ pos (e :: args) l σ1) (hp : PC K hn d σ1 (.ref a) l [] v σ3)
  (he : starEach (e :: args) F.env = (false, eval e F.env) :: starEach args F.env := by rfl)
  (hs : (backTo pos (starEach args F.env)).any (·.1) = false := by rfl) : EvE K hn d F vals σ (.Call (.Name n p) (e :: args) [] pos) v σ3 := fun A φ s R G I Q E hQ => by
 refine wpAny_Call_Name_kw (hf A φ s R G I _ _ fun φ0 s0 V0 X0 G0 r0 => ?_);unfold RV at r0;subst r0;have I0 := I.ext G X0;refine gC hc ?_ ?_
 ·rw [he]; exact xk ⟨xk ⟨rfl, hs⟩, rfl⟩
 have ha' := ha A φ0 s0 R G0 I0;rw [he] at ha' ⊢;refine evalArgs_kw rfl (ha' _ _ fun φ1 s1 Vs X1 G1 r1 => wpAny_evalAll_nil ⟨G1.base, ?_⟩);exact hp A φ1 s1 Vs [] R G1 r1 (by show RL _ _ [] _; unfold RL; rfl) Q E fun φ3 s3 V X3 G3 r3 => hQ φ3 s3 V ((X0.trans X1).trans X3) G3 r3
theorem nP (H : Wld K.toKB) {o value : Expr} {p' pos : Pos} {k kd n : Nat} (h1 : EvE K hn d F vals σ value (.ref n) σ1) (h2 : EvE K hn d F vals σ1 o (.ref k) σ2) (hk : σ2[k]? = some (.inst kd)) (hd : σ2[kd]? = some .ns0) (hP : P .next vals (σ2.set kd (.ns n)))
  (hs : swapsWith value (some (.Attribute o "dict" p')) pos.line F.env = pure false := by rfl) : TSt K hn d F vals σ (exec (.Assign [.Attribute o "dict" p'] value pos) F.env) P := fun A φ s R G I Q E hQ => by
 obtain ⟨FG, hG, _, _, _, c4, c5, c6, c7, _, _, c10, c11, c12⟩ := H.cls;refine plainObj_wpAny_Assign_Attribute (h1 A φ s R G I _ _ fun φ1 s1 V1 X1 G1 r1 => h2 A φ1 s1 R G1 (I.ext G X1) _ _ fun φ2 s2 V2 X2 G2 r2 => ?_) hs;have I2 := (I.ext G X1).ext G1 X2;have rv := r1.ext G1 X2;obtain ⟨x, dx, ox, rfl, hdx, hx, hcl, hdd, hpl, hkx⟩ := G2.inst r2 hk;have D : s2.heap.get? dx = some { cls := .type "dict", data := .dict #[] } := G2.cells kd dx _ hdx hd;have hI : InstAt s2.heap x ox 142 (some { cls := .type "dict", data := .dict #[] }) := ⟨hx, hcl, by unfold notCls; rw [hpl], by rw [hdd]; exact D⟩
 have X := hG.keeps G2.base;obtain ⟨cd, hcd, hhd⟩ := any_some c7;obtain ⟨hp, g, dr, tk, os⟩ := s2;refine set_plain X hI c10 (osa_open (s := ⟨hp, g, dr, tk + 1, os⟩) X hI c11 c12 fun b => ?_);obtain ⟨oc, odi, oda, osl⟩ := ox;dsimp only at hcl hdd hpl;subst hcl hdd hpl;refine za (zb (za (za (wpAny_loadPart hx (za ((looks_clsIn X hcd).at ?_))))));rw [hhd];refine zb (a := some dx) (za (zb (za ?_)));unfold nsSet;refine za (za (wpAny_askSetting (zb (za (wpAny_mkText (za (wpAny_loadPart D ?_)))))));dsimp only;rw [if_neg (by decide +kernel)];refine wpAny_updatePart D ?_;generalize hhash : (if (Str.ofString "dict").cps.isEmpty = true then (0 : Int) else reduceHash ((model pw K.w).w.params.strHash (Str.ofString "dict").cps)) = hsh;have hput : Obj.putName (Str.ofString "dict") hsh (Value.str (Str.ofString "dict") (tk + 1)) V1 { cls := .type "dict", data := .dict #[] } = { cls := .type "dict", data := .dict #[⟨hsh, .str (Str.ofString "dict") (tk + 1), V1⟩] 1 } := by
  rw [Obj.putName_eq]; unfold Obj.putNameByArray; simp
 have hsb : Heap.SameBut dx hp (hp.update dx (Obj.putName (Str.ofString "dict") hsh (Value.str (Str.ofString "dict") (tk + 1)) V1)) := Heap.SameBut.update ..
 have D' : (hp.update dx (Obj.putName (Str.ofString "dict") hsh (Value.str (Str.ofString "dict") (tk + 1)) V1)).get? dx = some { cls := .type "dict", data := .dict #[⟨hsh, .str (Str.ofString "dict") (tk + 1), V1⟩] 1 } := by
  rw [← hput];exact xv _ D (by rw [hput]; rfl)
 refine za (wpAny_lookBehind D' (pastItsLine_dict (by rw [sizeLine_eq]; show 1 ≤ _; exact yF _ _)) ?_);have hnt : ∀ o', hp.get? dx = some o' → o'.cls ≠ .type "tuple" ∧ o'.cls ≠ .ref 387 := fun o' e => by
  have D : hp.get? dx = some { cls := .type "dict", data := .dict #[] } := D;rw [D] at e; cases e; exact ⟨by show ¬ (Value.type "dict" = _); decide, nofun⟩
 have hcell : b5 K.w φ2 (hp.update dx (Obj.putName (Str.ofString "dict") hsh (Value.str (Str.ofString "dict") (tk + 1)) V1)) dx (.ns n) := ⟨_, _, 1, tk + 1, D', rfl, rfl, rfl, rv.in_heap (s := ⟨hp, g, dr, tk, os⟩) hsb hnt⟩
 have G3 := G2.upd (s := ⟨hp, g, dr, tk, os⟩) (t := tk + 2) hdx hsb hnt hcell;have X3 : Ext φ2 ⟨hp, g, dr, tk, os⟩ φ2 ⟨hp.update dx (Obj.putName (Str.ofString "dict") hsh (Value.str (Str.ofString "dict") (tk + 1)) V1), g, dr, tk + 2, os⟩ := Ext.upd (xB hdx) hsb;exact zb (hQ φ2 _ .next .next vals _ (((X1.trans X2).trans X3).toS _) G3 (I2.ext G2 X3) rfl hP)
theorem uw (H : Wld K.toKB) {k kd : Nat} (hk : σ[k]? = some (.inst kd)) (hd : σ[kd]? = some .ns0) : PCC K true (d + 1) σ (.ref 124) [.ref k] [] (fun v s' => v = .none ∧ s' = (σ ++ [ag.dict []]).set kd (ag.ns σ.length)) := by
 refine H.defC (t := qV) (params := ["self"]) (rest := []) (dflt := []) (xB (i := 27) rfl) (eM fun _ _ _ _ _ => rfl) rfl (by decide +kernel) (aL rfl) rfl rfl rfl fun L H => ?_
 show TSt _ _ _ _ _ _ (execs (ax (sub 22 0)) _) _;exact a9 (nP H pD (a7 0 rfl rfl) (ad _ hk) (ad _ hd) (ak ⟨rfl, rfl⟩))
theorem vN (H : Wld K.toKB) : PC K true (d + 2) σ (.ref 142) [] [] (.ref (σ.length + 1)) (σ ++ [.ns (σ.length + 2), .inst σ.length, .dict []]) := fun A φ s Vs Ws R G r1 r2 Q E hQ => by
 obtain ⟨FG, hG, c1, c2, c3, _⟩ := H.cls;have r1 : Vs = [] := by unfold RL at r1; exact r1
 have r2 : Ws = [] := by unfold RL at r2; exact r2
 subst r1 r2;have X := hG.keeps G.base;obtain ⟨hp, g, dr, tk, os⟩ := s;refine wpAny_call (make_core (makes_of X c1) (looks_findIn X c2) (fun self => bind_fn X self c3) (.inl rfl) ?_);have X1 := Ext.alloc φ ⟨hp, g, dr, tk, os⟩ emptyDict;have G1 := G.alloc emptyDict .ns0 (xL _ rfl);have X2 := Ext.alloc (φ ++ [hp.objs.size]) ⟨hp.push emptyDict, g, dr, tk, os⟩ (instObj 142 hp.objs.size);have hl : φ.length = σ.length := G.len;have G2 := G1.alloc (instObj 142 hp.objs.size) (.inst σ.length) ⟨_, hp.objs.size, xL _ rfl, rfl, rfl, rfl, by
  rw [xc (by simp [hl]), ← hl]; simp⟩
 have hsz : (hp.push emptyDict).objs.size = hp.objs.size + 1 := yM ..
 have hk : (σ ++ [ag.ns0] ++ [ag.inst σ.length])[σ.length + 1]? = some (.inst σ.length) := by
  have := ae (σ ++ [ag.ns0]) (.inst σ.length);rwa [xR, xt] at this
 have hd : (σ ++ [ag.ns0] ++ [ag.inst σ.length])[σ.length]? = some .ns0 := ad _ (ae ..);have rself : RV (φ ++ [hp.objs.size] ++ [(hp.push emptyDict).objs.size]) ((hp.push emptyDict).push (instObj 142 hp.objs.size)) (.ref (σ.length + 1)) (.ref (hp.objs.size + 1)) := by
  unfold RV;refine ⟨hp.objs.size + 1, ?_, rfl⟩;rw [hsz, ← hl];have : (φ ++ [hp.objs.size]).length = φ.length + 1 := by simp
  rw [← this]; simp
 refine codeAny_mono (uw (d := d) H hk hd (A.under (.builtin "type.__call__" ⟨[.ref 142], []⟩)) _ ⟨(hp.push emptyDict).push (instObj 142 hp.objs.size), g, dr, tk, os⟩ [.ref (hp.objs.size + 1)] [] R.make G2 (by unfold RL; exact ⟨_, [], rfl, rself, by unfold RL; rfl⟩) (by show RL _ _ [] _; unfold RL; rfl)
  (fun V s' => V = .none ∧ Q (.ref (hp.objs.size + 1)) s') E fun φ' s' V v σ' X3 G3 r3 p3 => ?_) fun r s' z => ?_
 ·obtain ⟨rfl, rfl⟩ := p3;unfold RV at r3;refine ⟨r3, ?_⟩;have eS : (σ ++ [ag.ns0] ++ [ag.inst σ.length] ++ [ag.dict []]).set σ.length (.ns (σ ++ [ag.ns0] ++ [ag.inst σ.length]).length) = σ ++ [.ns (σ.length + 2), .inst σ.length, .dict []] := by
   have e1 : (σ ++ [ag.ns0] ++ [ag.inst σ.length] ++ [ag.dict []]) = σ ++ ag.ns0 :: [ag.inst σ.length, ag.dict []] := by simp
   rw [e1, mr]; simp
  rw [eS] at G3;refine hQ φ' s' _ ((X1.trans X2).trans X3) G3 ?_;exact rself.ext G2 X3
 unfold InitBack;rcases r with e | (v | _ | _ | _)
 ·exact z
 ·exact z.elim
 ·exact z.elim
 ·exact z.elim
 exact z
inductive cP {α : Type} (f : Nat → Nat → Bool) (N : Nat) : KasT α → α → Prop
 | ret (a : α) : cP f N (.ret a) a
 | ask {i j : Nat} {k : Bool → KasT α} {a : α} : i < N → j < N → cP f N (k (f i j)) a → cP f N (.ask i j k) a
theorem cP.bind {α β : Type} {f : Nat → Nat → Bool} {N : Nat} {t : KasT α} {a : α} {g : α → KasT β} {b : β} (h : cP f N t a) (h2 : cP f N (g a) b) : cP f N (t.bind g) b := by
 induction h with
 | ret a => exact h2
 | ask h1 h2' _ ih => exact .ask h1 h2' (ih h2)
theorem cP.wp {α : Type} {f : Nat → Nat → Bool} {N : Nat} {t : KasT α} {a : α} {cmp : Nat → Nat → (Bool → Shared → Prop) → Shared → Prop} {Q : α → Shared → Prop} {s : Shared}
  (hc : ∀ i j C, i < N → j < N → C (f i j) s → cmp i j C s) (h : cP f N t a) (hq : Q a s) : t.kasWp cmp Q s := by
 induction h with
 | ret a => exact hq
 | ask h1 h2 _ ih => exact hc _ _ _ h1 h2 (ih hq)
structure Ord (f : Nat → Nat → Bool) (N : Nat) : Prop where
 irr : ∀ i, i < N → f i i = false
 tr : ∀ i j k, i < N → j < N → k < N → f i j = true → f j k = true → f i k = true
 tot : ∀ i j, i < N → j < N → i ≠ j → f i j = true ∨ f j i = true
noncomputable def gp (p : Array Nat) (i : Nat) : Nat := p.getD i 0
structure PO (N : Nat) (p : Array Nat) : Prop where
 size : p.size = N
 lt : ∀ i, gp p i < N
 inj : ∀ i j, i < N → j < N → gp p i = gp p j → i = j
theorem PO.perm {N : Nat} {p q : Array Nat} (h : PO N p) (hp : q.toList.Perm p.toList) : PO N q := by
 have hs : q.size = N := by have := hp.length_eq; simpa [h.size] using this
 have hN : ∀ i, i < N → q[i]? = some (gp q i) := fun i hi => by
  unfold gp;rw [xe (by exact hs ▸ hi)];simp [Array.getD, hs, hi]
 have hpN : ∀ i, i < N → p[i]? = some (gp p i) := fun i hi => by
  unfold gp;rw [xe (by rw [h.size]; assumption)];simp [Array.getD, h.size, hi]
 have nd : p.toList.Nodup := by
  rw [List.nodup_iff_pairwise_ne, List.pairwise_iff_getElem];intro i j hi hj hij e;have hi' : i < N := by rw [← h.size]; simpa using hi
  have hj' : j < N := by rw [← h.size]; simpa using hj
  have e1 := hpN i hi';have e2 := hpN j hj';rw [← xu, xg hi] at e1;rw [← xu, xg hj] at e2;have : gp p i = gp p j := by injection e1 with e1; injection e2 with e2; rw [← e1, ← e2]; exact e
  have := h.inj i j hi' hj' this;exact yZ hij this
 have ndq : q.toList.Nodup := hp.nodup_iff.mpr nd;refine ⟨hs, fun i => ?_, fun i j hi hj e => ?_⟩
 ·by_cases hi : i < N
  ·have hm : gp q i ∈ p.toList := hp.mem_iff.mp (by
    have := hN i hi;rw [← xu] at this;exact xB this)
   obtain ⟨k, hk⟩ := List.getElem?_of_mem hm;rw [xu] at hk;have hk' : k < N := by rw [← h.size]; exact (Array.getElem?_eq_some_iff.mp hk).1
   rw [hpN k hk'] at hk;injection hk with hk
   rw [← hk]; exact h.lt k
  have : gp q i = 0 := by unfold gp; simp [Array.getD, hs, hi]
  rw [this];have := h.lt 0;exact zp this
 have e1 := hN i hi;have e2 := hN j hj;rw [← xu] at e1 e2;rw [← e] at e2;obtain ⟨a1, b1⟩ := x7 e1;obtain ⟨a2, b2⟩ := x7 e2;exact (List.getElem_inj ndq).mp (b1.trans b2.symm)
def PS (f : Nat → Nat → Bool) (p : Array Nat) (k : Nat) : Prop := ∀ a b, a < b → b < k → f (gp p a) (gp p b) = true
section
variable {f : Nat → Nat → Bool} {N : Nat} {p : Array Nat}
theorem PS.step (O : Ord f N) (hp : PO N p) {k : Nat} (hk : k < N) (h1 : 1 ≤ k) (h : PS f p k) (hf : f (gp p (k - 1)) (gp p k) = true) : PS f p (k + 1) := by
 intro a b hab hb;by_cases e : b = k
 ·subst e;by_cases ea : a = b - 1
  ·rw [ea]; exact hf
  exact O.tr _ _ _ (hp.lt _) (hp.lt _) (hp.lt _) (h a (b - 1) (yc (sJ hab) ea) (sK h1)) hf
 exact h a b hab (yc (yi hb) e)
theorem jq (O : Ord f N) (hp : PO N p) {i j : Nat} (hi : i < N) (hj : j < N) (hij : i ≠ j) (h : f (gp p i) (gp p j) = false) : f (gp p j) (gp p i) = true := by
 rcases O.tot _ _ (hp.lt i) (hp.lt j) (fun e => hij (hp.inj i j hi hj e)) with q | q
 ·rw [h] at q; cases q
 exact q
theorem oQ (O : Ord f N) (hp : PO N p) : ∀ (fu n : Nat), n + fu = N → 1 ≤ n → PS f p n → ∃ m, cP f N (kas_asc p fu n) m ∧ n ≤ m ∧ m ≤ N ∧ PS f p m ∧ (m < N → f (gp p m) (gp p (m - 1)) = true)
 | 0, n, h, h1, hs => ⟨n, .ret _, z6 _, by exact yV ‹_›, hs, fun q => by exact absurd h (yZ q)⟩
 | fu + 1, n, h, h1, hs => by
  cases hc : f (gp p n) (gp p (n - 1)) with
  | true => exact ⟨n, .ask (hp.lt _) (hp.lt _) (by show cP f N (if f (gp p n) (gp p (n - 1)) = true then _ else _) _; rw [hc]; exact .ret _), z6 _, by exact h ▸ yp .., hs, fun _ => hc⟩
  | false =>
   have hs' := hs.step O hp (by exact h ▸ Nat.lt_add_of_pos_right (Nat.succ_pos fu)) h1 (jq O hp (by lia) (by exact xU (sK h1) (h ▸ yp ..)) (yY (sK h1)) hc);obtain ⟨m, g, h2, h3, h4, h5⟩ := oQ O hp fu (n + 1) ((xW ..).trans h) (yF _ _) hs';exact ⟨m, .ask (hp.lt _) (hp.lt _) (by show cP f N (if f (gp p n) (gp p (n - 1)) = true then _ else _) _; rw [hc]; exact g), by exact yU ‹_›, h3, h4, h5⟩
theorem pG (O : Ord f N) (hp : PO N p) : ∀ (fu n : Nat), n + fu = N → 1 ≤ n → (∀ k, 1 ≤ k → k < n → f (gp p k) (gp p (k - 1)) = true) → ∃ m, cP f N (kas_desc fu p n 0) (p, m, 0) ∧ n ≤ m ∧ m ≤ N ∧ ∀ k, 1 ≤ k → k < m → f (gp p k) (gp p (k - 1)) = true
 | 0, n, h, h1, hs => ⟨n, .ret _, z6 _, by exact yV ‹_›, hs⟩
 | fu + 1, n, h, h1, hs => by
  cases hc : f (gp p n) (gp p (n - 1)) with
  | true =>
   obtain ⟨m, g, h2, h3, h4⟩ := pG O hp fu (n + 1) ((xW ..).trans h) (yF _ _) fun k q1 q2 => by
    by_cases e : k = n
    ·rw [e]; exact hc
    exact hs k q1 (yc (yi q2) e)
   refine ⟨m, .ask (hp.lt _) (hp.lt _) ?_, by exact yU ‹_›, h3, h4⟩;show cP f N (if f (gp p n) (gp p (n - 1)) = true then (if 0 > 0 then _ else _) else _) _;rw [hc]; exact g
  | false =>
   have hd := jq O hp (by exact h ▸ Nat.lt_add_of_pos_right (Nat.succ_pos fu)) (by exact xU (sK h1) (h ▸ yp ..)) (yY (sK h1)) hc;refine ⟨n, .ask (hp.lt _) (hp.lt _) ?_, z6 _, by exact h ▸ yp .., hs⟩;show cP f N (if f (gp p n) (gp p (n - 1)) = true then _ else KasT.ask (gp p (n - 1)) (gp p n) fun d => if d = true then .ret (p, n, 0) else _) _;rw [hc];refine .ask (hp.lt _) (hp.lt _) ?_;rw [hd]; exact .ret _
theorem pv {p q : Array Nat} (h : p[i]? = q[j]?) : gp p i = gp q j := by
 unfold gp;have e : ∀ (r : Array Nat) (k : Nat), r.getD k 0 = r[k]?.getD 0 := fun r k => by simp
 rw [e, e, h]
theorem vk (O : Ord f N) (hp : PO N p) {m : Nat} (hm : m ≤ N) (hs : ∀ k, 1 ≤ k → k < m → f (gp p k) (gp p (k - 1)) = true) : PO N (kas_rev p 0 m) ∧ PS f (kas_rev p 0 m) m := by
 have hP : (kas_rev p 0 m).toList.Perm p.toList := (mirror_perm p 0 m ((m - 0) / 2)).toList;have hp' := hp.perm hP;refine ⟨hp', ?_⟩;have dn : ∀ b a, a < b → b < m → f (gp p b) (gp p a) = true := by
  intro b
  induction b with
  | zero => intro a h; exact fun _ => absurd h (Nat.not_lt_zero _)
  | succ b ih =>
   intro a h1 h2;have h3 := hs (b + 1) (yF _ _) h2;rw [Nat.add_sub_cancel] at h3;by_cases e : a = b
   ·rw [e]; exact h3
   exact O.tr _ _ _ (hp.lt _) (hp.lt _) (hp.lt _) h3 (ih a (yc (yi h1) e) (yU ‹_›))
 have hg : ∀ k, k < m → gp (kas_rev p 0 m) k = gp p (m - 1 - k) := fun k hk => by
  refine pv ?_;have := getElem?_mirror_all (xs := p) (i := 0) (j := m) (by rw [hp.size]; exact hm) k;unfold kas_rev;rw [this, if_pos ⟨z7 _, hk⟩];congr 1; exact congrArg (· - 1 - k) (Nat.zero_add m)
 intro a b hab hb;rw [hg a (yW ‹_› ‹_›), hg b hb];exact dn _ _ (sA hab (sJ hb)) (sI (yW hab hb))
theorem tc (O : Ord f N) (hp : PO N p) (hN : 1 ≤ N) : ∃ m q, cP f N (kas_count N p) (m, q) ∧ 1 ≤ m ∧ m ≤ N ∧ PO N q ∧ PS f q m := by
 have hs1 : PS f p 1 := fun a b h1 h2 => by exact absurd (xU h1 (yi h2)) (Nat.not_lt_zero a)
 obtain ⟨n, g, h1, h2, h3, h4⟩ := oQ O hp (N - 1) 1 (sG hN) (z6 _) hs1;unfold kas_count;by_cases hn : n = N
 ·exact ⟨n, p, g.bind (by rw [if_pos (by simp [hn])]; exact .ret _), h1, h2, hp, h3⟩
 by_cases hn1 : n > 1
 ·refine ⟨n, p, g.bind ?_, h1, h2, hp, h3⟩;rw [if_neg (by simp [hn]), if_pos hn1];refine .ask (hp.lt _) (hp.lt _) ?_;have : f (gp p 0) (gp p (n - 1)) = true := h3 0 (n - 1) (Nat.sub_pos_of_lt hn1) (sK h1);show cP f N (if f (gp p 0) (gp p (n - 1)) = true then _ else _) _;rw [this]; exact .ret _
 have e : n = 1 := by exact yE (yS hn1) h1
 subst e;have h4 := h4 (yc ‹_› ‹_›);obtain ⟨m, gd, d1, d2, d3⟩ := pG O hp (N - 2) 2 (sG (yc hN hn)) (z8 _) fun k q1 q2 => by
  have : k = 1 := by exact yE (yi q2) q1
  subst this; exact h4
 obtain ⟨r1, r2⟩ := vk O hp d2 d3;obtain ⟨m', ga, a1, a2, a3, _⟩ := oQ O r1 (N - m) m (sG d2) (yU ‹_›) r2;refine ⟨m', kas_rev p 0 m, g.bind ?_, by exact yU (xU ‹_› ‹_›), a2, r1, a3⟩;rw [if_neg (by simp [hn]), if_neg ‹_›];unfold kas_descPart;refine cP.bind (a := (p, m, 0)) gd ?_;show cP f N (if 0 > 0 then _ else kas_tail3 m N p) _;rw [if_neg (by exact Nat.not_le.mpr ‹_›)];unfold kas_tail3;exact ga.bind (.ret _)
theorem jk (O : Ord f N) (hp : PO N p) {k : Nat} (hk : k < N) (hs : PS f p k) : ∀ (fu l r : Nat), r ≤ l + fu → l ≤ r → r ≤ k → (∀ a, a < l → f (gp p a) (gp p k) = true) → (∀ a, r ≤ a → a < k → f (gp p k) (gp p a) = true) →
  ∃ z, cP f N (kas_place p k fu l r) z ∧ z ≤ k ∧ (∀ a, a < z → f (gp p a) (gp p k) = true) ∧ ∀ a, z ≤ a → a < k → f (gp p k) (gp p a) = true
 | 0, l, r, h1, h2, h3, h4, h5 => ⟨l, .ret _, by exact yT ‹_› ‹_›, h4, fun a q => h5 a (yT h1 q)⟩
 | fu + 1, l, r, h1, h2, h3, h4, h5 => by
  unfold kas_place;by_cases hlr : l ≥ r
  ·rw [if_pos hlr];exact ⟨l, .ret _, by exact yT ‹_› ‹_›, h4, fun a q => h5 a (yT ‹_› ‹_›)⟩
  rw [if_neg hlr];cases hc : f (gp p k) (gp p ((l + r) / 2)) with
  | true =>
   obtain ⟨z, g, z1, z2, z3⟩ := jk O hp hk hs fu l ((l + r) / 2) (yi (xU (aF (Nat.not_le.mp hlr)) h1)) (aH (yU (Nat.not_le.mp hlr))) (yU (xU (aF (Nat.not_le.mp hlr)) h3)) h4 fun a q1 q2 => by
    by_cases e : a = (l + r) / 2
    ·rw [e]; exact hc
    exact O.tr _ _ _ (hp.lt _) (hp.lt _) (hp.lt _) hc (hs _ _ (yc q1 (Ne.symm e)) q2)
   refine ⟨z, .ask (hp.lt _) (hp.lt _) ?_, z1, z2, z3⟩;show cP f N (if f (gp p k) (gp p ((l + r) / 2)) = true then _ else _) _;rw [hc]; exact g
  | false =>
   have hf := jq O hp hk (xU (aF (Nat.not_le.mp hlr)) (yT h3 (yU hk))) (yY (xU (aF (Nat.not_le.mp hlr)) h3)) hc;obtain ⟨z, g, z1, z2, z3⟩ := jk O hp hk hs fu ((l + r) / 2 + 1) r (yT h1 (yT (Nat.add_le_add_right (aH (yU (Nat.not_le.mp hlr))) (fu + 1)) (yV (xW _ fu 1)))) (aF (Nat.not_le.mp hlr)) h3 (fun a q => by
    by_cases e : a = (l + r) / 2
    ·rw [e]; exact hf
    exact O.tr _ _ _ (hp.lt _) (hp.lt _) (hp.lt _) (hs _ _ (yc (yi q) e) (xU (aF (Nat.not_le.mp hlr)) h3)) hf) h5
   refine ⟨z, .ask (hp.lt _) (hp.lt _) ?_, z1, z2, z3⟩;show cP f N (if f (gp p k) (gp p ((l + r) / 2)) = true then _ else _) _;rw [hc]; exact g
theorem vR (O : Ord f N) (hp : PO N p) {k z : Nat} (hk : k < N) (hs : PS f p k) (hz : z ≤ k) (h1 : ∀ a, a < z → f (gp p a) (gp p k) = true) (h2 : ∀ a, z ≤ a → a < k → f (gp p k) (gp p a) = true) :
  PO N (bubble p k (k - z)) ∧ PS f (bubble p k (k - z)) (k + 1) := by
 have hP : (bubble p k (k - z)).toList.Perm p.toList := (bubble_perm p k (k - z)).toList;refine ⟨hp.perm hP, ?_⟩;have hg : ∀ i, gp (bubble p k (k - z)) i = if i = z then gp p k else if z < i ∧ i ≤ k then gp p (i - 1) else gp p i := fun i => by
  have e := getElem?_bubble (xs := p) (src := k) (by rw [hp.size]; exact hk) (k - z) (Nat.sub_le _ _) i;have ez : k - (k - z) = z := by exact sF hz
  rw [ez] at e;by_cases q1 : i = z
  ·rw [if_pos q1] at e ⊢; exact pv e
  rw [if_neg q1] at e ⊢;by_cases q2 : z < i ∧ i ≤ k
  ·rw [if_pos q2] at e ⊢; exact pv e
  rw [if_neg q2] at e ⊢; exact pv e
 intro a b hab hb;rw [hg a, hg b];by_cases ea : a = z
 ·rw [if_pos ea, if_neg (by exact yY (ea ▸ hab)), if_pos ⟨by exact ea ▸ hab, by exact yi ‹_›⟩];exact h2 _ (by exact ea ▸ sJ hab) (xU (sK (zp hab)) (yi hb))
 rw [if_neg ea];by_cases ha : z < a ∧ a ≤ k
 ·rw [if_pos ha, if_neg (yY (yW ha.1 hab)), if_pos ⟨by exact yW ha.1 hab, by exact yi hb⟩];exact hs _ _ (Nat.sub_lt_sub_right (zp ha.1) hab) (xU (sK (zp hab)) (yi hb))
 rw [if_neg ha];by_cases eb : b = z
 ·rw [if_pos eb]; exact h1 a (by exact eb ▸ hab)
 rw [if_neg eb];by_cases hb2 : z < b ∧ b ≤ k
 ·rw [if_pos hb2]; exact hs _ _ (xU (yc (yS fun q => ha ⟨q, yU (xU hab hb2.2)⟩) ea) (sJ hb2.1)) (by omega)
 rw [if_neg hb2]; exact hs _ _ hab (xU (yc (yS fun q => hb2 ⟨q, yi hb⟩) eb) hz)
theorem tx (O : Ord f N) : ∀ (fu : Nat) (p : Array Nat) (k : Nat), PO N p → k + fu = N → PS f p k → ∃ q, cP f N (kas_bin fu p k) q ∧ PO N q ∧ PS f q N
 | 0, p, k, hp, h, hs => ⟨p, .ret _, hp, by have : k = N := by assumption
                                            rw [← this]; exact hs⟩
 | fu + 1, p, k, hp, h, hs => by
  obtain ⟨z, g, z1, z2, z3⟩ := jk O hp (by exact h ▸ Nat.lt_add_of_pos_right (Nat.succ_pos fu) : k < N) hs k 0 k (yF _ _) (z7 _) (z6 _) (fun a q => by exact absurd q (Nat.not_lt_zero _)) (fun a q1 q2 => by exact absurd ‹_› (yO ‹_›));obtain ⟨b1, b2⟩ := vR O hp (by lia) hs z1 z2 z3;obtain ⟨q, gq, q1, q2⟩ := tx O fu _ (k + 1) b1 ((xW ..).trans h) b2;exact ⟨q, g.bind gq, q1, q2⟩
theorem u2 (O : Ord f N) (hN : 1 ≤ N) : ∃ q, cP f N (kas_sort N) q ∧ PO N q ∧ PS f q N := by
 have hp : PO N (List.toArray (List.range N)) := by
  have hg : ∀ i, i < N → gp (List.toArray (List.range N)) i = i := fun i hi => by unfold gp; simp [hi]
  refine ⟨by simp, fun i => ?_, fun i j hi hj e => by rw [hg i hi, hg j hj] at e; exact e⟩;by_cases hi : i < N
  ·rw [hg i hi]; exact hi
  have : gp (List.toArray (List.range N)) i = 0 := by unfold gp; simp [hi]
  rw [this]; assumption
 obtain ⟨m, q, g, h1, h2, h3, h4⟩ := tc O hp hN;unfold kas_sort;by_cases hm : m < N
 ·have hx : max m 1 = m := by exact Nat.max_eq_left h1
  obtain ⟨r, gr, r1, r2⟩ := tx O (N - m) q m h3 (sG (yU hm)) h4;refine ⟨r, g.bind ?_, r1, r2⟩;show cP f N (if m < N then kas_bin (N - max m 1) q (max m 1) else _) r;rw [if_pos hm, hx]; exact gr
 have : m = N := by exact yE h2 (yS hm)
 subst this;refine ⟨q, g.bind ?_, h3, h4⟩;show cP f m (if m < m then _ else KasT.ret q) q;rw [if_neg hm]; exact .ret _
end
def TVS (K : KC) (hn : Bool) (d : Nat) (F : Frm) (vals : ai) (σ : a8) {α : Type} (t : Sem α) (Rel : List Addr → Heap → α → Prop) (σ' : a8) : Prop :=
 ∀ (A : Around) (φ : List Addr) (s : Shared), bj K hn d A → af K φ σ s → aM K F vals φ s.heap → ∀ (Q : α → Shared → Prop) (E : Value → Shared → Prop),
  (∀ φ' s' x, bo F.own φ s φ' s' → af K φ' σ' s' → aM K F vals φ' s'.heap → Rel φ' s'.heap x → Q x s') → wpAny (model pw K.w) A t Q E s
noncomputable def m5 (h : Heap) (L : Addr) : List (Addr × Obj) := (List.range h.objs.size).filterMap fun a => if a = L then none else (h.get? a).map fun o => (a, o)
theorem cO {L : Addr} {p : Addr × Obj} : p ∈ m5 h L ↔ h.get? p.1 = some p.2 ∧ p.1 ≠ L := by
 obtain ⟨a, o⟩ := p;unfold m5;rw [List.mem_filterMap];constructor
 ·rintro ⟨b, hb, e⟩;by_cases hbL : b = L
  ·rw [if_pos hbL] at e; cases e
  rw [if_neg hbL] at e;obtain ⟨o', ho', e⟩ := xf e;cases e;exact ⟨ho', hbL⟩
 rintro ⟨h1, h2⟩;have h1 : h.get? a = some o := h1;exact ⟨a, List.mem_range.mpr (al h1), by rw [if_neg h2, h1]; rfl⟩
inductive uM {α β : Type} (R : α → β → Prop) : List α → List β → Prop
 | nil : uM R [] []
 | cons {a : α} {b : β} {l : List α} {m : List β} : R a b → uM R l m → uM R (a :: l) (b :: m)
section
variable {M : Model} {A : Around} {E : Value → Shared → Prop} {s : Shared}
theorem kG {α β : Type} {f : α → Sem β} {R : α → β → Prop} : ∀ (l : List α) {Q : List β → Shared → Prop}, (∀ v ∈ l, ∃ r, R v r ∧ ∀ (Q' : β → Shared → Prop), Q' r s → wpAny M A (f v) Q' E s) → (∀ rs : List β, uM R l rs → Q rs s) → wpAny M A (l.mapM f) Q E s
 | [], _, _, h => by rw [List.mapM_nil]; exact zb (h [] .nil)
 | x :: l, Q, hf, h => by
  rw [List.mapM_cons];obtain ⟨r, hr, hw⟩ := hf x (.head _);exact za (hw _ (za (kG l (R := R) (Q := fun bs s' => wpAny M A (pure (r :: bs)) Q E s') (fun v hv => hf v (.tail _ hv)) fun rs h' => zb (h (r :: rs) (.cons hr h')))))
end
theorem ju {s : Shared} {l : Addr} {L : Addr} {m : Str → Option Value} {vs : List Value} {news : List (Addr × Obj)} {h₀ : Heap} (F : Fr h₀ L s.heap m) (N : News h₀ L s.heap news)
  (hl : s.heap.IsList l vs.toArray) (h2 : 2 ≤ vs.length) (h64 : vs.length < 64)
  (h : ∀ e1 h', Fr h₀ L h' m → News h₀ L h' ((s.heap.objs.size + 1, seqObj "list" #[] e1) :: news) →
   wpAny (model pw w) A.in1.in1 (keyKind' vs.toArray) (fun κ s' => (kas_sort vs.length).kasWp (kas_ask pw w A.in1.in1 κ vs) (fun p s'' => KasFin h₀ L m (s.heap.objs.size + 1) e1 (p.toList.map fun i => vs.getD i Value.none) (fun s3 => Q (.ref (s.heap.objs.size + 1)) s3) s'') s') (fun _ _ => False) { s with heap := h' }) :
  wpAny (model pw w) A (call (.builtin "sorted") [.ref l]) Q E s := by
 have hlt : L < s.heap.objs.size := F.ns.lt;have hsl : (2 : Nat) ^ 20 ≤ sizeLine := by decide
 refine Calls.call_function_entry kind_sorted plain_sorted entry_sorted (args_sorted1 _) ?_;unfold Builtin.«sorted»;refine za (m := checkCount "sorted" 1 1 _) (zb (za (collect_list hl (za (wpAny_newList ?_ (yT (yU ‹_›) (by decide)))) (lF h64 hsl rfl))));generalize hh1 : (s.heap.push (seqObj "list" #[] 0)).update s.heap.objs.size (Obj.mapSeq (· ++ vs.toArray)) = h1;have hz1 : h1.objs.size = s.heap.objs.size + 1 := by rw [← hh1, Heap.size_update, size_push']
 have k1 : ∀ b o, s.heap.get? b = some o → h1.get? b = some o := fun b o e => by
  have hb : b ≠ s.heap.objs.size := yZ (al e);rw [← hh1, Heap.get?_update_ne _ _ _ _ hb, Heap.get?_push_ne _ _ _ hb]; exact e
 have k2 : ∀ b o, s.heap.get? b = some o → (h1.push (seqObj "list" vs.toArray 0)).get? b = some o := fun b o e => xo _ (k1 b o e)
 have hD : (h1.push (seqObj "list" vs.toArray 0)).get? (s.heap.objs.size + 1) = some (seqObj "list" vs.toArray 0) := by rw [← hz1]; exact xL _ rfl
 show wpAny _ _ _ _ _ { s with heap := h1.push (seqObj "list" vs.toArray 0) };rw [hz1];refine za (yP (wpAny_call_entry slot_list_sort ⟨_, hD, rfl⟩ entry_list_sort ?_ (args_list_sort _)));refine kat_list_sort (s := { s with heap := h1.push (seqObj "list" vs.toArray 0) }) (F.kept k2) (N.grown k2) hD (yY (yl hlt))
  (Heap.get?_none_of_le (yT F.above (yk (yU hlt)))) (fun p hp => yZ (yl (al (N p hp).1))) h2 h64 fun e1 h' F' N' => ?_
 refine zj (h e1 h' F' N') (fun κ s' hk => ?_) fun _ _ x => x
 rw [kat_ask_eq rfl] at hk ⊢;exact kas_wp_mono hk fun p s'' hk' => hk'.mono fun s3 hq => ⟨_, rfl, zb ⟨_, rfl, hq⟩⟩
theorem qg {s : Shared} {k k' : Key} {W : Value} {C : Bool → Shared → Prop} (hu : A.units < cLine) (r : RV φ s.heap (kv k) V) (r' : RV φ s.heap (kv k') W) (h : C (kLt k k') s) :
  wpAny (model pw K.w) A (oneLt' true V W) C E s := by
 obtain ⟨a, xs, rfl, x, q⟩ := RV.tup r;obtain ⟨a', xs', rfl, x', q'⟩ := RV.tup r';obtain ⟨⟨cls, dd, data, sl⟩, ho, hc, n, hd⟩ := id x;obtain ⟨⟨cls2, dd2, data2, sl2⟩, ho2, hc2, n2, hd2⟩ := id x';simp only at hc hd hc2 hd2;subst hc hd hc2 hd2;rw [oneLt'_eq];refine wpAny_ite_true rfl ?_;refine za (wpAny_cRoomFor_or (.inr hu) ?_);refine za (wpAny_callSpecialIfBound?_slot (T := "tuple") ⟨_, ho, rfl⟩ PySem.F.slot_tuple_lt (call_meets PySem.F.slot_tuple_lt ⟨_, ho, rfl⟩ PySem.F.entry_tuple_lt (PySem.F.args_tuple_lt_2 _ _) (fA a a' xs xs' n n2 dd dd2 sl sl2 k k' (dw q) (dw q')) ⟨ho, ho2, ?_⟩));exact wpAny_truthy_bool h
theorem sx {s : Shared} {k : Key} (r : RV φ s.heap (kv k) V) : ∃ f : Option Value, f.isSome = !k.isEmpty ∧ ∀ (E : Value → Shared → Prop) (Q' : Option Value → Shared → Prop), Q' f s → wpAny (model pw K.w) A (firstOfTuple' V) Q' E s := by
 obtain ⟨a, xs, rfl, ⟨o, ho, hc, n, hd⟩, q⟩ := RV.tup r;have e := q.length;rw [xK, yA] at e;refine ⟨xs[0]?, ?_, fun E Q' hq => ?_⟩
 ·cases k with
  | nil => rw [Array.getElem?_eq_none (by rw [e]; exact z6 0)]; rfl
  | cons => rw [xe (by rw [e]; exact Nat.succ_pos _)]; rfl
 rw [kas_first_eq];refine za (Looks.here (show Looks (model pw K.w) s.heap (typeOf (.ref a)) o.cls from (Looks.ld ho).andThen .now) ?_);rw [hc, if_neg (by first | decide | simp)];exact za (listItems_at ho hd (zb hq))
theorem rR {s : Shared} {vs : List Value} {Q : SortKind → Shared → Prop} (q : RL φ s.heap (L.map kv) vs) (h0 : L[0]? = some []) (h : Q oneType' s) : wpAny (model pw K.w) A (keyKind' vs.toArray) Q E s := by
 obtain ⟨L', rfl⟩ : ∃ L', L = [] :: L' := by
  cases L with
  | nil => cases h0
  | cons a L' => have : a = [] := by simpa using h0
                 exact ⟨L', by rw [this]⟩
 rw [yR] at q;unfold RL at q;obtain ⟨V, Ws, rfl, r1, q'⟩ := q;have all : ∀ v ∈ V :: Ws, ∃ k, RV φ s.heap (kv k) v := by
  intro v hv;rcases yy hv with rfl | hv
  ·exact ⟨[], r1⟩
  obtain ⟨j, hj⟩ := List.getElem?_of_mem hv;have e := q'.length;rw [yA] at e;have hjl := (x7 hj).1;have hL : (L'.map kv)[j]? = some (kv L'[j]) := by rw [ye, xg (by omega)]; rfl
  obtain ⟨V', hV', r'⟩ := q'.get j hL;rw [hj] at hV'; cases hV';exact ⟨_, r'⟩
 rw [keyKind'_eq, List.mapM_toArray, map_eq_pure_bind];refine za (za (kG (R := fun v f => RV φ s.heap (kv []) v → f = none) _ (fun v hv => ?_) fun rs hrs => zb ?_))
 ·obtain ⟨k, rk⟩ := all v hv;obtain ⟨f, hf, hw⟩ := sx (K := K) (A := A) rk;refine ⟨f, fun r0 => ?_, fun Q' hq => hw E Q' hq⟩;have : k = [] := dJ rk r0;subst this;cases f with
  | none => rfl
  | some => cases hf
 obtain ⟨f, rs', rfl, hf⟩ : ∃ f rs', rs = f :: rs' ∧ f = none := by
  cases hrs with
  | cons h1 h2 => exact ⟨_, _, rfl, h1 r1⟩
 subst hf;rw [if_neg (by simp), if_neg (by simp)];rw [oneTypeOnly'_eq, List.mapM_toArray, map_eq_pure_bind];refine za (za (za (kas_mapM (r := Value.type "tuple") _ (fun v hv Q' hq => ?_) (zb ?_))))
 ·obtain ⟨k, rk⟩ := all v hv;obtain ⟨a, xs, rfl, ⟨o, ho, hc, n, hd⟩, _⟩ := RV.tup rk;exact Looks.here (show Looks (model pw K.w) s.heap (typeOf (.ref a)) (.type "tuple") from hc ▸ (Looks.ld ho).andThen .now) hq
 have hall : ((List.map (fun _ => Value.type "tuple") (V :: Ws)).toArray.all fun x => x == Value.type "tuple") = true := by
  simp only [List.all_toArray, List.all_map, List.all_eq_true];intro _ _;rfl
 have h0 : (List.map (fun _ => Value.type "tuple") (V :: Ws)).toArray[0]? = some (Value.type "tuple") := by simp
 rw [h0];simp only [hall, if_true];exact zb (zb h)
theorem jv {α : Type} {l : List α} (h : l.Nodup) {i j : Nat} {x : α} (h1 : l[i]? = some x) (h2 : l[j]? = some x) : i = j := by
 obtain ⟨a1, b1⟩ := x7 h1;obtain ⟨a2, b2⟩ := x7 h2;exact (List.getElem_inj h).mp (b1.trans b2.symm)
theorem nI {S : List Key} {p : Array Nat} (hnd : L.Nodup) (hS : Srt S) (hm : ∀ x, x ∈ S ↔ x ∈ L) (hp : PO L.length p) (hs : PS (fun i j => kLt (gk L i) (gk L j)) p L.length) : p.toList.map (gk L) = S := by
 have hg : ∀ i, i < L.length → p[i]? = some (gp p i) := fun i hi => by
  unfold gp;rw [xe (by rw [hp.size]; assumption)];simp [Array.getD, hp.size, hi]
 have hgl : ∀ i, i < L.length → p.toList[i]? = some (gp p i) := fun i hi => by rw [xu]; exact hg i hi
 have hlen : p.toList.length = L.length := by simpa using hp.size
 have hsrt : Srt (p.toList.map (gk L)) := by
  unfold Srt;rw [List.pairwise_map, List.pairwise_iff_getElem];intro i j hi hj hij;have hi' : i < L.length := by exact hlen ▸ hi
  have hj' : j < L.length := by lia
  have e1 := hgl i hi';have e2 := hgl j hj';rw [xg hi] at e1;rw [xg hj] at e2;injection e1 with e1
  injection e2 with e2
  rw [e1, e2];exact hs i j hij hj'
 refine hsrt.ext hS fun x => ?_
 rw [hm x];constructor
 ·intro h;obtain ⟨i, hi, rfl⟩ := yK h;obtain ⟨j, hj⟩ := List.getElem?_of_mem hi;have hj' : j < L.length := by rw [← hlen]; exact (x7 hj).1
  rw [hgl j hj'] at hj;injection hj with hj
  have hil : i < L.length := hj ▸ hp.lt j;unfold gk;rw [xg hil];exact yw _
 intro h;have nd : (p.toList.map (gk L)).Nodup := hsrt.nodup;have sub : ∀ y ∈ p.toList.map (gk L), y ∈ L := fun y hy => by
  obtain ⟨i, hi, rfl⟩ := yK hy;obtain ⟨j, hj⟩ := List.getElem?_of_mem hi;have hj' : j < L.length := by rw [← hlen]; exact (x7 hj).1
  rw [hgl j hj'] at hj;injection hj with hj
  have hil : i < L.length := hj ▸ hp.lt j;unfold gk;rw [xg hil];exact yw _
 have cover : ∀ (n : Nat) (q l : List Key), q.length = n → l.length = n → q.Nodup → l.Nodup → (∀ y ∈ q, y ∈ l) → ∀ x ∈ l, x ∈ q := by
  intro n
  induction n with
  | zero => intro q l _ hl _ _ _ x hx; rw [x6 hl] at hx; cases hx
  | succ n ih =>
   intro q l hq hl ndq ndl hsub x hx;cases q with
   | nil => cases hq
   | cons a q =>
    obtain ⟨naq, ndq⟩ := List.nodup_cons.mp ndq;have hal := hsub a (xT ..);by_cases e : x = a
    ·rw [e]; exact xT ..
    refine xC _ (ih q (l.erase a) (by simpa using hq) (by rw [List.length_erase_of_mem hal, hl]; rfl) ndq (ndl.erase a) (fun y hy => ?_) x ((List.mem_erase_of_ne e).mpr hx));have : y ≠ a := fun q' => naq (q' ▸ hy)
    exact (List.mem_erase_of_ne this).mpr (hsub y (xC _ hy))
 exact cover L.length _ L (by rw [yA, hlen]) rfl nd hnd sub x h
theorem pf {φ : List Addr} {h : Heap} {L : List Key} {vs : List Value} (q : RL φ h (L.map kv) vs) : ∀ (l : List Nat), (∀ i ∈ l, i < L.length) → RL φ h ((l.map (gk L)).map kv) (l.map fun i => vs.getD i Value.none)
 | [], _ => by show RL φ h [] []; unfold RL; rfl
 | i :: l, hl => by
  have hi := hl i (xT ..);obtain ⟨V, hV, r⟩ := q.get i (bt hi);show RL φ h (kv (gk L i) :: (l.map (gk L)).map kv) (vs.getD i Value.none :: l.map fun i => vs.getD i Value.none);unfold RL;refine ⟨_, _, rfl, ?_, pf q l fun j hj => hl j (xC _ hj)⟩;have : vs.getD i Value.none = V := by rw [List.getD_eq_getElem?_getD, hV]; rfl
  rw [this]; exact r
theorem nJ {s : Shared} {S : List Key} (R : bj K hn d A) (G : af K φ σ s) (I : aM K F vals φ s.heap) (r : RV φ s.heap (.ref k) V) (hk : σ[k]? = some (.list (L.map kv)))
  (hnd : L.Nodup) (h0 : L[0]? = some []) (h2 : 2 ≤ L.length) (h64 : L.length < 64) (hS : Srt S) (hm : ∀ x, x ∈ S ↔ x ∈ L)
  (hQ : ∀ φ' s' V, bo F.own φ s φ' s' → af K φ' (σ ++ [.list (S.map kv)]) s' → aM K F vals φ' s'.heap → RV φ' s'.heap (.ref σ.length) V → Q V s') :
  wpAny (model pw K.w) A (call (.builtin "sorted") [V]) Q E s := by
 have hu : A.units + 3 < cLine := by have := R.units; have : cLine = 9900 := rfl; exact aB ‹_› this (n := 2) (by decide)
 obtain ⟨a, xs, rfl, ha, hl, q⟩ := G.list r hk;have hlen : xs.toList.length = L.length := by have := q.length; rwa [yA] at this
 obtain ⟨m, hns, hvar⟩ := I.var;have hxs : xs = xs.toList.toArray := by simp
 rw [hxs] at hl;have hLφ : F.env.locals ∉ φ := (I.own _ I.loc).off;have hF : Fr ⟨#[], s.heap.life⟩ F.env.locals s.heap m := ⟨hns, fun b o e => (by have := al e; exact absurd this (Nat.not_lt_zero _)), z7 _⟩
 have hN : News ⟨#[], s.heap.life⟩ F.env.locals s.heap (m5 s.heap F.env.locals) := fun p hp => ⟨(cO.mp hp).1, (cO.mp hp).2, Heap.get?_none_of_le (z7 _)⟩
 refine aU (ju hF hN hl (by exact hlen ▸ h2) (by exact hlen ▸ h64) fun e1 h' F' N' => ?_);have keep1 : ∀ b o, b ≠ F.env.locals → s.heap.get? b = some o → h'.get? b = some o := fun b o hb e => (N' (b, o) (xC _ (cO.mpr ⟨e, hb⟩))).1
 have ktup : ∀ b o, s.heap.get? b = some o → (o.cls = .type "tuple" ∨ o.cls = .ref 387) ∧ (∃ xs n, o.data = .seq xs n) → h'.get? b = some o := fun b o e h => keep1 b o (fun hb => by
  obtain ⟨_, _, o', e', hh⟩ := I.own _ I.loc;rw [← hb, e] at e'; cases e';obtain ⟨xs, n, hd⟩ := h.2;exact hh.1 xs n hd) e
 have q1 : RL φ h' (L.map kv) xs.toList := q.keep ktup ⟨[], by simp⟩;refine rR (s := { s with heap := h' }) q1 h0 ?_;have O : Mine.Ord (fun i j => kLt (gk L i) (gk L j)) xs.toList.length := by
  rw [hlen];refine ⟨fun i _ => aO _, fun i j k _ _ _ => cy, fun i j hi hj hij => ?_⟩;rcases cz (gk L i) (gk L j) with q | q | q
  ·exact .inl q
  ·refine absurd (jv hnd (x := gk L i) ?_ ?_) hij
   ·unfold gk; rw [xg hi]; rfl
   rw [q]; unfold gk; rw [xg hj]; rfl
  exact .inr q
 obtain ⟨p, hg, hpo, hps⟩ := u2 O (by exact hlen ▸ Nat.le_of_succ_le h2);refine hg.wp (cmp := kas_ask pw K.w A.in1.in1 oneType' xs.toList) (fun i j C hi hj hC => ?_) ?_
 ·unfold kas_ask;rw [keyLt'_oneType];obtain ⟨V1, hV1, r1⟩ := q1.get i (bt (by exact hlen ▸ hi));obtain ⟨V2, hV2, r2⟩ := q1.get j (bt (by lia));have e1 : xs.toList.getD i Value.none = V1 := by rw [List.getD_eq_getElem?_getD, hV1]; rfl
  have e2 : xs.toList.getD j Value.none = V2 := by rw [List.getD_eq_getElem?_getD, hV2]; rfl
  rw [e1, e2];exact qg (s := { s with heap := h' }) (by show A.units + 1 + 1 < cLine; exact yU ‹_›) r1 r2 hC
 rw [hlen] at hpo hps;have hout := nI hnd hS hm hpo hps;refine KasFin.intro F' N' (.head fun p hp => fun e => ?_) fun h3 c F3 N3 hz => ?_
 ·have := al (cO.mp hp).1;rw [e] at this; exact absurd this (yO (z8 _))
 have keep3 : ∀ b o, b ≠ F.env.locals → s.heap.get? b = some o → h3.get? b = some o := fun b o hb e => (N3 (b, o) (xC _ (cO.mpr ⟨e, hb⟩))).1
 have hDs := N3 (s.heap.objs.size + 1, _) (xT ..);have hzz : s.heap.objs.size ≤ h3.objs.size := hz;have ktup3 : ∀ b o, s.heap.get? b = some o → (o.cls = .type "tuple" ∨ o.cls = .ref 387) ∧ (∃ xs n, o.data = .seq xs n) → h3.get? b = some o := fun b o e h => keep3 b o (fun hb => by
  obtain ⟨_, _, o', e', hh⟩ := I.own _ I.loc;rw [← hb, e] at e'; cases e';obtain ⟨xs, n, hd⟩ := h.2;exact hh.1 xs n hd) e
 have q3 : RL (φ ++ [s.heap.objs.size + 1]) h3 (S.map kv) (p.toList.map fun i => xs.toList.getD i Value.none) := by
  rw [← hout];refine pf (q.keep ktup3 ⟨[s.heap.objs.size + 1], rfl⟩) _ fun i hi => ?_
  obtain ⟨j, hj⟩ := List.getElem?_of_mem hi;have : gp p j = i := by unfold gp; simp only [xu] at hj; simp [hj]
  rw [← this]; exact hpo.lt j
 have hns3 := F3.ns;have X : bo F.own φ s (φ ++ [s.heap.objs.size + 1]) { s with heap := h3 } := by
  refine ⟨fun b o e h1 h2 => .inl (keep3 b o (fun hb => h2 (hb ▸ I.loc)) e), hzz, [s.heap.objs.size + 1], rfl, fun b hb => ?_⟩;have : b = s.heap.objs.size + 1 := by simpa using hb
  rw [this]; exact z8 _
 have hbase : ∀ b o, K.h0.get? b = some o → b ≠ F.env.locals := fun b o e hb => by
  have h1 := al e;have h2 := (I.own _ I.loc).le;rw [hb] at h1;exact absurd h1 (yO h2)
 have G3 : af K (φ ++ [s.heap.objs.size + 1]) (σ ++ [.list (S.map kv)]) { s with heap := h3 } := by
  refine ⟨fun b o e => keep3 b o (hbase b o e) (G.base b o e), yT G.grown hzz, by simp [G.len], ?_, fun b hb => ?_, fun j b c h1 h2 => ?_, G.os, G.gens, fun env he => ?_⟩
  ·rw [List.nodup_append];refine ⟨G.nod, by simp, fun x hx y hy => ?_⟩;have hy : y = s.heap.objs.size + 1 := by simpa using hy
   have := (G.hi x hx).2;exact fun e => by rw [e, hy] at this; exact absurd this (yO (z8 _))
  ·rcases yd hb with q | q
   ·exact ⟨(G.hi b q).1, xU (G.hi b q).2 hzz⟩
   have q : b = s.heap.objs.size + 1 := by simpa using q
   rw [q];exact ⟨yk G.grown, al hDs.1⟩
  ·by_cases hj : j < φ.length
   ·rw [xc hj] at h1;rw [xc (G.len ▸ hj)] at h2;refine (G.cells j b c h1 h2).keep (fun y o e h => ?_) ⟨[s.heap.objs.size + 1], rfl⟩;rcases h with h | rfl
    ·exact ktup3 y o e h
    exact keep3 y o (fun hb => hLφ (hb ▸ xB h1)) e
   have hj' : j = φ.length := by
    have := (x7 h1).1;simp at this; exact yE (yi this) (yS hj)
   subst hj';rw [x9 (z6 _), z5] at h1;rw [G.len, x9 (z6 _), z5] at h2;have h1 : some (s.heap.objs.size + 1) = some b := h1;have h2 : some (ag.list (S.map kv)) = some c := h2;cases h1; cases h2;exact ⟨_, _, c, hDs.1, ⟨rfl, rfl, rfl⟩, rfl, by simpa using q3⟩
  obtain ⟨hkd, L', o, es, mm, f1, f2, f3, f4, f5⟩ := G.frs env he;have f6 : L' ∉ φ ++ [s.heap.objs.size + 1] := fun q => by
   rcases yd q with q | q
   ·exact f5 q
   have q : L' = s.heap.objs.size + 1 := by simpa using q
   have := al f2;rw [q] at this; exact absurd this (yO (z8 _))
  by_cases hb : L' = F.env.locals
  ·obtain ⟨o', es', n', g1, g2, _⟩ := hns3;exact ⟨hkd, L', o', es', n', f1, by rw [hb]; exact g1, g2, f4, f6⟩
  exact ⟨hkd, L', o, es, mm, f1, keep3 L' o hb f2, f3, f4, f6⟩
 have I3 : aM K F vals (φ ++ [s.heap.objs.size + 1]) h3 := by
  have cellk : ∀ c v, s.heap.IsCell c v → h3.IsCell c v := fun c v ⟨o, ho, hd⟩ => ⟨o, keep3 c o (fun hb => by
   obtain ⟨o', es', n', g1, g2, _⟩ := hns;rw [← hb, ho] at g1; cases g1; rw [hd] at g2; cases g2) ho, hd⟩
  refine ⟨I.fn, I.glb, I.blt, I.nod, I.loc, fun b hb => ?_, I.lens, fun y c h1 h2 => ?_, I.inj, m, hns3, fun i y v h1 h2 => ?_⟩
  ·obtain ⟨g1, g2, o, g3, g4⟩ := I.own b hb;have g5 : b ∉ φ ++ [s.heap.objs.size + 1] := fun q => by
    rcases yd q with q | q
    ·exact g2 q
    have q : b = s.heap.objs.size + 1 := by simpa using q
    have := al g3;rw [q] at this; exact absurd this (yO (z8 _))
   by_cases hbL : b = F.env.locals
   ·obtain ⟨o', es', n', p1, p2, _⟩ := hns3;exact ⟨g1, g5, o', by rw [hbL]; exact p1, ⟨fun xs n e => by rw [p2] at e; (cases e), fun vs e => by rw [p2] at e; (cases e)⟩⟩
   exact ⟨g1, g5, o, keep3 b o hbL g3, g4⟩
  ·obtain ⟨h3', v, h4⟩ := I.cell y c h1 h2;exact ⟨h3', v, cellk c v h4⟩
  obtain ⟨V, hV, rr⟩ := hvar i y v h1 h2;refine ⟨V, ?_, rr.keep ktup3 ⟨[s.heap.objs.size + 1], rfl⟩⟩;rcases hV with q | ⟨c, p1, p2, p3⟩
  ·exact .inl q
  exact .inr ⟨c, p1, p2, cellk c _ p3⟩
 refine hQ _ { s with heap := h3 } _ X G3 I3 ?_;unfold RV;exact ⟨s.heap.objs.size + 1, by rw [← G.len]; simp, rfl⟩
theorem TV.s {α : Type} {t : Sem α} {Rel : List Addr → Heap → α → Prop} (h : TV K hn d F vals σ t Rel σ1) : TVS K hn d F vals σ t Rel σ1 := fun A φ s R G I Q E hQ =>
 h A φ s R G I Q E fun φ' s' x X G' r => hQ φ' s' x (X.toS _) G' (I.ext G X) r
theorem n3 {n : Str} {S : List Key} (hf : EvE K hn d F vals σ (.Name n p) (.glob (.builtin "sorted")) σ) (ha : EvE K hn d F vals σ e (.ref k) σ1) (hk : σ1[k]? = some (.list (L.map kv)))
  (hnd : L.Nodup) (h0 : L[0]? = some []) (h2 : 2 ≤ L.length) (h64 : L.length < 64) (hS : Srt S) (hm : ∀ x, x ∈ S ↔ x ∈ L)
  (he : starEach [e] F.env = [(false, eval e F.env)] := by rfl) : TVS K hn d F vals σ (eval (.Call (.Name n p) [e] [] pos) F.env) (fun φ h V => RV φ h (.ref σ1.length) V) (σ1 ++ [.list (S.map kv)]) := fun A φ s R G I Q E hQ => by
 refine wpAny_Call_Name_kw (hf A φ s R G I _ _ fun φ0 s0 V0 X0 G0 r0 => ?_);unfold RV at r0;subst r0;have I0 := I.ext G X0;refine aT (K := K) (.blt _) ?_ ?_
 ·rw [he]; rfl
 have ha' : ∀ (Q' : List Value → Shared → Prop) (E' : Value → Shared → Prop), (∀ φ1 s1 V, Ext φ0 s0 φ1 s1 → af K φ1 σ1 s1 → RV φ1 s1.heap (.ref k) V → Q' [V] s1) → wpAny (model pw K.w) A (spliced (backTo pos (starEach [e] F.env))) Q' E' s0 := fun Q' E' h => wpAny_items_cons (ha A φ0 s0 R G0 I0 _ _ fun φ1 s1 V X1 G1 r1 => wpAny_items_nil (h φ1 s1 V X1 G1 r1)) he
 rw [he] at ha' ⊢;refine evalArgs_kw rfl (ha' _ _ fun φ1 s1 V1 X1 G1 r1 => wpAny_evalAll_nil ⟨G1.base, ?_⟩);have X01 := X0.trans X1;exact nJ R G1 (I0.ext G0 X1) r1 hk hnd h0 h2 h64 hS hm fun φ3 s3 V X3 G3 I3 r3 => hQ φ3 s3 V ((X01.toS _).trans X3) G3 I3 r3
theorem kx {x : Str} {value : Expr} (h : TVS K hn d F vals σ (eval value F.env) (fun φ h V => RV φ h v V) σ1) (hi : F.names[i]? = some x) (hb : Bnd F x) (hP : P .next (vals.set i (some v)) σ1)
  (hs : swapsWith value (some (.Name x p')) pos.line F.env = pure false := by rfl) : TSt K hn d F vals σ (exec (.Assign [.Name x p'] value pos) F.env) P := fun A φ s R G I Q E hQ =>
 wpAny_Assign_Name (h A φ s R G I _ _ fun φ1 s1 V X1 G1 I1 r1 => aN G1 I1 hi hb r1 fun s2 X2 G2 I2 =>
  hQ φ1 s2 .next .next _ _ (X1.trans X2) G2 I2 rfl hP) hs
theorem cJ {α β : Type} : ∀ {l : List (Str × α)} {l' : List (Str × β)}, l.map (·.1) = l'.map (·.1) → ∀ x, (l.lookup x).isSome = (l'.lookup x).isSome
 | [], [], _, x => rfl
 | p :: l, [], h, x => by simp at h
 | [], p :: l', h, x => by simp at h
 | p :: l, q :: l', h, x => by
  rw [yR, yR] at h;injection h with h1 h2
  obtain ⟨a, b⟩ := p;obtain ⟨a', b'⟩ := q;have h1 : a = a' := h1;subst h1;rw [List.lookup_cons, List.lookup_cons];cases x == a with
  | true => rfl
  | false => exact cJ h2 x
theorem jw {sc : Scope} (h : (params.all fun x => decide (sc.names.lookup x = some NameKind.local) || (decide (sc.names.lookup x = some NameKind.cell) && ((cellsFrom 0 sc.names []).lookup x).isSome)) = true) :
  ∀ x ∈ params, sc.names.lookup x = some .local ∨ (sc.names.lookup x = some .cell ∧ ∀ n, ((cellsFrom n sc.names []).lookup x).isSome = true) := fun x hx => by
 have := List.all_eq_true.mp h x hx;rw [Bool.or_eq_true, yu] at this;rcases this with q | ⟨q1, q2⟩
 ·exact .inl (yg q)
 exact .inr ⟨yg q1, fun n => (cJ (cellsFrom_names sc.names n 0 [] [] rfl) x).trans q2⟩
theorem eh {b b' : Bool} (h : EvB K hn d F vals σ e b σ) (h2 : b = true → dS K hn d F vals σ .And es b' σ) : dS K hn d F vals σ .And (e :: es) (b && b') σ := by
 cases b with
 | false => exact eg h
 | true => exact dD h (h2 rfl)
theorem bp : dq K (aQ K k n) := fun A i φ s it Q E ⟨la, _, h⟩ hQ => wpAny_pyIter_listiter h hQ
theorem d7 {a c : Int} : dq K (bd K a c n) := fun A i φ s it Q E h hQ => dz h hQ
theorem aG (h : σ[k]? = some (.list l)) : (aQ K k n).item i σ = l[i]? := by
 show (match σ[k]? with | some (ag.list l) => l[i]? | _ => none) = _;rw [h]
def iJ (K : KC) (T : aZ K) (target : Expr) : Prop := ∀ (A : Around) (i : Nat) (φ : List Addr) (s : Shared) (it : Addr) (v : Value) (Q : Unit → Shared → Prop) (E : Value → Shared → Prop), T.At i φ s.heap it → Q () s → wpAny (model pw K.w) A (letOwnedTupleGo target (.ref it) v) Q E s
theorem br {T : aZ K} {x : Str} : iJ K T (.Name x p) := fun A i φ s it v Q E _ hQ => zb hQ
theorem lK : iJ K (aQ K k n) (.Tuple es m p) := fun A i φ s it v Q E ⟨la, _, h⟩ hQ => by
 cases v with
 | ref a => exact wpAny_letOwnedTupleGo_listiter h hQ
 | _ => exact zb hQ
noncomputable def cX (sc : Scope) : List (Str × Nat × Val) → Prop
 | [] => True
 | p :: l => sc.names.lookup p.1 = some .cell ∧ cX sc l
theorem cX.all {sc : Scope} : ∀ {l : List (Str × Nat × Val)}, cX sc l → ∀ p ∈ l, sc.names.lookup p.1 = some .cell
 | q :: l, h, p, hp => by
  rcases yy hp with rfl | hp
  ·exact h.1
  exact cX.all h.2 p hp
theorem rep_split {α : Type} {a : List α} : (List.replicate n (none : Option α)).length = n := List.length_replicate
inductive LfJ (L : List Val) (p : Val → Bool) (f : Val → Val) (σ1 : a8) (locs : List Str) (fr : List (Str × Nat × Val)) (i : Nat) (v : ai) (s : a8) : Prop
 | mk (hi : i ≤ L.length) (w : ai) (hw : w.length = locs.length) (hv : v = w ++ (fr.map fun p => some p.2.2)) (hs : s = σ1 ++ [.list (((L.take i).filter p).map f)])
theorem jt {target iter : Expr} {T : aZ K} (L : List Val) (p : Val → Bool) (f : Val → Val) (loc : Val → List Val)
  (hT : ∀ acc, T.ok (σ1 ++ [.list acc]) ∧ ∀ (i : Nat), T.item i (σ1 ++ [.list acc]) = L[i]?) (hlet : iJ K T target) (hsz : L.length < 2 ^ 20)
  (tgt : ∀ (C : Addr) (i : Nat) (v : Val) (w : ai) (acc : List Val), L[i]? = some v → w.length = locs.length → TA K true d (aW scope cl F.env (locs ++ fr.map (·.1)) C) (w ++ fr.map fun p => some p.2.2) (σ1 ++ [.list acc]) v (assign target (aW scope cl F.env (locs ++ fr.map (·.1)) C).env)
   (fun v1 σ' => v1 = (loc v).map some ++ (fr.map fun p => some p.2.2) ∧ σ' = σ1 ++ [.list acc] ∧ (loc v).length = locs.length))
  (turn : ∀ (C : Addr) (i : Nat) (v : Val) (acc : List Val), L[i]? = some v → cW K d (aW scope cl F.env (locs ++ fr.map (·.1)) C) ((loc v).map some ++ fr.map fun p => some p.2.2) (σ1 ++ [.list acc]) ifs (p v) (σ1 ++ [.list acc]) ∧
   (p v = true → EvE K true d (aW scope cl F.env (locs ++ fr.map (·.1)) C) ((loc v).map some ++ fr.map fun p => some p.2.2) (σ1 ++ [.list acc]) elt (f v) (σ1 ++ [.list acc])))
  (C : Addr) {A : Around} {φ : List Addr} {s : Shared} {it : Addr} {acc : Value} (Ro : bj K true d A) (L0 : fY K (aW scope cl F.env (locs ++ fr.map (·.1)) C) T 0 (List.replicate locs.length none ++ fr.map fun p => some p.2.2) (σ1 ++ [.list []]) φ s it)
  (racc : RV φ s.heap (.ref σ1.length) acc) {R : Result → Shared → Prop} (hR : ∀ φ' s' vals', jN [C] φ it s φ' s' → af K φ' (σ1 ++ [.list ((L.filter p).map f)]) s' → aM K (aW scope cl F.env (locs ++ fr.map (·.1)) C) vals' φ' s'.heap → R (.ok .next) s') :
  codeAny (model pw K.w) A (.compLoop (.ListComp elt [⟨target, iter, ifs, 0⟩] scope pos) 0 (.ref it) acc (aW scope cl F.env (locs ++ fr.map (·.1)) C).env) R s := by
 refine dP (j6 ..) (LfJ L p f σ1 locs fr) (fun i v s ⟨_, w, _, _, e⟩ => e ▸ (hT _).1) hlet (fun i v0 s v j hv => ?_) Ro L0 racc
  ⟨z7 _, _, List.length_replicate, rfl, rfl⟩ fun φ' s' v' σ' i' X G' I' j he => hR φ' s' v' X ?_ I'
 ·obtain ⟨hi, w, hw, rfl, rfl⟩ := j;rw [(hT _).2] at hv;have hlt := (x7 hv).1;have htk : L.take (i + 1) = L.take i ++ [v] := ah hv;intro A φ s V R G I r Q E hQ;refine tgt C i v w _ hv hw A φ s V R G I r Q E fun φ' s' vals' σ' X' G' I' h => ?_
  obtain ⟨rfl, rfl, hll⟩ := h;obtain ⟨t1, t2⟩ := turn C i v (((L.take i).filter p).map f) hv;refine hQ φ' s' _ _ X' G' I' (ff ⟨p v, _, t1, fun hb => ?_, fun hb => ?_⟩)
  ·exact ⟨hlt, (loc v).map some, by rw [yA, hll], rfl, by rw [htk, xZ]; simp [hb]⟩
  refine ⟨f v, _, ((L.take i).filter p).map f, t2 hb, ae .., ?_, hlt, (loc v).map some, by rw [yA, hll], rfl, ?_⟩
  ·have h1 := xw p (L.take i);rw [yn] at h1;rw [yA]; exact xV (yT h1 (yo ..)) hsz
  rw [htk, xZ];simp [hb]
 obtain ⟨_, w, _, _, e⟩ := j;rw [e, (hT _).2] at he;rw [e, xp (x8 he)] at G';exact G'
theorem fg {target iter : Expr} {T : aZ K} (L : List Val) (p : Val → Bool) (f : Val → Val) (loc : Val → List Val)
  (hi : eR K d F vals σ iter T σ1) (hself : dq K T)
  (hclos : closureFor scope F.env = pure cl) (hcl : ic F.env cl) (hfr : cF F vals cl fr) (hkind : scope.kind = .function) (hnames : ∀ y ∈ scope.names, y.2 = .local → scope.names.lookup y.1 = some .local)
  (hnocell : ∀ y ∈ scope.names, y.2 ≠ .cell) (hnod : decide (locs ++ fr.map (·.1)).Nodup = true) (hcell : cX (relabel scope F.env) fr)
  (hT : ∀ acc, T.ok (σ1 ++ [.list acc]) ∧ ∀ (i : Nat), T.item i (σ1 ++ [.list acc]) = L[i]?) (hlet : iJ K T target) (hsz : L.length < 2 ^ 20)
  (tgt : ∀ (C : Addr) (i : Nat) (v : Val) (w : ai) (acc : List Val), L[i]? = some v → w.length = locs.length → TA K true d (aW scope cl F.env (locs ++ fr.map (·.1)) C) (w ++ fr.map fun p => some p.2.2) (σ1 ++ [.list acc]) v (assign target (aW scope cl F.env (locs ++ fr.map (·.1)) C).env)
   (fun v1 σ' => v1 = (loc v).map some ++ (fr.map fun p => some p.2.2) ∧ σ' = σ1 ++ [.list acc] ∧ (loc v).length = locs.length))
  (turn : ∀ (C : Addr) (i : Nat) (v : Val) (acc : List Val), L[i]? = some v → cW K d (aW scope cl F.env (locs ++ fr.map (·.1)) C) ((loc v).map some ++ fr.map fun p => some p.2.2) (σ1 ++ [.list acc]) ifs (p v) (σ1 ++ [.list acc]) ∧
   (p v = true → EvE K true d (aW scope cl F.env (locs ++ fr.map (·.1)) C) ((loc v).map some ++ fr.map fun p => some p.2.2) (σ1 ++ [.list acc]) elt (f v) (σ1 ++ [.list acc])))
  (hs : ∀ x, foldedSetIterable iter F.env x = pure x := by intro _; rfl) : EvE K true d F vals σ (.ListComp elt [⟨target, iter, ifs, 0⟩] scope pos) (.ref σ1.length) (σ1 ++ [.list ((L.filter p).map f)]) :=
 iX hi hself hclos hcl hfr hkind hnames hnocell (yg hnod) hcell.all (jt L p f loc hT hlet hsz tgt turn) hs
theorem af.adopt {s : Shared} (G : af K φ σ s) (hk : ∀ b o, s.heap.get? b = some o → s'.heap.get? b = some o) (ho : s'.os = s.os) (hg : s'.gens = s.gens) {a : Addr} (ha : s.heap.objs.size ≤ a) (haz : a < s'.heap.objs.size) {c : ag}
  (hc : b5 K.w (φ ++ [a]) s'.heap a c) : af K (φ ++ [a]) (σ ++ [c]) s' := by
 have hz : s.heap.objs.size ≤ s'.heap.objs.size := yT ha (yU haz);refine ⟨fun b x e => hk b x (G.base b x e), yT G.grown hz, by simp [G.len], ?_, fun b hb => ?_, fun k b c' h1 h2 => ?_, ho.trans G.os, hg.trans G.gens, fun env he => ?_⟩
 ·rw [List.nodup_append];refine ⟨G.nod, by simp, fun b hb b' hb' => ?_⟩;have hb' : b' = a := by simpa using hb'
  exact fun e => absurd (G.hi b hb).2 (by rw [e, hb']; exact yO ha)
 ·rcases yd hb with q | q
  ·exact ⟨(G.hi b q).1, xU (G.hi b q).2 hz⟩
  have q : b = a := by simpa using q
  rw [q]; exact ⟨yT G.grown ha, haz⟩
 ·by_cases hkk : k < φ.length
  ·rw [xc hkk] at h1;rw [xc (G.len ▸ hkk)] at h2;exact (G.cells k b c' h1 h2).keep (fun b x e _ => hk b x e) ⟨[a], rfl⟩
  have hk' : k = φ.length := by
   have := (x7 h1).1;simp at this; exact yE (yi this) (yS hkk)
  subst hk';rw [x9 (z6 _), z5] at h1;rw [G.len, x9 (z6 _), z5] at h2;have h1 : some a = some b := h1;have h2 : some c = some c' := h2;cases h1; cases h2;exact hc
 obtain ⟨hkd, L, o', es, m, h1, h2, h3, h4, h5⟩ := G.frs env he;refine ⟨hkd, L, o', es, m, h1, hk _ _ h2, h3, h4, fun q => ?_⟩;rcases yd q with q | q
 ·exact h5 q
 have q : L = a := by simpa using q
 exact absurd (al h2) (by rw [q]; exact yO ha)
theorem Ext.adopt {s : Shared} (hk : ∀ b o, s.heap.get? b = some o → s'.heap.get? b = some o) {a : Addr} (ha : s.heap.objs.size ≤ a) (haz : a < s'.heap.objs.size) : Ext φ s (φ ++ [a]) s' :=
 ⟨fun b o e _ => .inl (hk b o e), yT ha (yU haz), [a], rfl, fun b hb => by rw [show b = a by simpa using hb]; exact ha⟩
theorem jF (hk : σ[k]? = some (.list l)) (hsz : l.length ≤ 2 ^ 20) : PC K hn d σ (.type "list") [.ref k] [] (.ref σ.length) (σ ++ [.list l]) := fun A φ s Vs Ws R G r1 r2 Q E hQ => by
 obtain ⟨V, rfl, r⟩ := fK r1;unfold RL at r2;subst r2;obtain ⟨a, xs, rfl, ha, ⟨o, ho, hc, n, hd⟩, q⟩ := G.list r hk;have hq := q.length;rw [xK] at hq;refine call_list_seq a (.inl rfl) ho hc hd (fun h' c' hkeep hnew => ?_) (by rw [hq]; exact yT hsz (by decide));have haz : s.heap.objs.size < h'.objs.size := al hnew;have X : Ext φ s (φ ++ [s.heap.objs.size]) { s with heap := h' } := Ext.adopt (s' := { s with heap := h' }) hkeep (z6 _) haz;refine hQ _ { s with heap := h' } _ X (G.adopt (s' := { s with heap := h' }) hkeep rfl rfl (z6 _) haz (c := .list l) ⟨_, xs, c', hnew, ⟨rfl, rfl, rfl⟩, rfl, q.ext G X⟩) ?_;unfold RV;exact ⟨s.heap.objs.size, by rw [← G.len]; simp, rfl⟩
theorem vP {a : Int} : PC K true d σ (.builtin "min") [.int a, .int b] [] (.int (min a b)) σ := fun A φ s Vs Ws R G r1 r2 Q E hQ => by
 obtain ⟨V, W, rfl, ra, rb⟩ := bO r1;unfold RL at r2;subst r2;unfold RV at ra rb;obtain ⟨t, rfl⟩ := ra;obtain ⟨u, rfl⟩ := rb;refine aU (min_two_ints (R.hand rfl) fun h' tk hk hz => ?_);have X : Ext φ s φ { s with heap := h', toks := tk } := Ext.keepAll hk hz;refine hQ φ _ _ X (G.keepAll hk hz rfl rfl) ?_;split
 ·rw [show min a b = b by grind]; exact bq ..
 rw [show min a b = a by lia]; exact bq ..
theorem mT {φ : List Addr} {h : Heap} : ∀ {ns : List Int} {vs : List Value}, RL φ h (ns.map Val.int) vs → IntsAre vs ns
 | [], vs, r => by rw [List.map_nil] at r; unfold RL at r; subst r; exact .nil
 | n :: ns, vs, r => by
  rw [yR] at r;unfold RL at r;obtain ⟨V, Ws, rfl, r1, r2⟩ := r;unfold RV at r1;obtain ⟨t, rfl⟩ := r1;exact .cons _ _ (mT r2)
theorem uV {ns : List Int} (hk : σ[k]? = some (.list (ns.map Val.int))) : PC K true d σ (.builtin "sum") [.ref k] [] (.int ns.sum) σ := fun A φ s Vs Ws R G r1 r2 Q E hQ => by
 obtain ⟨V, rfl, r⟩ := fK r1;unfold RL at r2;subst r2;obtain ⟨a, xs, rfl, ha, hl, q⟩ := G.list r hk;have hi := mT q;obtain ⟨ys, e⟩ := hi.allInts.items;have e : xs = intItems ys := e;have hn := hi.numsOf;rw [e] at hl hn;refine aU (sum_intListG (R.hand rfl) hl fun h' tk t' hkk hz => ?_);have X : Ext φ s φ { s with heap := h', toks := tk } := Ext.keepAll hkk hz;refine hQ φ _ _ X (G.keepAll hkk hz rfl rfl) ?_;rw [preSum_eq, xp (by simp)];rw [nums_intItems] at hn;rw [hn]; exact bq ..
theorem me {φ : List Addr} {h : Heap} : ∀ {ns : List Str} {vs : List Value}, RL φ h (ns.map Val.str) vs → StrsAre vs ns
 | [], vs, r => by rw [List.map_nil] at r; unfold RL at r; subst r; exact .nil
 | n :: ns, vs, r => by
  rw [yR] at r;unfold RL at r;obtain ⟨V, Ws, rfl, r1, r2⟩ := r;unfold RV at r1;obtain ⟨t, rfl⟩ := r1;exact .cons _ _ (me r2)
theorem vQ {x : Str} {ys : List Str} (hk : σ[k]? = some (.list (ys.map Val.str))) (hok : (ys.map (·.length)).sum + ys.length * x.length ≤ 16777216) : PC K hn d σ (.builtin "str.join") [.str x, .ref k] [] (.str (Txt.join x ys)) σ := fun A φ s Vs Ws R G r1 r2 Q E hQ => by
 obtain ⟨V, W, rfl, ra, r⟩ := bO r1;unfold RL at r2;subst r2;unfold RV at ra;obtain ⟨t, rfl⟩ := ra;obtain ⟨a, xs, rfl, ha, hl, q⟩ := G.list r hk;exact join_list hl (me q) hok fun t' k => hQ φ _ _ (Ext.toks ..) (G.toks _) (d9 ..)
theorem mB (hi : i < σ.length) (hj : j < σ.length) : P2 K hn d σ (compareOp .IsNot) (.ref i) (.ref j) (.bool (i != j)) σ := fun A φ s V1 V2 R G r1 r2 Q E hQ => by
 unfold RV at r1 r2;obtain ⟨a, ea, rfl⟩ := r1;obtain ⟨b, eb, rfl⟩ := r2;have fin := hQ φ s (.bool (i != j)) (Ext.refl ..) G (az _);by_cases hab : a = b
 ·have hij := fL G.nod ea (hab ▸ eb);subst hab;refine wpAny_isNot_ref_self ?_;rw [hij] at fin;simpa using fin
 obtain ⟨_, ca, _, _, xa⟩ := G.cellOf (xB ea);obtain ⟨_, cb, _, _, xb⟩ := G.cellOf (xB eb);obtain ⟨oa, hoa⟩ := xa.lives;obtain ⟨ob, hob⟩ := xb.lives;refine wpAny_isNot_ref_other hab hoa hob (xa.notTuple hoa).1 ?_;have hij : (i != j) = true := by
  rw [bne_iff_ne];rintro rfl;rw [ea] at eb; cases eb; exact hab rfl
 rwa [hij] at fin
noncomputable def shr (a b : Key) : Nat := ((List.range (min a.length b.length)).filter fun i => decide (a.take (i + 1) = b.take (i + 1))).length
noncomputable def dv (n : Nat) : List Val := (List.range n).map fun (i : Nat) => Val.int ((i : Int) + 1)
theorem j2 (h : (dv n)[i]? = some v) : i < n ∧ v = .int ((i : Int) + 1) := by
 delta dv at h
 rw [ye] at h;obtain ⟨j, hj, rfl⟩ := xf h;obtain ⟨h1, h2⟩ := x7 hj;rw [List.length_range] at h1;rw [List.getElem_range] at h2;subst h2;exact ⟨h1, rfl⟩
theorem g7 (n : Nat) : (dv n).length = n := by unfold dv; simp
noncomputable def bhS (way : Key) (ns : List Str) (k : Key) : List Str := match k[way.length]? with
 | some n => if k.take way.length = way ∧ n ∉ ns then ns ++ [n] else ns
 | none => ns
noncomputable def bhd (keys : List Key) (way : Key) : List Str := keys.foldl (bhS way) []
theorem uI (way : Key) (ns : List Str) (k : Key) : (bhS way ns k).length ≤ ns.length + 1 := by
 delta bhS
 split
 ·split
  ·simp
  exact z8 _
 exact z8 _
theorem lZ (way : Key) : ∀ (keys : List Key) (ns : List Str), (keys.foldl (bhS way) ns).length ≤ ns.length + keys.length
 | [], ns => z6 _
 | k :: keys, ns => by
  have h1 := lZ way keys (bhS way ns k);have h2 := uI way ns k;rw [List.foldl_cons, ym];exact yT h1 (yT (Nat.add_le_add_right h2 _) (yV (xW _ 1 _)))
noncomputable def de (h : List Key) : Key × List Key := match h.getLast? with
 | some x => fG h.dropLast x
 | none => ([], [])
noncomputable def bn : Nat → List Key → List Key × List Key
 | 0, h => ([], h)
 | j + 1, h => ((bn j h).1 ++ [(de (bn j h).2).1], (de (bn j h).2).2)
noncomputable def jj (keys : List Key) : List Key := (bn keys.length (bJ keys)).1
theorem ru (l : List Key) (x : Key) : (fG l x).2.length = l.length := by
 delta fG
 split
 ·rename_i h; rw [h]
 rename_i h;show (cg (l.set 0 x) 0).length = _;rw [je _ _ (by rw [yB]; exact List.length_pos_iff.mpr h), yB]
theorem rq (h : List Key) : (de h).2.length = h.length - 1 := by
 delta de
 rcases xA h with rfl | ⟨l, x, rfl⟩
 ·rfl
 rw [xz, List.getLast?_concat];show (fG _ _).2.length = _;rw [ru, xJ, xR]; rfl
theorem gi (h : List Key) : ∀ j, (bn j h).1.length = j ∧ (bn j h).2.length = h.length - j
 | 0 => ⟨rfl, rfl⟩
 | j + 1 => by
  obtain ⟨h1, h2⟩ := gi h j;refine ⟨?_, ?_⟩
  ·show ((bn j h).1 ++ [_]).length = _;rw [xR, h1]; rfl
  show (de (bn j h).2).2.length = _;rw [rq, h2]; exact Nat.add_zero _
noncomputable def nOf : Val → Nat
 | .int i => i.toNat
 | _ => 0
noncomputable def b9 : Val → Key
 | .tup l => l.map fun v => match v with | .str x => x | _ => ⟨#[]⟩
 | _ => []
theorem bI (k : Key) : b9 (kv k) = k := by
 delta b9 kv
 simp only [z4];exact (xP fun x _ => rfl).trans (List.map_id' _)
theorem km {k : Key} {j : Int} (hj : j = (n : Int)) (hsz : k.length ≤ 2 ^ 20) : PSl K hn d σ (kv k) none (some j) (kv (k.take n)) σ := by
 have := re (K := K) (hn := hn) (d := d) (σ := σ) (l := k.map Val.str) (k := j) (by rw [yA]; exact yT hsz (by decide));have e : (k.map Val.str).take (tkN j (k.map Val.str).length) = (k.take n).map Val.str := by
  rw [List.map_take, hj]
  delta tkN
  rw [if_neg (Int.not_lt.mpr (xX _)), yA, List.take_eq_take_iff, yA];exact sU
 rw [e] at this;exact this
theorem iT {iter : Expr} {a : Int} (h : TV K true d F vals σ (eval iter F.env) (ei a b 1) σ1) (ha : a = 1) (hb : b = (n : Int) + 1) (hn : n < 2 ^ 20) : eR K d F vals σ iter (bd K 1 1 n) σ1 := by
 subst ha hb;refine eG h (small_one (by decide) (by decide) (Int.le_trans (by decide) (xX (n + 1))) (lI (Nat.succ_lt_succ hn) (by decide))) ?_;rw [rangeSize_one];split <;> lia
theorem l8 {acc : List Val} : (bd K 1 1 n).ok (σ ++ [.list acc]) ∧ ∀ i : Nat, (bd K 1 1 n).item i (σ ++ [.list acc]) = (dv n)[i]? := by
 refine ⟨trivial, fun i => ?_⟩;show (if i < n then some (Val.int (1 + (i : Int) * 1)) else none) = _
 delta dv
 rw [ye];by_cases hi : i < n
 ·rw [if_pos hi, List.getElem?_range hi, Option.map_some, Int.mul_one, Int.add_comm]
 rw [if_neg hi, xx (by rw [List.length_range]; exact Nat.le_of_not_lt ‹_›)]; rfl
theorem bP {x : Str} {F : Frm} {w : ai} {rest : ai} {s : a8} (hx : F.names[0]? = some x) (hb : Bnd F x) (hw : w.length = 1) :
  TA K hn d F (w ++ rest) s v (assign (.Name x p) F.env) (fun v1 σ' => v1 = [some v] ++ rest ∧ σ' = s ∧ [v].length = 1) := by
 obtain ⟨y, rfl⟩ := vr hw;exact lc hx hb ⟨rfl, rfl, rfl⟩
theorem pU (H : Wld K.toKB) {a b : Key} (ha : a.length < 1000) (hb : b.length < 1000) (hc : am σ) : PC K true (d + 1) σ (.ref 435) [kv a, kv b] [] (.int (shr a b)) σ := by
 refine PCX.cut ?_ (z6 _) hc rfl;refine H.defX (t := j9) (params := ["one", "other"]) (rest := []) (dflt := []) (xB (i := 23) rfl) (cD fun _ _ _ _ _ _ => rfl) rfl (by decide +kernel) (jw rfl) rfl rfl rfl fun L H => ?_
 show TSt _ _ _ _ _ _ (execs (ax (stm 53)) _) _;have ha' : (a.map Val.str).length ≤ 2 ^ 32 := by rw [yA]; exact yT (yU ‹_›) (by decide)
 have hb' : (b.map Val.str).length ≤ 2 ^ 32 := by rw [yA]; exact yU (lB hb rfl)
 have la := fun K' : KC => cf (K := K') (hn := true) (d := d) (σ := σ) ha'
 have lb := fun K' : KC => cf (K := K') (hn := true) (d := d) (σ := σ) hb'
 refine a9 (bm (aj (kl := []) (H.built rfl rfl) (.blt "len") (aa (fg (dv (min a.length b.length)) (fun v => decide (a.take (nOf v) = b.take (nOf v))) id (fun v => [v])
  (T := bd _ 1 1 (min a.length b.length)) (locs := ["k"]) (fr := [("one", 0, kv a), ("other", 1, kv b)])
  (iT (cH (H.built rfl rfl) (.typ "range") (aa b7 (aa (aS (aj (kl := []) (H.built rfl rfl) (.blt "min") (aa (aj (kl := []) (H.built rfl rfl) (.blt "len") (aa (a7 0 rfl rfl) ac) ao (la _))
   (aa (aj (kl := []) (H.built rfl rfl) (.blt "len") (aa (a7 1 rfl rfl) ac) ao (lb _)) ac)) ao vP) b7 dM) ac)) dR) rfl (by rw [yA, yA]; exact congrArg (· + 1) vi) (lD (Nat.min_le_left ..) ha rfl)) d7
  rfl ⟨⟨rfl, rfl⟩, ⟨rfl, rfl⟩, trivial⟩ ⟨⟨rfl, rfl, rfl⟩, ⟨rfl, rfl, rfl⟩, trivial⟩ rfl (by decide +kernel) (by decide +kernel) rfl ⟨rfl, rfl, trivial⟩
  (fun acc => l8) br (by rw [g7]; lia) (fun C i v w acc hv hw => bP rfl (.inl rfl) hw) (fun C i v acc hv => ?_)) ac) ao (bk (ae ..) ?_)) ?_)
 ·obtain ⟨hi, rfl⟩ := j2 hv;have hk : ((i : Int) + 1) = ((i + 1 : Nat) : Int) := by rfl
  exact ⟨cr (av (b6 (a7 1 rfl rfl) bf (ap (a7 0 rfl rfl)) cV (km hk (yT (yU ‹_›) (by decide)))) (b6 (a7 2 rfl rfl) bf (ap (a7 0 rfl rfl)) cV (km hk (yU (lB hb rfl)))) dA), fun _ => a7 0 rfl rfl⟩
 ·rw [yA];exact yT (xw _ _) (by rw [g7]; exact yU (lD (Nat.min_le_left ..) ha rfl))
 refine ⟨?_, _, rfl⟩;show Val.int _ = Val.int _;congr 1;rw [yA]
 delta dv shr
 rw [List.filter_map, yA];rfl
inductive ppJ (σ : a8) (keys : List Key) (p : Nat) (v' : ai) (s' : a8) : Prop
 | mk (y : Option Val) (q0 : p ≤ keys.length) (q1 : v' = [y, some (.ref σ.length)]) (q2 : s' = σ ++ [.list ((bn p (bJ keys)).2.map kv), .list ((bn p (bJ keys)).1.map kv)])
@[elab_as_elim] theorem ppJ.ind {σ : a8} {keys : List Key} {p : Nat} {v' : ai} {s' : a8} {motive : ai → a8 → Prop} (h0 : ppJ σ keys p v' s') (k0 : ∀ (y : Option Val) (q0 : p ≤ keys.length), motive ([y, some (.ref σ.length)]) (σ ++ [.list ((bn p (bJ keys)).2.map kv), .list ((bn p (bJ keys)).1.map kv)])) : motive v' s' := by
 obtain ⟨y, q0, rfl, rfl⟩ := h0;exact k0 _ q0
theorem q7 (H : Wld K.toKB) {i : Nat} {keys : List Key} (hi : σ[i]? = some (.list (keys.map kv))) (hn1 : keys.length < 800) (hc : am σ) :
  PC K true (d + 4) σ (.ref 430) [.ref i] [] (.ref σ.length) (σ ++ [.list ((jj keys).map kv)]) := by
 have hil := (x7 hi).1;have hsl : (2 : Nat) ^ 20 ≤ sizeLine := by decide
 refine PCX.pick ?_ (z6 _) hc (aI _ _);refine H.defX (t := jb) (params := ["items"]) (rest := ["heap"]) (dflt := []) (xB (i := 22) rfl) (eM fun _ _ _ _ _ => rfl) rfl (by decide +kernel) (jw rfl) rfl rfl rfl fun L H => ?_
 show TSt _ _ _ _ _ _ (execs (ax (stm 52)) _) _;have hhl : (bJ keys).length = keys.length := iV keys _ (z6 _);refine a9 (ab 1 (aj (kl := []) (H.built rfl rfl) (.typ "list") (aa (a7 0 rfl rfl) ac) ao (jF hi (by rw [yA]; exact yT (yU ‹_›) (by decide)))) rfl (.inr ⟨rfl, _, xC _ (xT ..), rfl⟩) ?_);have hh := fun K' : KC => fun H' : Wld K'.toKB => oz (K := K') (d := d) (σ := σ ++ [.list (keys.map kv)]) H' (k := σ.length) (l := keys) (ae ..) (xU ‹_› (yF _ _))
 refine a9 (ci (aj (kl := []) (H.name (v := .glob (.ref 245)) rfl rfl) (H.callee (t := gN) (xB (i := 12) rfl)) (aa (a7 1 rfl rfl) ac) ao (hh _ H)) rfl ?_);rw [mr];refine a9 (bm (vK (σ2 := σ ++ [.list ((bn keys.length (bJ keys)).2.map kv), .list ((jj keys).map kv)]) (T := aQ _ i (keys.map kv).length) (locs := ["item"]) (fr := [("heap", 1, .ref σ.length)]) (bB (a7 0 rfl rfl) (bb (ad _ hi))) bp rfl ⟨⟨rfl, rfl⟩, trivial⟩ ⟨⟨rfl, rfl, rfl⟩, trivial⟩ rfl (by decide +kernel) (by decide +kernel) (yg rfl) (cX.all ⟨rfl, trivial⟩)
  (ppJ σ keys)
  ⟨none, z7 _, rfl, yf ..⟩ (fun p v' s' ⟨y, _, _, e⟩ => ⟨_, e ▸ ad _ hi, rfl⟩) br ?_ ?_) ?_)
 ·intro C p v' s' v h0;refine h0.ind fun y hp => ?_
  rintro hit;rw [aG (ad _ hi)] at hit;have hlt : p < keys.length := by have := (x7 hit).1; rw [yA] at this; exact this
  obtain ⟨hl1, hl2⟩ := gi (bJ keys) p;rcases xA (bn p (bJ keys)).2 with e | ⟨h', x, e⟩
  ·rw [e] at hl2; exact absurd (Nat.le_of_sub_eq_zero hl2.symm) (Nat.not_le.mpr (hhl.symm ▸ hlt))
  rw [xz] at e;have hpop : de (bn p (bJ keys)).2 = fG h' x := by
   delta de
   rw [e, List.getLast?_concat];show fG (h' ++ [x]).dropLast x = _;rw [xJ]
  have hlen : h'.length < 900 := by rw [e, xR, xt] at hl2; exact lC (yT (yV hl2) (yT (Nat.sub_le ..) (yV hhl))) hn1 rfl
  have hs := fun (K' : KC) (H' : Wld K'.toKB) => ow (d := d) (σ := σ ++ [.list ((bn p (bJ keys)).2.map kv), .list ((bn p (bJ keys)).1.map kv)]) H' (k := σ.length) (l := h') (x := x) (by rw [e]; exact at0 ..) hlen
  have e0 := mr σ [.list ((bn p (bJ keys)).1.map kv)] (.list ((bn p (bJ keys)).2.map kv)) (.list ((fG h' x).2.map kv));rw [e0] at hs;refine lc (i := 0) rfl (.inl rfl) ⟨true, _, cc, ntf, fun _ => ⟨kv (fG h' x).1, _, (bn p (bJ keys)).1.map kv,
   aj (kl := []) (H.name (v := .glob (.ref 238)) rfl rfl) (H.callee (t := gL) (xB (i := 11) rfl)) (aa (a7 1 rfl rfl) ac) ao (hs _ H), ?_, ?_, some v, hlt, rfl, ?_⟩⟩
  ·rw [xR]; exact at1 ..
  ·rw [yA]; exact lC (xV (yV hl1) hlt) hn1 rfl
  rw [xR, xt, u5];show _ = σ ++ [.list ((de (bn p (bJ keys)).2).2.map kv), .list (((bn p (bJ keys)).1 ++ [(de (bn p (bJ keys)).2).1]).map kv)];rw [hpop, yC]; rfl
 ·intro p v' s' h0;refine h0.ind fun y hp => ?_
  rintro hit;rw [aG (ad _ hi)] at hit;have : p = keys.length := by have := x8 hit; rw [yA] at this; exact yE ‹_› ‹_›
  subst this; rfl
 exact ⟨_, [.list ((bn keys.length (bJ keys)).2.map kv), .list ((jj keys).map kv)], rfl, rfl, by rw [xR]; exact at1 .., by rw [xR]; exact z8 _⟩
inductive bhJ (σ : a8) (i : Nat) (keys : List Key) (way : Key) (p : Nat) (v' : ai) (s' : a8) : Prop
 | mk (y : Option Val) (q0 : p ≤ keys.length) (q1 : s' = σ ++ [.list ((bhd (keys.take p) way).map .str)]) (q2 : v' = [some (.ref i), some (kv way), some (.ref σ.length), y])
@[elab_as_elim] theorem bhJ.ind {σ : a8} {i : Nat} {keys : List Key} {way : Key} {p : Nat} {v' : ai} {s' : a8} {motive : ai → a8 → Prop} (h0 : bhJ σ i keys way p v' s') (k0 : ∀ (y : Option Val) (q0 : p ≤ keys.length), motive ([some (.ref i), some (kv way), some (.ref σ.length), y]) (σ ++ [.list ((bhd (keys.take p) way).map .str)])) : motive v' s' := by
 obtain ⟨y, q0, rfl, rfl⟩ := h0;exact k0 _ q0
theorem qD (H : Wld K.toKB) {i : Nat} {keys : List Key} {way : Key} (hi : σ[i]? = some (.list (keys.map kv))) (hn1 : keys.length < 1000) (hk : ∀ k ∈ keys, k.length < 1000) (hw : way.length < 1000) (hc : am σ) :
  PC K true (d + 1) σ (.ref 442) [.ref i, kv way] [] (.int (bhd keys way).length) σ := by
 refine PCX.cut ?_ (z6 _) hc rfl;refine H.defX (t := ew) (params := ["keys", "way"]) (rest := ["names", "key"]) (dflt := []) (xB (i := 24) rfl) (cD fun _ _ _ _ _ _ => rfl) rfl (by decide +kernel) (aL rfl) rfl rfl rfl fun L H => ?_
 show TSt _ _ _ _ _ _ (execs (ax (stm 54)) _) _;refine a9 (ab 2 (dk ac) rfl (.inl rfl) ?_);refine a9 (gf (ix := 3) (T := aQ _ i (keys.map kv).length) (bB (a7 0 rfl rfl) (bb (ad _ hi))) rfl (.inl rfl) (bhJ σ i keys way) ⟨none, z7 _, rfl, rfl⟩ (fun p v' s' ⟨y, _, e, _⟩ => ⟨_, e ▸ ad _ hi, rfl⟩) ?_ ?_)
 ·intro p v' s' h0;refine h0.ind fun y hp => ?_
  rintro hit;have hp' : p = keys.length := by
   rw [aG (ad _ hi)] at hit;have := x8 hit;rw [yA] at this; exact yE ‹_› ‹_›
  subst hp';rw [yv];have hl := lZ way keys [];exact a9 (bm (aj (kl := []) (H.built rfl rfl) (.blt "len") (aa (a7 2 rfl rfl) ac) ao (bk (ae ..) (by rw [yA]; exact yT hl (by simp; exact yT (yU ‹_›) (by decide))))) ⟨by rw [yA], _, rfl⟩)
 intro p v' s' v h0;refine h0.ind fun y hp => ?_
 rintro hit;rw [aG (ad _ hi), ye] at hit;obtain ⟨k, hkp, rfl⟩ := xf hit;have hkl := hk k (xB hkp);have hlt := (x7 hkp).1;have hst : bhd (keys.take (p + 1)) way = bhS way (bhd (keys.take p) way) k := by
  delta bhd
  rw [ah hkp, List.foldl_append]; rfl
 have hbl := lZ way (keys.take p) [];rw [yn] at hbl;have hbl' : (bhd (keys.take p) way).length ≤ 1000 := yT hbl (by simp; exact yT (yo ..) (yU hn1));generalize hB : bhd (keys.take p) way = B at *;have lk := fun (K' : KC) (s : a8) => cf (K := K') (hn := true) (d := d) (σ := s) (l := k.map Val.str) (by rw [yA]; exact yT (yU ‹_›) (by decide))
 have lw := fun (K' : KC) (s : a8) => cf (K := K') (hn := true) (d := d) (σ := s) (l := way.map Val.str) (by rw [yA]; exact yT (yU ‹_›) (by decide))
 rw [yA] at lk lw;have fin : bhS way B k = B → bhJ σ i keys way (p + 1) [some (.ref i), some (kv way), some (.ref σ.length), some (kv k)] (σ ++ [.list (B.map Val.str)]) :=
  fun e => ⟨_, hlt, by rw [hst, e], rfl⟩
 have hsl := fun K' : KC => km (K := K') (hn := true) (d := d) (σ := σ ++ [.list (B.map .str)]) (k := k) (j := (way.length : Int)) (n := way.length) rfl (yT (yU ‹_›) (by decide))
 generalize hN : k[way.length]?.getD ⟨#[]⟩ = N;have hN' : way.length < k.length → k[way.length]? = some N := fun h => by rw [← hN, xg h]; rfl
 have hit' := fun (K' : KC) (h : way.length < k.length) => nT (K := K') (hn := true) (d := d) (σ := σ ++ [.list (B.map .str)]) (l := k.map Val.str) (i := way.length) (v := .str N) (by rw [ye, hN' h]; rfl) (yW (yW ‹_› ‹_›) (by decide))
 have hcond : ∀ {b : Bool}, (decide ((k.length : Int) > (way.length : Int)) && b) = true → way.length < k.length ∧ b = true := fun h => by
  rw [yu, yh] at h;exact ⟨by exact Int.ofNat_lt.mp h.1, h.2⟩
 refine a9 (be (i5 (eh (av (aj (kl := []) (H.built rfl rfl) (.blt "len") (aa (a7 3 rfl rfl) ac) ao (lk _ _)) (aj (kl := []) (H.built rfl rfl) (.blt "len") (aa (a7 1 rfl rfl) ac) ao (lw _ _)) eE) fun h => eh
  (av (b6 (a7 3 rfl rfl) bf (ap (aj (kl := []) (H.built rfl rfl) (.blt "len") (aa (a7 1 rfl rfl) ac) ao (lw _ _))) cV (hsl _)) (a7 1 rfl rfl) dA) fun _ => eh
  (av (aV (a7 3 rfl rfl) (aj (kl := []) (H.built rfl rfl) (.blt "len") (aa (a7 1 rfl rfl) ac) ao (lw _ _)) cV (hit' _ (hcond (b := true) (by rw [Bool.and_true]; exact h)).1)) (a7 2 rfl rfl) (lp (ae ..))) fun _ => iI)) (fun hb => ?_) (fun hb => ak (ak (fin ?_))))
 ·obtain ⟨h1, hb⟩ := hcond hb;have hb : k.take way.length = way ∧ N ∉ B := by simpa using hb
  refine a9 (ci (bZ (a7 2 rfl rfl) (cw (ae ..) xh xi) (.blt _) (aa (aV (a7 3 rfl rfl) (aj (kl := []) (H.built rfl rfl) (.blt "len") (aa (a7 1 rfl rfl) ac) ao (lw _ _)) cV (hit' _ h1)) ac) (cN (ae ..) (by rw [yA]; exact yT hbl' (by decide)))) rfl (ak (ak ⟨_, hlt, ?_, rfl⟩)));rw [hst, mr]
  delta bhS
  rw [hN' h1];dsimp only;rw [if_pos hb, yC]; rfl
 delta bhS
 split
 ·rename_i n hn;have h1 : way.length < k.length := (x7 hn).1;rw [hN' h1] at hn;cases hn;refine if_neg fun q => ?_
  have h1' : decide ((k.length : Int) > (way.length : Int)) = true := by rw [yh]; exact yz h1
  rw [h1', decide_eq_true q.1, decide_eq_false q.2] at hb;cases hb
 rfl
theorem b5.noFields {c : ag} (x : b5 w φ h a c) (e : h.get? a = some o) (vs : Array Value) : o.data ≠ .fields vs := fun hd => by
 cases c with
 | list l => obtain ⟨o', _, _, e', _, h', _⟩ := x; rw [e] at e'; cases e'; rw [hd] at h'; cases h'
 | dict l => obtain ⟨o', _, _, e', _, h', _⟩ := x; rw [e] at e'; cases e'; rw [hd] at h'; cases h'
 | inst d => obtain ⟨o', _, e', _, _, h', _⟩ := x; rw [e] at e'; cases e'; rw [hd] at h'; cases h'
 | ns d => obtain ⟨o', _, _, _, e', _, h', _⟩ := x; rw [e] at e'; cases e'; rw [hd] at h'; cases h'
 | ns0 => have x : h.get? a = _ := x; rw [e] at x; cases x; cases hd
 | obj => obtain ⟨o', e', _, h'⟩ := x; rw [e] at e'; cases e'; rw [hd] at h'; cases h'
structure eQ (K : KC) (h : Heap) (a : Addr) (c : Value) (vs : Array Value) : Prop where
 hi : K.h0.objs.size ≤ a
 ob : ∃ o, h.get? a = some o ∧ o.cls = c ∧ o.data = .fields vs
 ne : c ≠ .type "tuple" ∧ c ≠ .ref 387
theorem eQ.off {s : Shared} (x : eQ K s.heap a c vs) (G : af K φ σ s) : a ∉ φ := fun q => by
 obtain ⟨o, ho, _, hd⟩ := x.ob;obtain ⟨_, _, _, _, y⟩ := G.cellOf q;exact y.noFields ho vs hd
theorem eQ.aside {s : Shared} (x : eQ K s.heap a c vs) (G : af K φ σ s) : tK K φ s.heap a := by
 refine ⟨x.off G, x.hi, fun o e => ?_⟩;obtain ⟨o', ho, hc, hd⟩ := x.ob;rw [ho] at e; cases e;rw [hc, hd];exact ⟨x.ne, nofun⟩
theorem eQ.notOwn (x : eQ K h a c vs) (I : aM K F vals φ h) : a ∉ F.own ∧ ∀ o, h.get? a = some o → (o.cls ≠ .type "tuple" ∧ o.cls ≠ .ref 387) ∧ ∀ v, o.data ≠ .cell v := by
 obtain ⟨o', ho, hc, hd⟩ := x.ob;refine ⟨fun q => ?_, fun o e => ?_⟩
 ·obtain ⟨_, _, o, e, h1⟩ := I.own a q;rw [ho] at e; cases e;exact h1.2 vs hd
 rw [ho] at e; cases e;rw [hc, hd];exact ⟨x.ne, nofun⟩
theorem eQ.extS {s : Shared} (x : eQ K s.heap a c vs) (G : af K φ σ s) (I : aM K F vals φ s.heap) (X : bo F.own φ s φ' s') : eQ K s'.heap a c vs := by
 obtain ⟨o, ho, hc, hd⟩ := x.ob;exact ⟨x.hi, ⟨o, (X.keep a o ho (x.off G) (x.notOwn I).1).exact (fun es n q => by rw [hd] at q; cases q), hc, hd⟩, x.ne⟩
structure gG (K : KC) (k i : Nat) (φ : List Addr) (h : Heap) (ea it la : Addr) (old : Value) : Prop where
 at_ : φ[k]? = some la
 en : eQ K h ea (.type "enumerate") #[.none, .bool false, .ref it, rawInt i, .none, old]
 em : IsEnum h ea it i old
 li : eQ K h it (.type "list_iterator") #[.ref la, .int i 0]
theorem gG.lt (x : gG K k i φ h ea it la old) : ea ≠ it := fun q => by
 obtain ⟨o, ho, hc, _⟩ := x.en.ob;obtain ⟨o', ho', hc', _⟩ := x.li.ob;rw [q, ho'] at ho; cases ho;rw [hc'] at hc;exact absurd hc (by decide)
theorem gG.iter (x : gG K k i φ h ea it la old) : h.IsListIter it la i := x.li.ob
theorem gG.mk' (h1 : φ[k]? = some la) (h2 : IsEnum h ea it i old) (h3 : h.IsListIter it la i) (h4 : K.h0.objs.size ≤ ea) (h5 : K.h0.objs.size ≤ it) : gG K k i φ h ea it la old :=
 ⟨h1, ⟨h4, ⟨_, h2, rfl, rfl⟩, by decide, nofun⟩, h2, ⟨h5, h3, by decide, nofun⟩⟩
theorem gG.extS {s : Shared} (x : gG K k i φ s.heap ea it la old) (G : af K φ σ s) (I : aM K F vals φ s.heap) (X : bo F.own φ s φ' s') : gG K k i φ' s'.heap ea it la old := by
 obtain ⟨new, e, _⟩ := X.more;have hem : s'.heap.get? ea = _ := (X.keep ea _ x.em (x.en.off G) (x.en.notOwn I).1).exact fun es n q => by cases q
 exact ⟨by rw [e, xc (x7 x.at_).1]; exact x.at_, x.en.extS G I X, hem, x.li.extS G I X⟩
inductive EnJ (K : KC) (F : Frm) (φ : List Addr) (s : Shared) (k n : Nat) (ea it la : Addr) (J : Nat → ai → a8 → Prop) (s' : Shared) : Nat → Prop
 | mk (i : Nat) (φ' : List Addr) (v' : ai) (σ' : a8) (w : Value) (hin : i ≤ n) (X : bo F.own φ s φ' s') (G : af K φ' σ' s') (I : aM K F v' φ' s'.heap) (N : gG K k i φ' s'.heap ea it la w) (j : J i v' σ') : EnJ K F φ s k n ea it la J s' (n + 1 - i)
theorem us {s : a8} (h : s[k]? = some (.list l)) (h' : s[k]? = some (.list l')) : l = l' := by rw [h] at h'; cases h'; rfl
inductive LenAt (s : a8) (k n : Nat) : Prop
 | mk (l : List Val) (e : s[k]? = some (.list l)) (h : l.length = n)
inductive EqVS (v : ai) (s : a8) : ai → a8 → Prop
 | mk : EqVS v s v s
theorem nQ {x p : Str} {px py pp pos2 : Pos} {kk : Nat} {body : List Stmt} {iy : Nat} (hb : EvE K true d F vals σ (.Name p pp) (.glob (.type "enumerate")) σ) (h : EvE K true d F vals σ e (.ref k) σ1) (hk0 : σ1[k]? = some (.list l0))
  (hix : F.names[ix]? = some x) (hiy : F.names[iy]? = some y) (hbx : Bnd F x) (hby : Bnd F y)
  (J : Nat → ai → a8 → Prop) (h0 : J 0 vals σ1) (hok : ∀ i v s, J i v s → LenAt s k n)
  (done : ∀ i v s l, J i v s → s[k]? = some (.list l) → n ≤ i → P .next v s)
  (turn : ∀ i v s u, J i v s → (∀ l, s[k]? = some (.list l) → l[i]? = some u) → TSt K true d F ((v.set ix (some (.int (i : Int)))).set iy (some u)) s (execs body F.env) (lpF J P (i + 1)))
  (hs : ∀ z, foldedSetIterable (.Call (.Name p pp) [e] [] pos2) F.env z = pure z := by intro _; rfl)
  (he : starEach [e] F.env = (false, eval e F.env) :: starEach [] F.env := by rfl)
  (hs2 : ((backTo pos2 (starEach [] F.env)).any (·.1) || (backToKw pos2 (keywordEach [] F.env)).any (·.1.isNone)) = false := by rfl)
  (hka : (backToKw pos2 (keywordEach [] F.env)).all (·.1.isSome) = true := by rfl) :
  TSt K true d F vals σ (exec (.For (.Tuple [.Name x px, .Name y py] kk tp) (.Call (.Name p pp) [e] [] pos2) body [] pos) F.env) P := fun A φ s R G I Q E hQ => by
 refine wpAny_For ?_ hs;refine wpAny_Call_Name_kw (hb A φ s R G I _ _ fun φ0 s0 V0 X0 G0 r0 => ?_);unfold RV at r0;subst r0;have I0 := I.ext G X0;refine aT (.typ "enumerate") (by rw [he]; exact hs2) ?_;have ha' := aa (pos := pos2) h (ac (pos := pos2)) he A φ0 s0 R G0 I0;rw [he] at ha' ⊢;refine evalArgs_kw hka (ha' _ _ fun φ1 s1 Vs X1 G1 r1 => wpAny_evalAll_nil ⟨G1.base, ?_⟩);obtain ⟨V, rfl, rV⟩ := fK r1;obtain ⟨la, xs, rfl, hla, hL, q⟩ := G1.list rV hk0;refine call_enumerate_list hL fun h' hen hli hz hk => ?_
 have hz1 : s1.heap.objs.size ≤ h'.objs.size := by rw [hz]; exact yp ..
 have X2 : Ext φ1 s1 φ1 { s1 with heap := h' } := Ext.keepAll hk hz1;have G2 : af K φ1 σ1 { s1 with heap := h' } := G1.keepAll hk hz1 rfl rfl;have X02 := (X0.trans X1).trans X2;have I2 := I.ext G X02;have hsz := (X0.trans X1).size;generalize hea : s1.heap.objs.size + 1 = ea at hen ⊢;generalize hit : s1.heap.objs.size = it at hen hli;have old : ∀ b o, s.heap.get? b = some o → b ≠ ea ∧ b ≠ it := fun b o e => by
  have := xU (al e) hsz;refine ⟨fun q => ?_, fun q => ?_⟩
  ·rw [q, ← hea] at this; exact absurd this (yO (z8 _))
  rw [q, ← hit] at this; exact absurd this (yQ _)
 have hgr : K.h0.objs.size ≤ s1.heap.objs.size := G1.grown;have N2 : gG K k 0 φ1 h' ea it la .none := gG.mk' hla hen hli (by rw [← hea]; exact yk hgr) (by rw [← hit]; exact hgr);refine wpAny_pyIter_enum hen ?_;refine codeAny_forLoop_any (fun m s' => EnJ K F φ s k n ea it la J s' m) ?_ _
  ⟨0, φ1, vals, σ1, .none, z7 _, X02.toS _, G2, I2, N2, h0⟩
 intro m s3 hJ;refine EnJ.rec (fun i φ3 v3 σ3 w hin X3 G3 I3 N3 j3 => ?_) hJ;obtain ⟨l, hl, hln⟩ := hok _ _ _ j3;obtain ⟨o, ys, n', ho, hc, hd, q3⟩ := G3.cells k la _ N3.at_ hl;have hL3 : s3.heap.IsList la ys := ⟨o, ho, hc.1, n', hd⟩
 have hlen := q3.length;rw [xK] at hlen;have bad3 : ∀ a, (a = ea ∨ a = it) → tK K φ3 s3.heap a := fun a q => by
  rcases q with rfl | rfl
  ·exact N3.en.aside G3
  exact N3.li.aside G3
 have bad3' : ∀ a, (a = ea ∨ a = it) → a ∉ F.own ∧ ∀ o, s3.heap.get? a = some o → (o.cls ≠ .type "tuple" ∧ o.cls ≠ .ref 387) ∧ ∀ v, o.data ≠ .cell v := fun a q => by
  rcases q with rfl | rfl
  ·exact N3.en.notOwn I3
  exact N3.li.notOwn I3
 rcases z0 i n with hlt | hge
 ·have hu : l[i]? = some l[i] := xg (by omega);generalize l[i] = u at hu;obtain ⟨U, hU, rU⟩ := q3.get i hu;refine wpAny_pyNext_enum_item N3.em N3.iter hL3 (by simpa using hU) N3.lt fun h₁ heo hit₁ ht₁ hz₁ hk₁ => ?_
  refine wpAny_letOwnedTupleGo_enum heo fun h₂ he₂ hs₂ => ?_
  have hk : ∀ b o, ¬ (b = ea ∨ b = it) → s3.heap.get? b = some o → h₂.get? b = some o := fun b o q e => (hs₂.2 b fun q' => q (.inl q')).trans (hk₁ b o (fun q' => q (.inl q')) (fun q' => q (.inr q')) e)
  have hz4 : s3.heap.objs.size ≤ h₂.objs.size := by
   have : h₂.objs.size = h₁.objs.size := hs₂.1;rw [this, hz₁]; exact z8 _
  have G4 : af K φ3 σ3 { s3 with heap := h₂, toks := s3.toks + 1 } := G3.butP bad3 hk hz4 rfl rfl;have I4 : aM K F v3 φ3 h₂ := I3.butP (s' := { s3 with heap := h₂, toks := s3.toks + 1 }) G3 bad3' hk;have X4 : bo F.own φ s φ3 { s3 with heap := h₂, toks := s3.toks + 1 } := ⟨fun b o e q1 q2 => (X3.keep b o e q1 q2).trans fun o' e' => .inl (hk b o' (fun q => q.elim (old b o e).1 (old b o e).2) e'), yT X3.size hz4, X3.more⟩
  have hea3 : s3.heap.objs.size ≠ ea := fun q => absurd (al N3.em) (by rw [q]; exact yQ _)
  have hite : it ≠ ea := fun q => N3.lt q.symm
  have N4 : gG K k (i + 1) φ3 h₂ ea it la U := gG.mk' N3.at_ (by push_cast at he₂ ⊢; exact he₂) (by
   obtain ⟨oi, hoi, hci, hdi⟩ := hit₁;exact ⟨oi, (hs₂.2 it hite).trans hoi, hci, hdi⟩) N3.en.hi N3.li.hi
  have rT : RV φ3 h₂ (.tup [.int (i : Int), u]) (.ref s3.heap.objs.size) := by
   unfold RV;refine ⟨s3.heap.objs.size, _, _, _, rfl, (hs₂.2 _ hea3).trans ht₁, rfl, rfl, ?_⟩;unfold RL;refine ⟨_, _, rfl, bq .., ?_⟩;unfold RL;refine ⟨_, _, rfl, rU.keep (fun b o e hb => hk b o (fun q => ?_) e) ⟨[], by simp⟩, by unfold RL; rfl⟩;rcases hb.1 with hb | hb
   ·exact ((bad3 b q).not o e).1.1 hb
   exact ((bad3 b q).not o e).1.2 hb
  refine iQ (Pu := EqVS ((v3.set ix (some (.int (i : Int)))).set iy (some u)) σ3) hix hiy hbx hby .mk A φ3 _ _ R G4 I4 rT _ _ fun φ5 s5 v5 σ5 X5 G5 I5 p5 => ?_
  induction p5
  refine turn i v3 σ3 u j3 (fun _ e => us hl e ▸ hu) A φ5 s5 R G5 I5 _ _ fun φ6 s6 f r v6 σ6 X6 G6 I6 rr p6 => ?_
  have X56 := X5.trans X6;have N6 := N4.extS (s := { s3 with heap := h₂, toks := s3.toks + 1 }) G4 I4 X56;have X := X4.trans X56;cases r with
  | next =>
   have rr : f = .next := rr;subst rr;exact ⟨n + 1 - (i + 1), by exact xI _ _ (yl hlt), i + 1, φ6, v6, σ6, U, hlt, X, G6, I6, N6, p6⟩
  | cont =>
   have rr : f = .cont := rr;subst rr;exact ⟨n + 1 - (i + 1), by exact xI _ _ (yl hlt), i + 1, φ6, v6, σ6, U, hlt, X, G6, I6, N6, p6⟩
  | brk =>
   have rr : f = .brk := rr;subst rr;exact hQ φ6 s6 .next .next v6 σ6 X G6 I6 rfl p6
  | ret w =>
   obtain ⟨W, rfl, rr⟩ := rr;exact hQ φ6 s6 _ (.ret w) v6 σ6 X G6 I6 ⟨W, rfl, rr⟩ p6
 refine aU (wpAny_pyNext_enum_end (R.hand rfl) N3.em N3.iter hL3 (Array.getElem?_eq_none (yT (yV (hlen.trans hln)) hge)) fun h₁ hx₁ hz₁ => wpAny_execs_nil ?_);have hk : ∀ b o, ¬ (b = ea ∨ b = it) → s3.heap.get? b = some o → h₁.get? b = some o := fun b o q e => hx₁ b o (fun q' => q (.inr q')) e
 exact hQ φ3 _ .next .next v3 σ3 ⟨fun b o e q1 q2 => (X3.keep b o e q1 q2).trans fun o' e' => .inl (hk b o' (fun q => q.elim (old b o e).1 (old b o e).2) e'), yT X3.size hz₁, X3.more⟩
  (G3.butP bad3 hk hz₁ rfl rfl) (I3.butP (s' := { s3 with heap := h₁ }) G3 bad3' hk) rfl (done i v3 σ3 l j3 hl hge)
theorem jU : typeLookup (.type "object") "__new__" = pure (some (.builtin "object.__new__")) := by rw [typeLookup_type, builtinLookup_eq_fast]; kernel_rfl
theorem rG : mroOf (.type "object") = pure [.type "object"] := by kernel_rfl
theorem qi : TypeCalled "object" "object.__new__" "object.__init__" :=
 ⟨by decide +kernel, by decide +kernel, ⟨_, _, rG⟩, madeBy_type rG jU (by decide +kernel), by decide +kernel, by rw [isSubtype_type]; kernel_rfl, PySem.F.slot_object_init⟩
theorem mF : checkTypeCall "object" ⟨[], []⟩ = pure () := by kernel_rfl
theorem nW : checkBuiltinCall "object.__new__" ⟨[.type "object"], []⟩ = pure () := by kernel_rfl
theorem rH : entryFor table "object.__new__" = some Builtin.«object.__new__» := entryFor_of_tree (by kernel_rfl)
theorem rF : plainId "object.__new__" = true := by decide +kernel
noncomputable def lv : Obj := { cls := .type "object", data := .plain }
theorem vm {s : Shared} {Q : Fin → Shared → Prop} (hq : Q (.done (.ret (.ref s.heap.objs.size))) { s with heap := s.heap.push lv }) :
  wpAny M A (Builtin.«object.__new__» ⟨[.type "object"], []⟩) Q E s := by
 have h1 : Builtin.«object.__new__» ⟨[.type "object"], []⟩ = (alloc lv >>= fun a => ret (.ref a)) := by kernel_rfl
 rw [h1];exact za (wpAny_alloc (zb hq))
theorem tl : PC K hn d σ (.type "object") [] [] (.ref σ.length) (σ ++ [.obj]) := fun A φ s Vs Ws R G r1 r2 Q E hQ => by
 have r1 : Vs = [] := by unfold RL at r1; exact r1
 have r2 : Ws = [] := by unfold RL at r2; exact r2
 subst r1 r2;refine callType_codes (Q₁ := fun obj s₁ => obj = .ref s.heap.objs.size ∧ s₁ = { s with heap := s.heap.push lv }) qi mF entry_oi ?_ fun obj s₁ h₁ => ?_
 ·refine codeAny_of_tree ?_;show wpAny _ _ (do checkBuiltinCall "object.__new__" ⟨[.type "object"], []⟩; again (.builtin "object.__new__" ⟨[.type "object"], []⟩)) _ _ s;refine za (z9 nW (zb ⟨plainId_quiet rF _, codeAny_builtin rH ?_⟩));exact vm ⟨rfl, rfl⟩
 obtain ⟨rfl, rfl⟩ := h₁;refine ⟨⟨_, xL _ rfl, rfl⟩, oi_args _, ?_⟩;rw [oi_run];refine zb ⟨rfl, ?_⟩;exact hQ _ _ _ (Ext.alloc ..) (G.alloc lv .obj ⟨_, xL _ rfl, rfl, rfl⟩) (by unfold RV; exact ⟨s.heap.objs.size, by rw [← G.len]; simp, rfl⟩)
theorem af.objAt {s : Shared} (G : af K φ σ s) (r : RV φ s.heap (.ref k) V) (hk : σ[k]? = some .obj) : ∃ a o, V = .ref a ∧ s.heap.get? a = some o ∧ o.cls = .type "object" := by
 unfold RV at r;obtain ⟨a, ha, rfl⟩ := r;obtain ⟨o, h1, h2, _⟩ := G.cells k a _ ha hk;exact ⟨a, o, rfl, h1, h2⟩
theorem qd : P2 K hn d σ (compareOp .Is) (.ref k) (.ref k) (.bool true) σ := fun A φ s V1 V2 R G r1 r2 Q E hQ => by
 unfold RV at r1 r2;obtain ⟨a, ea, rfl⟩ := r1;obtain ⟨b, eb, rfl⟩ := r2;rw [ea] at eb; cases eb;exact wpAny_is_ref_self (hQ φ s _ (Ext.refl ..) G (az _))
theorem rA (hk : σ[k]? = some .obj) : P2 K hn d σ (compareOp .Is) (.tup l) (.ref k) (.bool false) σ := fun A φ s V1 V2 R G r1 r2 Q E hQ => by
 obtain ⟨a, xs, rfl, ⟨o, ho, hc, _⟩, _⟩ := r1.tup;obtain ⟨b, o2, rfl, ho2, hc2⟩ := G.objAt r2 hk;have hnt : o2.cls ≠ .type "tuple" := by rw [hc2]; decide
 have hne : a ≠ b := fun q => by rw [q, ho2] at ho; cases ho; exact hnt hc
 exact za (wpAny_isSame_ref_other' hne ho ho2 hnt (zb (hQ φ s _ (Ext.refl ..) G (az _))))
theorem gh {s : Shared} {a b : Value} {Ta Tb ida idb : String} {k : Bool} (ha : s.TypeIs a Ta) (hb : s.TypeIs b Tb)
  (hne : (Value.type Ta != Value.type Tb) = true) (hsub : isSubtype (.type Tb) (.type Ta) = pure true) (h1 : Slot Ta (cmpInfo .Eq).2.1 ida) (h2 : Slot Tb (cmpInfo .Eq).2.2 idb)
  (hc1 : ∀ Q' : Value → Shared → Prop, Q' .notImplemented s → wpAny M A (call (.builtin ida) [a, b]) Q' E s)
  (hc2 : ∀ Q' : Value → Shared → Prop, Q' .notImplemented s → wpAny M A (call (.builtin idb) [b, a]) Q' E s)
  (hk : ∀ Q' : Bool → Shared → Prop, Q' k s → wpAny M A (isSame a b) Q' E s)
  (hr : A.units < cLine) (h : Q (.bool k) s) : wpAny M A (richCompare .Eq a b) Q E s := by
 rcases hi : cmpInfo CmpOp.Eq with ⟨sym, f, r⟩
 rw [hi] at h1 h2;unfold richCompare;rw [hi, ha.oneThing_none];dsimp only
 try with_reducible refine yP ?_
 refine za (wpAny_cRoomFor_or (.inr hr) ?_);refine za (wpAny_typeOf ha (za (wpAny_typeOf hb ?_)));rw [if_pos hne];refine za (z9 hsub ?_);simp only [if_true, Bool.not_true, ya, if_false];refine za (m := tryCompare b _ a) (wpAny_tryCompare_declines hb h2 (hc2 _ ⟨rfl, ?_⟩));refine za (m := tryCompare a _ b) (wpAny_tryCompare_declines ha h1 (hc1 _ ⟨rfl, ?_⟩));exact za (wpAny_rule (za (hk _ (zb h))))
theorem l9 (l b : Addr) (items : Array Value) (n : Nat) (dd : Option Addr) (sl : Array (Option Value)) (o2 : Obj) (hc : o2.cls = .type "object") :
  Meets (Builtin.«tuple.__eq__» ⟨[.ref l, .ref b], []⟩) (fun _ R s => s.heap.get? l = some { cls := .type "tuple", dict := dd, data := .seq items n, slots := sl } ∧ s.heap.get? b = some o2 ∧ R (.ok (.ret .notImplemented)) s) :=
 .of_wp fun prog w A R s h => by
  obtain ⟨hp, g, d, tk, os⟩ := s;obtain ⟨hl, hb, h⟩ := h;obtain ⟨c2, d2, da2, sl2⟩ := o2;dsimp only at hc;subst hc;have f1 := PySem.F.sub_object_tuple
  wp_walk using AutoSeq1.wpAny_loadPart' hl, AutoSeq1.wpAny_loadPart' hb
  exact ⟨_, rfl, h⟩
theorem rB (hk : σ[k]? = some .obj) : P2 K hn d σ (compareOp .Eq) (.ref k) (.tup l) (.bool false) σ := fun A φ s V1 V2 R G r1 r2 Q E hQ => by
 obtain ⟨b, xs, rfl, ⟨o2, ho2, hc2, n, hd2⟩, _⟩ := r2.tup;obtain ⟨a, o, rfl, ho, hc⟩ := G.objAt r1 hk;have hnt : o.cls ≠ .type "tuple" := by rw [hc]; decide
 have hne : a ≠ b := fun q => by rw [q, ho2] at ho; cases ho; exact hnt hc2
 have hu : A.units < cLine := by have := R.units; have : cLine = 9900 := rfl; exact aC ‹_› this
 refine gh (k := false) ⟨_, ho, hc⟩ ⟨_, ho2, hc2⟩ (by decide) PySem.F.sub_tuple_object PySem.F.slot_object_eq PySem.F.slot_tuple_eq_refl (fun Q' hq => ?_) (fun Q' hq => ?_)
  (fun _ hq => wpAny_isSame_ref_other hne ho ho2 hnt hq) hu (hQ φ s _ (Ext.refl ..) G (az _))
 ·refine wpAny_call_entry PySem.F.slot_object_eq ⟨_, ho, hc⟩ PySem.F.entry_object_eq (objEq_entry_other hne ho ho2 hnt ⟨_, rfl, hq⟩) (PySem.F.args_object_eq_2 _ _)
 obtain ⟨c3, d3, da3, sl3⟩ := o2;dsimp only at hc2 hd2;subst hc2 hd2;exact call_meets PySem.F.slot_tuple_eq_refl ⟨_, ho2, rfl⟩ PySem.F.entry_tuple_eq (PySem.F.args_tuple_eq_2 _ _) (l9 b a xs n d3 sl3 o hc) ⟨ho2, ho, hq⟩
section
set_option tactic.hygienic true
structure MM (M : Model) (h : Heap) : Prop where
 obj : ∃ oc od cd sl, h.get? 387 = some ⟨oc, od, .cls cd, sl⟩ ∧ cd.mro = [.ref 387, .type "tuple", .type "object"] ∧ cd.hasDel = false
 made : Looks M h (Bind.madeBy (.ref 387)) none
 base : Looks M h (Bind.staticBase (.ref 387)) (.type "tuple")
 self : Looks M h (isSubtype (.ref 387) (.ref 387)) true
 tup : Looks M h (isSubtype (.ref 387) (.type "tuple")) true
 top : Looks M h (isSubtype (.ref 387) (.type "object")) true
 call : Looks M h (specialOf (.ref 387) "__call__") (some (.builtin "type.__call__"))
 typ : Looks M h (isInstance (.ref 387) (.type "type")) true
 init : Looks M h (typeLookup (.ref 387) "__init__") (some (.builtin "object.__init__"))
 reads : ∃ G : Frag, G.In h ∧ readsIn G 387 (.type "type") = true ∧ findCls G (.ref 387) (.type "type") "__new__" = some (.get (.builtin "staticmethod.__get__") (.ref 388) .none (.ref 387)) ∧ recIn G 388 "staticmethod" = some [.ref 334]
 iter : Looks M h (typeLookup (.ref 387) "__iter__") (some (.builtin "tuple.__iter__"))
 cls : ∃ (G : Frag), G.In h ∧ specialIn G (.ref 387) "__call__" = some (some (.builtin "type.__call__"))
theorem m8 : Bind.madeBy (.type "tuple") = pure (some "tuple.__new__") := PySem.F.called_tuple.made
theorem qM : Builtin.Slots.bestBase [.type "tuple"] = pure (.type "tuple") := by kernel_rfl
theorem uS {G : Frag} (X : G.In h) (e : mG G = true) : MM M h := by
 unfold mG at e;simp only [yu, zk] at e;obtain ⟨⟨⟨⟨⟨⟨⟨e1, e2⟩, e3⟩, e4⟩, e5⟩, e6⟩, e7⟩, e8⟩ := e;split at e1
 ·rename_i oc od cd sl ho;simp only [yu, Bool.not_eq_true', zk] at e1;obtain ⟨⟨⟨⟨a1, a2⟩, a3⟩, a4⟩, a5⟩ := e1;have hc : clsIn G 387 = some cd := by unfold clsIn; rw [ho]
  have hm : Looks M h (mroOf (.ref 387)) cd.mro := (looks_clsIn X hc).andThen .now;have made : Looks M h (Bind.madeBy (.ref 387)) none := by
   intro A Q E s k q;unfold Bind.madeBy;refine za (hm A _ E s k ?_);rw [a4, List.forIn_cons];refine za (za (za (za (wpAny_loadPart (k _ _ (X _ _ ho)) (zb ?_)))));dsimp only;rw [← xu, a3];exact zb (zb (zb q))
  have base : Looks M h (Bind.staticBase (.ref 387)) (.type "tuple") := by
   intro A Q E s k q;unfold Bind.staticBase;refine za (hm A _ E s k ?_);rw [a4, List.forIn_cons];refine za (za (za (made A _ E s k ?_)));dsimp only [Option.isSome];rw [if_neg (by decide)];refine za ((looks_clsIn X hc) A _ E s k ?_);rw [a5, qM];refine za (zb (zb ?_));dsimp only;rw [List.forIn_cons, m8];exact za (za (zb (zb (zb (zb q)))))
  have mro : ∀ b, cd.mro.contains b = true → Looks M h (isSubtype (.ref 387) b) true := fun b hb => looks_mroIn X (by unfold mroIn; rw [hc, Option.bind_some, if_neg (by rw [a4]; decide), hb])
  refine ⟨⟨oc, od, cd, sl, X _ _ ho, a4, a2⟩, made, base, mro _ (by rw [a4]; decide), mro _ (by rw [a4]; decide), mro _ (by rw [a4]; decide), looks_specialIn X e2, looks_instIn X e3, looks_findIn X e7, ⟨G, X, e4, ?_, e6⟩, looks_findIn X e8, ⟨G, X, e2⟩⟩;split at e5
  ·rename_i g a obj tp hf;simp only [yu, zk] at e5;obtain ⟨⟨⟨b1, b2⟩, b3⟩, b4⟩ := e5;rw [hf, b1, b2, b3, b4]
  cases e5
 cases e1
end
theorem tR : builtinKind "tuple.__new__" = some .builtinFn := by decide +kernel
theorem qP : splitId "tuple.__new__" = some ("tuple", "__new__") := by decide +kernel
theorem tT (a b : Value) : argsOk "tuple.__new__" ⟨[a, b], []⟩ := by unfold argsOk; kernel_rfl
theorem qR : entryFor table "tuple.__new__" = some Builtin.«tuple.__new__» := PySem.F.entry_tuple_new
theorem qQ : "tuple.__new__".startsWith "lifetime." = false := by decide +kernel
section
variable {prog : Program} {w : World} {A : Around} {R : Result → Shared → Prop} {h : Heap} {g : Array GenState} {dr : Drawn} {tk : Nat} {os : OsState}
theorem tS {t : Addr} (Y : MM (model prog w) h) (ho : h.get? t = some o) (hc : o.cls = .type "tuple") (hd : o.data = .seq xs n) (hsz : xs.size ≤ 100)
  (hq : ∀ h' : Heap, (∀ b o, h.get? b = some o → h'.get? b = some o) → R (.ok (.ret (.ref (h'.push emptyDict).objs.size))) ⟨(h'.push emptyDict).push { cls := .ref 387, dict := some h'.objs.size, data := .seq xs }, g, dr, tk, os⟩) :
  codeAny (model prog w) A (.call (.builtin "tuple.__new__") ⟨[.ref 387, .ref t], []⟩) R ⟨h, g, dr, tk, os⟩ := by
 obtain ⟨⟨oc, od, cd, sl, hC, e1, e2⟩, made, base, self, tup, top, call, typ, init, _, _⟩ := Y;refine codeAny_call_builtin_code (Code.quiet_builtin _ qQ) ?_;obtain ⟨sig, hsig⟩ : ∃ sig, Manifest.signature? "tuple.__new__" = some sig := ⟨_, rfl⟩
 unfold checkBuiltinCall;rw [tR, qP, hsig];dsimp only;have tm : Looks (model prog w) h (Bind.madeBy (.type "tuple")) (some "tuple.__new__") := Looks.of_pure m8;have args := tT (.ref 387) (.ref t);simp only [argsOk, hsig] at args;have args : Bind.checkArgs "tuple.__new__" sig ⟨[.ref 387, .ref t], []⟩ = pure () := args;rw [args];have here : Looks (model prog w) h (Bind.madeHere "tuple.__new__" (.ref 387)) () := base.andThen (tm.andThen (Looks.of_pure (by simp only [Option.map_some, bne_self_eq_false, ya, if_false])))
 repeat (first | refine wpAny_ite_false rfl ?_ | refine wpAny_ite_false (decide_eq_false fun h => xS ((bne_self_eq_false _).symm.trans h)) ?_ | lk)
 refine codeAny_builtin qR ?_
 delta Builtin.«tuple.__new__»
 have hne : (Value.ref 387 == Value.type "tuple") = false := by decide
 repeat (first | refine wpAny_ite_false (decide_eq_false fun h => xS (hne.symm.trans h)) ?_ | refine wpAny_ite_false rfl ?_ | with_reducible refine wpAny_collect_seq t (.inr rfl) ho hc hd (fun h' hk => ?_) ?_ | lk)
 ·rw [show xs.toList.toArray = xs from rfl, if_neg (by have : 100 ≤ sizeLine := by decide
                                                       exact yO (yT hsz this))]
  delta newObjAsIs classHasDel
  refine za (wpAny_alloc (za (za (wpAny_load (xo _ (xo _ (hk _ _ hC))) (zb ?_)))));rw [e2];exact zb (zb (hq h' hk))
 exact yT hsz (by decide)
theorem tQ {s : Shared} {pl : Sem Bool} {Q : Value × List Value → Shared → Prop} (hQ : Q (.builtin "tuple.__new__", []) { s with toks := s.toks + 1 }) :
  wpAny (model prog w) A (getMethod (.type "tuple") "__new__" pl) Q E s := by
 have X : Frag.In ([] : Frag) s.heap := fun a o e => by cases e
 have ty : typeOf (.type "tuple") = pure (.type "type") := by kernel_rfl
 have ga : typeLookup (.type "type") "__getattribute__" = pure (some (.builtin "type.__getattribute__")) := by rw [typeLookup_type, builtinLookup_eq_fast]; kernel_rfl
 have op : opaqueClassAbove (.type "tuple") = pure none := by kernel_rfl
 delta getMethod
 refine za (za (z9 ty (z9 ga ?_)));dsimp only;rw [if_pos (by decide +kernel)];refine za (cls_open (c := .type "tuple") (name := "__new__") (r := .val (.builtin "tuple.__new__")) (mc := .type "type") (hook := none) X (Looks.of_pure op) (Looks.of_pure ty) (by decide +kernel) (looks_hook X (by decide +kernel)) (by decide +kernel) (by kernel_rfl) ?_);refine zb ?_;show wpAny _ _ (handedOut (.builtin "tuple.__new__")) _ _ _;rw [handedOut_of (by decide +kernel)];exact zb (zb hQ)
end
theorem len4 {α : Type} {l : List α} (h : l.length = 4) : ∃ a b c d, l = [a, b, c, d] := by
 match l, h with | [a, b, c, d], _ => exact ⟨a, b, c, d, rfl⟩
theorem vS {K : KB} {t : FT} {x z u : Str} (h : ∀ (doc pm ct : Value) (an : Option Addr) (V1 V2 V3 V4 : Value), bindArgs { iM t with doc := doc, pyModule := pm, closureTuple := ct, annotations := an } ⟨[V1, V2, V3, V4], []⟩ = pure [(x, V1), (y, V2), (z, V3), (u, V4)]) : bL K t 4 [] [x, y, z, u] [] :=
 ⟨[], fun _ _ => by unfold RL; rfl, fun doc pm ct an s Vs Ws _ h1 h2 => by
  obtain ⟨a, b, c, e, rfl⟩ := len4 h1;exact .of_eq (h doc pm ct an a b c e)⟩
theorem Wld.mm {s : Shared} (H : Wld K.toKB) (G : af K φ σ s) : MM (model pw K.w) s.heap := let ⟨_, h, _, e⟩ := H.frag; uS (h.keeps G.base) e
theorem mH (H : Wld K.toKB) : nq K.toKB 387 := by
 obtain ⟨G, h, _, e⟩ := H.frag;have Y : MM (model pw K.w) K.h0 := uS h e;obtain ⟨oc, od, cd, sl, ho, _⟩ := Y.obj;obtain ⟨G', h', e'⟩ := Y.cls;exact ⟨G', _, cd, h', e', ho, rfl⟩
theorem vI (H : Wld K.toKB) {n : Str} {p apos pos : Pos} {e1 e2 : Expr} {l : List Val} (h0 : EvE K hn d F vals σ (.Name n p) (.glob (.type "tuple")) σ) (h1 : EvL K hn d F vals σ pos [e1, e2] [.glob (.ref 387), .tup l] σ1) (hl : l.length ≤ 100)
  (hbase : attributeBase (.Name n p) "__new__" F.env (eval (.Name n p) F.env) = eval (.Name n p) F.env := by rfl)
  (hfew : methodCallForm ([e1, e2].length + ([] : List Keyword).length) (backTo pos (starEach [e1, e2] F.env)) (backToKw pos (keywordEach [] F.env)) = true := by rfl) (hline : (apos.endLine == pos.line) = true := by rfl)
  (he : starEach [e1, e2] F.env = (false, eval e1 F.env) :: starEach [e2] F.env := by rfl)
  (hs : (backTo pos (starEach [e2] F.env)).any (·.1) = false := by rfl) :
  EvE K hn d F vals σ (.Call (.Attribute (.Name n p) "__new__" apos) [e1, e2] [] pos) (.nt l) σ1 := fun A φ s R G I Q E hQ => by
 rw [arm_eval_Call, hbase];refine za (h0 A φ s R G I _ _ fun φ1 s1 V1 X1 G1 r1 => ?_);unfold RV at r1;subst r1;refine za (wpAny_standAt ?_);have hpos : methodCallPos true (.Name n p) F.env apos pos = pure pos := by unfold methodCallPos; simp [hline]
 delta methodCall
 rw [hfew];refine za (yP (tQ ?_));refine za (z9 hpos ?_);have I1 := I.ext G X1;have X1' := X1.trans (Ext.toks φ1 s1 (s1.toks + 1));have G1' := G1.toks (s1.toks + 1);refine aT (.blt _) ?_ ?_
 ·rw [he]; exact xk ⟨xk ⟨rfl, hs⟩, rfl⟩
 have ha' := h1 A φ1 { s1 with toks := s1.toks + 1 } R G1' (I.ext G X1');rw [he] at ha' ⊢;refine evalArgs_kw rfl (ha' _ _ fun φ2 s2 Vs X2 G2 r2 => wpAny_evalAll_nil ⟨G2.base, ?_⟩);obtain ⟨V, W, rfl, ra, rb⟩ := bO r2;unfold RV at ra;subst ra;obtain ⟨t, xs, rfl, ⟨o, ho, hc, m, hd⟩, q⟩ := rb.tup;have hq := q.length;rw [xK] at hq;obtain ⟨hp, g, dr, tk, os⟩ := s2;have Y := H.mm G2;dsimp only at Y ho hc hd q;have fin : ∀ h' : Heap, (∀ b o, hp.get? b = some o → h'.get? b = some o) → hp.objs.size ≤ ((h'.push emptyDict).push { cls := .ref 387, dict := some h'.objs.size, data := .seq xs }).objs.size → Q (.ref (h'.push emptyDict).objs.size) ⟨(h'.push emptyDict).push { cls := .ref 387, dict := some h'.objs.size, data := .seq xs }, g, dr, tk, os⟩ := fun h' hk hz => by
  have hk2 : ∀ b o, hp.get? b = some o → ((h'.push emptyDict).push { cls := .ref 387, dict := some h'.objs.size, data := .seq xs }).get? b = some o := fun b o e => xo _ (xo _ (hk b o e))
  have X3 : Ext φ2 ⟨hp, g, dr, tk, os⟩ φ2 ⟨(h'.push emptyDict).push { cls := .ref 387, dict := some h'.objs.size, data := .seq xs }, g, dr, tk, os⟩ := Ext.keepAll hk2 hz;refine hQ φ2 _ _ ((X1'.trans X2).trans X3) (G2.keepAll hk2 hz rfl rfl) ?_;unfold RV;exact ⟨_, _, 0, xs, rfl, xL _ rfl, rfl, rfl, q.ext G2 X3⟩
 exact aU (wpAny_call (tS Y ho hc hd (by exact hq ▸ hl) fun h' hk hz => fin h' hk hz))
theorem vn (H : Wld K.toKB) {a b c : Val} : PC K true (d + 1) σ (.ref 334) [.glob (.ref 387), a, b, c] [] (.nt [a, b, c]) σ := by
 refine H.def (t := uN) (params := ["_cls", "actual", "expected", "value"]) (rest := []) (dflt := []) (xB (i := 29) rfl) (vS fun _ _ _ _ _ _ _ _ => rfl) rfl (by decide +kernel) (aL rfl) rfl rfl rfl fun L H => ?_
 show TSt _ _ _ _ _ _ (execs (ax (sub 44 4)) _) _;refine a9 (ku (k := id) ?_);exact a9 (bm (vI H (H.built rfl rfl) (aa (a7 0 rfl rfl) (aa (bD (aa (a7 1 rfl rfl) (aa (a7 2 rfl rfl) (aa (a7 3 rfl rfl) ac))) (by show 3 ≤ sizeLine; decide)) ac)) (by show 3 ≤ 100; decide)) ⟨rfl, rfl⟩)
theorem uj (V : Value) (rest : List Value) : argsOk "object.__init__" ⟨V :: rest, []⟩ := by unfold argsOk; kernel_rfl
theorem tn (H : Wld K.toKB) {a b c : Val} : PC K true (d + 2) σ (.ref 387) [a, b, c] [] (.nt [a, b, c]) σ := fun A φ s Vs Ws R G r1 r2 Q E hQ => by
 have r2 : Ws = [] := by unfold RL at r2; exact r2
 subst r2;have Y := H.mm G;obtain ⟨oc, od, cd, sl, hC, e1, e2⟩ := Y.obj;have hm : Looks (model pw K.w) s.heap (mroOf (.ref 387)) cd.mro := ((Looks.ld (part := none) hC).andThen .now).andThen .now;have e4 : cd.mro.isEmpty = false := by rw [e1]; rfl
 have call := Y.call;have typ := Y.typ;have made := Y.made;obtain ⟨FG, hFG, f1, f2, f3⟩ := Y.reads;obtain ⟨hp, g, dr, tk, os⟩ := s;refine wpAny_call (codeAny_of_tree ?_);show wpAny _ _ (callAny (.ref 387) _) _ _ _;refine nd_load hC ?_;show wpAny _ _ (callAny.viaDunder (.ref 387) _) _ _ _
 delta callAny.viaDunder
 refine za (call.at ?_);dsimp only;rw [tc_bind];refine za (zb (za (zb ?_)));refine zb (a := Fin.again (.call (.builtin "type.__call__") ⟨.ref 387 :: Vs, []⟩)) (And.intro rfl ?_);refine codeAny_call_builtin_at (Code.quiet_builtin _ (by decide +kernel)) entry_typeCall (check_slot tc_kind tc_split typ (tc_args _ _ _) ?_)
 delta Builtin.«type.__call__»
 have gn : ∀ (A' : Around) (E' : Value → Shared → Prop) (Q' : Value → Shared → Prop), Q' (.ref 334) ⟨hp, g, dr, tk + 1, os⟩ → wpAny (model pw K.w) A' (getAttr (.ref 387) "__new__") Q' E' ⟨hp, g, dr, tk, os⟩ := fun A' E' Q' hq => by
  refine cls_bind (s := ⟨hp, g, dr, tk, os⟩) hFG f1 f2 (wpAny_call (sm_get (s := ⟨hp, g, dr, tk + 1, os⟩) hFG f3 ?_));show wpAny _ _ (handedOut (.ref 334)) _ _ _;rw [handedOut_of (by decide +kernel)];exact zb hq
 have hn : ∀ (Q' E' : Value → Shared → Prop), (∀ φ' s' V, Ext φ ⟨hp, g, dr, tk, os⟩ φ' s' → af K φ' σ s' → RV φ' s'.heap (.nt [a, b, c]) V → Q' V s') → wpAny (model pw K.w) (A.under (.builtin "type.__call__" ⟨.ref 387 :: Vs, []⟩)) (PySem.call (.ref 334) (.ref 387 :: Vs)) Q' E' ⟨hp, g, dr, tk + 1, os⟩ := fun Q' E' k => by
  have X1 := Ext.toks φ ⟨hp, g, dr, tk, os⟩ (tk + 1);have G1 := G.toks (tk + 1);refine vn (d := d) (a := a) (b := b) (c := c) H (A.under (.builtin "type.__call__" ⟨.ref 387 :: Vs, []⟩)) φ ⟨hp, g, dr, tk + 1, os⟩ (.ref 387 :: Vs) [] R.make G1 ?_ (by show RL _ _ [] _; unfold RL; rfl) Q' E' fun φ' s' V X2 G2 r2 => k φ' s' V (X1.trans X2) G2 r2
  unfold RL;exact ⟨.ref 387, Vs, rfl, by unfold RV; rfl, r1.ext G X1⟩
 repeat (first | refine wpAny_ite_false (decide_eq_false fun h => xS (e4.symm.trans h)) ?_ | refine wpAny_ite_false rfl ?_ | with_reducible refine gn _ _ _ ?_ | (fail_if_success with_reducible refine hn _ _ fun φ' s' V X' G' r' => ?_); lk)
 refine hn _ _ fun φ' s' V X' G' r' => ?_
 unfold RV at r';obtain ⟨o, ob, m, xs, rfl, ho, hc, hd, q⟩ := id r';have Y' := H.mm G';have t1 : Looks (model pw K.w) s'.heap (typeOf (.ref o)) (.ref 387) := hc ▸ (Looks.ld ho).andThen .now;have self' := Y'.self;have top' := Y'.top;have init' := Y'.init;have made' := Y'.made;have fin := hQ φ' s' (.ref o) X' G' (by unfold RV; exact r');obtain ⟨hp', g', dr', tk', os'⟩ := s';have inst' : Looks (model pw K.w) hp' (isInstance (.ref o) (.type "object")) true := by
  delta isInstance
  exact t1.andThen top'
 delta isInstance callSpecial? specialOf
 repeat (first | refine wpAny_ite_false rfl ?_ | with_reducible refine wpAny_call ?_ | lk)
 refine codeAny_call_builtin oi_plain entry_oi (@check_slot (model pw K.w) _ _ ⟨hp', g', dr', tk', os'⟩ "object.__init__" "object" "__init__" (.ref o) Vs [] _ oi_kind oi_split inst' (uj (.ref o) Vs) ?_);obtain ⟨V1, V2, V3, rfl, _⟩ := dH r1
 delta Builtin.«object.__init__»
 have n1 : (some (Value.builtin "object.__init__") != some (Value.builtin "object.__init__")) = false := by decide +kernel
 have n2 : ((none : Option String) != some "object.__new__") = true := rfl
 repeat (first | refine wpAny_ite_false (decide_eq_false fun h => xS (n1.symm.trans h)) ?_ | refine wpAny_ite_false rfl ?_ | refine wpAny_ite_true rfl ?_ | lk)
 exact fin
noncomputable def sf (e : Expr) (iter : Expr) (acc : Value) (env : Env) (c : Code) : Sem Fin := do
 let x ← eval iter env
 standAt iter.pos
 let x ← foldedSetIterable iter env x;let _ ← runOwn (.compStart e 1 (← holding [x] (pyIter x)) acc env) env
 again c
theorem nz (elt target iter target2 iter2 : Expr) (scope : Scope) (pos : Pos) (it acc : Value) (env : Env) : compTurn (.ListComp elt [⟨target, iter, [], 0⟩, ⟨target2, iter2, [], 0⟩] scope pos) 0 it acc env = (do
   standAt iter.pos
   match ← pyNext it with
   | none => pure (.done .next)
   | some v => do letOwnedTupleGo target it v; assign target env v; sf (.ListComp elt [⟨target, iter, [], 0⟩, ⟨target2, iter2, [], 0⟩] scope pos) iter2 acc env (.compLoop (.ListComp elt [⟨target, iter, [], 0⟩, ⟨target2, iter2, [], 0⟩] scope pos) 0 it acc env)) := by rfl
theorem nA (elt target iter target2 iter2 : Expr) (scope : Scope) (pos : Pos) (it acc : Value) (env : Env) : compTurn (.ListComp elt [⟨target, iter, [], 0⟩, ⟨target2, iter2, [], 0⟩] scope pos) 1 it acc env = (do
   standAt iter2.pos
   match ← pyNext it with
   | none => pure (.done .next)
   | some v => do letOwnedTupleGo target2 it v; assign target2 env v; t5 elt [] acc env (.compLoop (.ListComp elt [⟨target, iter, [], 0⟩, ⟨target2, iter2, [], 0⟩] scope pos) 1 it acc env)) := by rfl
theorem mh {s : Shared} {R : Result → Shared → Prop} {target iter target2 iter2 : Expr} {it : Value} 
  (h0 : codeAny (model pw w) A (.compLoop (.ListComp elt [⟨target, iter, [], 0⟩, ⟨target2, iter2, [], 0⟩] scope pos) 1 it acc env) R s)
  (h : wpAny (model pw w) A (pyIter it) (fun it' s' => codeAny (model pw w) A (.compLoop (.ListComp elt [⟨target, iter, [], 0⟩, ⟨target2, iter2, [], 0⟩] scope pos) 1 it' acc env) R s') (notedBy (model pw w) A env fun x s' => R (.error x) s') s) :
  codeAny (model pw w) A (.compStart (.ListComp elt [⟨target, iter, [], 0⟩, ⟨target2, iter2, [], 0⟩] scope pos) 1 it acc env) R s := by
 refine codeAny_of_tree ?_;show wpAny _ _ ((compStart (.ListComp elt [⟨target, iter, [], 0⟩, ⟨target2, iter2, [], 0⟩] scope pos) 1 it acc env).onRaise (fun x => do noteFrame x env; standAt theWindowsPlace)) _ _ s;refine wpAny_notedAt ?_;unfold compStart;show wpAny _ _ (ask >>= _) _ _ s;refine za (wpAny_askSetting (wpAny_ite ?_));split
 ·first
   | exact za (zb (zb (And.intro rfl h0)))
   | exact zb (And.intro rfl h0)
 first
  | exact za (wpAny_rule (za (wpAny_standAt (za (zj h (fun it' s' h' => zb (And.intro rfl h')) fun _ _ x => x)))))
  | (refine za (wpAny_rule ?_); show wpAny _ _ (standAt iter2.pos >>= _) _ _ s; exact za (wpAny_standAt (za (zj h (fun it' s' h' => zb (And.intro rfl h')) fun _ _ x => x))))
theorem ov {target iter target2 iter2 : Expr} {c : Code} {J : ai → a8 → Prop} {T : aZ K} (hi : eR K d F vals σ iter2 T σ1) (hself : dq K T)
  (J2 : Nat → ai → a8 → Prop) (h0 : J2 0 vals σ1) (hok : ∀ i v σ, J2 i v σ → T.ok σ)
  (hlet : ∀ (A : Around) (i : Nat) (φ : List Addr) (s : Shared) (it : Addr) (v : Value) (Q : Unit → Shared → Prop) (E : Value → Shared → Prop), T.At i φ s.heap it → Q () s → wpAny (model pw K.w) A (letOwnedTupleGo target2 (.ref it) v) Q E s)
  (turn : ∀ i v0 σ v, J2 i v0 σ → T.item i σ = some v → TA K true d F v0 σ v (assign target2 F.env) (fun v1 σ3 => ∃ y σ4 l, EvE K true d F v1 σ3 elt y σ4 ∧ σ4[n1]? = some (.list l) ∧ l.length < 2 ^ 20 ∧ J2 (i + 1) v1 (σ4.set n1 (.list (l ++ [y])))))
  (done : ∀ i v σ', J2 i v σ' → T.item i σ' = none → J v σ')
  (hs : ∀ x, foldedSetIterable iter2 F.env x = pure x := by intro _; rfl) :
  tJ K d F n1 acc vals σ (sf (.ListComp elt [⟨target, iter, [], 0⟩, ⟨target2, iter2, [], 0⟩] scope pos) iter2 acc F.env c) c J := fun A φ s Ro G I racc Q E hQ => by
 refine za (zj (hi A φ s Ro G I (fun it' s' => wpAny (model pw K.w) A (runOwn (.compStart (.ListComp elt [⟨target, iter, [], 0⟩, ⟨target2, iter2, [], 0⟩] scope pos) 1 it' acc F.env) F.env >>= fun _ => again c) Q E s') E fun φ1 s1 it X1 G1 hit1 hitφ1 hat1 => ?_)
  (fun x s₁ h₁ => za (wpAny_standAt (za (z9 (hs x) (za (yP h₁)))))) fun _ _ x => x)
 have I1 := I.ext G X1;have hitown : it ∉ F.own := fun q => by
  obtain ⟨_, _, o, e, _⟩ := I.own it q;exact absurd (al e) (yO hit1)
 refine za (wpAny_runOwn ?_);have loop := dP (A := A) (R := fun r s' => match r with | .ok f => wpAny (model pw K.w) A (again c) Q E s' | .error e => cameBackBy (model pw K.w) A F.env E e s') (nA elt target iter target2 iter2 scope pos (.ref it) acc F.env) J2 hok hlet
  (fun i v0 σ v j hv A φ s V R G I r Q E hQ => turn i v0 σ v j hv A φ s V R G I r Q E fun φ' s' v1 σ' X G I ⟨y, σ4, l, t1, t2, t3, t4⟩ => hQ φ' s' v1 σ' X G I (ff ⟨true, σ', cc, ntf, fun _ => ⟨y, σ4, l, t1, t2, t3, t4⟩⟩))
  Ro ⟨G1, I1, hat1, hitφ1, hitown, yT G.grown hit1⟩ (racc.ext G X1) h0 fun φ' s' v' σ' i' X' G' I' j' he => zb (hQ φ' s' v' σ' ?_ G' I' (done i' v' σ' j' he))
 ·exact mh loop (hself A 0 φ1 s1 it _ _ hat1 loop)
 obtain ⟨new1, e1, hn1⟩ := X1.more;obtain ⟨new2, e2, hn2⟩ := X'.more;refine ⟨fun b o e h1 h2 => (X1.keep b o e h1).trans fun o' e' => X'.keep b o' e' (X1.notIn e h1) h2 fun q => ?_, yT X1.size X'.size, new1 ++ new2, by rw [e2, e1, yf], fun a ha => ?_⟩
 ·exact absurd (q ▸ al e) (yO hit1)
 rcases yd ha with q | q
 ·exact hn1 a q
 exact yT X1.size (hn2 a q)
theorem aM.butD (I : aM K F vals φ h) (hC : h.get? C = some o) (hd : ∃ es n, o.data = .dict es n) (hn : C ∉ F.own) (hs : Heap.SameBut C h h') : aM K F vals φ h' := by
 obtain ⟨es, n, hd⟩ := hd;have hc : ∀ c v, h.IsCell c v → h'.IsCell c v := fun c v ⟨oc, hoc, hdc⟩ => ⟨oc, (hs.2 c fun q => by rw [q, hC] at hoc; cases hoc; rw [hd] at hdc; cases hdc).trans hoc, hdc⟩
 refine ⟨I.fn, I.glb, I.blt, I.nod, I.loc, fun a ha => ?_, I.lens, fun x c h1 h2 => ?_, I.inj, ?_⟩
 ·obtain ⟨h1, h2, oa, h3, h4⟩ := I.own a ha;exact ⟨h1, h2, oa, (hs.2 a fun q => hn (q ▸ ha)).trans h3, h4⟩
 ·obtain ⟨h3, v, h4⟩ := I.cell x c h1 h2;exact ⟨h3, v, hc c v h4⟩
 obtain ⟨m, ⟨ol, e2, n2, hol, hr⟩, hv⟩ := I.var;refine ⟨m, ⟨ol, e2, n2, (hs.2 _ fun q => hn (q ▸ I.loc)).trans hol, hr⟩, fun i x v h1 h2 => ?_⟩;obtain ⟨V, hV, r⟩ := hv i x v h1 h2;refine ⟨V, hV.imp id fun ⟨c, q1, q2, q3⟩ => ⟨c, q1, q2, hc c _ q3⟩, r.keep (fun b ob e hb => (hs.2 b fun q => ?_).trans e) ⟨[], by simp⟩⟩;rw [q, hC] at e;cases e;obtain ⟨_, xs, m, hq⟩ := hb;rw [hd] at hq; cases hq
theorem p9 {target iter : Expr} {more : List Comprehension} {T : aZ K} {x : Str} (hi : eR K d F vals σ iter T σ1) (hself : dq K T)
  (hclos : closureFor scope F.env = pure cl) (hcl : ic F.env cl) (hfr : cF F vals cl fr) (hkind : scope.kind = .function) (hnames : ∀ y ∈ scope.names, y.2 = .local → scope.names.lookup y.1 = some .local)
  (hnocell : ∀ y ∈ scope.names, y.2 ≠ .cell) (hnod : (locs ++ fr.map (·.1)).Nodup) (hcell : ∀ p ∈ fr, (relabel scope F.env).names.lookup p.1 = some .cell)
  (hloop : ∀ (C : Addr) {A : Around} {φ : List Addr} {s : Shared} {it : Addr} {acc : Value}, bj K true d A → fY K (aW scope cl F.env (locs ++ fr.map (·.1)) C) T 0 (List.replicate locs.length none ++ fr.map fun p => some p.2.2) (σ1 ++ [.list []]) φ s it →
   RV φ s.heap (.ref σ1.length) acc → ∀ {R : Result → Shared → Prop}, (∀ φ' s' vals', jN [C] φ it s φ' s' → af K φ' σ2 s' → aM K (aW scope cl F.env (locs ++ fr.map (·.1)) C) vals' φ' s'.heap → R (.ok .next) s') →
   codeAny (model pw K.w) A (.compLoop (.ListComp elt (⟨target, iter, ifs, 0⟩ :: more) scope pos) 0 (.ref it) acc (aW scope cl F.env (locs ++ fr.map (·.1)) C).env) R s)
  (hix : F.names[ix]? = some x) (hb : F.env.kindOf x = some .local) (hP : P .next (vals.set ix (some (.ref σ1.length))) σ2)
  (hs : ∀ x, foldedSetIterable iter F.env x = pure x := by intro _; rfl) (hsw : swapsWith (.ListComp elt (⟨target, iter, ifs, 0⟩ :: more) scope pos) (some (.Name x p')) spos.line F.env = pure true := by rfl) :
  TSt K true d F vals σ (exec (.Assign [.Name x p'] (.ListComp elt (⟨target, iter, ifs, 0⟩ :: more) scope pos) spos) F.env) P := fun A φ s R G I Q E hQ => by
 rw [exec_Assign_Name_used _ _ _ _ hsw];refine za (wpAny_standAt (za ?_));show wpAny _ A (do let _ ← comprehension (.ListComp elt (⟨target, iter, ifs, 0⟩ :: more) scope pos) scope F.env _ (newList []) false (eval iter F.env) (some (assign (.Name x p') F.env))) _ _ s;refine za (zj (n8 (Q := fun _ s' => Q .next s') hi hself hclos hcl hfr hkind hnames hnocell hnod hcell hloop hs R G I fun φ' s' vals' C acc X hC hfs G' I' rr => ?_) (fun _ s' hq => zb (zb hq)) fun _ _ e => e);show wpAny _ A (assign (.Name x p') F.env acc) (fun _ s'' => ∃ m, s''.heap.Ns C m ∧ ∀ h', Heap.SameBut C s''.heap h' → Q .next { s'' with heap := h' }) E s';have hCown : C ∉ F.own := fun q => by
  obtain ⟨_, _, o, e, _⟩ := I.own C q;exact absurd (al e) (yO hC)
 refine wpAny_assign_Name (aN G' (I.ext G X) hix (.inl hb) rr fun s2 X2 G2 I2 => ?_);obtain ⟨m, ⟨o, es, n, hoC, hdC, hr⟩, _⟩ := I'.var;obtain ⟨hCh, hCφ, _⟩ := I'.own C (xm _);have hoC : s'.heap.get? C = some o := hoC;obtain ⟨o', e', hd', _⟩ := (X2.keep C o hoC hCφ hCown).data;have hd2 : o'.data = .dict es n := hd'.trans hdC;refine ⟨m, ⟨o', es, n, e', hd2, hr⟩, fun h5 hs5 => ?_⟩;have Ic : aM K ⟨(aW scope cl F.env (locs ++ fr.map (·.1)) C).env, [C], []⟩ [] φ' s2.heap := by
  refine ⟨I'.fn, I'.glb, I'.blt, .nil, xm _, fun a ha => ?_, rfl, fun y c h1 h2 => ?_, I'.inj, m, ⟨o', es, n, e', hd2, hr⟩, fun i y v h1 _ => by cases h1⟩
  ·rw [yb] at ha;subst ha;exact ⟨hCh, hCφ, o', e', fun xs m q => by (rw [hd2] at q; cases q), fun vs q => by (rw [hd2] at q; cases q)⟩
  obtain ⟨q1, q2⟩ := hcl.get (show cl.lookup y = some c from h2);obtain ⟨q3, v, oc, hoc, hdc⟩ := I2.cell y c q2 q1;exact ⟨fun q => by
   have q : c = C := q
   (rw [q, e'] at hoc; cases hoc; rw [hd2] at hdc; cases hdc), v, oc, hoc, hdc⟩
 refine hQ φ' { s2 with heap := h5 } .next .next _ σ2 ⟨fun b ob eb h1 h2 => (X.keep b ob eb h1).trans fun o1 e1 => (X2.keep b o1 e1 (X.notIn eb h1) h2).trans fun o2 e2 => .inl ((hs5.2 b (yZ (xU (al eb) hC))).trans e2), ?_, X.more⟩
  (G2.own Ic (xm _) hs5 (.inr hfs)) (I2.butD e' ⟨es, n, hd2⟩ hCown hs5) rfl hP
 show _ ≤ h5.objs.size;rw [hs5.1];exact yT X.size X2.size
theorem pa {target iter : Expr} {T : aZ K} {x : Str} (L : List Val) (p : Val → Bool) (f : Val → Val) (loc : Val → List Val)
  (hi : eR K d F vals σ iter T σ1) (hself : dq K T)
  (hclos : closureFor scope F.env = pure cl) (hcl : ic F.env cl) (hfr : cF F vals cl fr) (hkind : scope.kind = .function) (hnames : ∀ y ∈ scope.names, y.2 = .local → scope.names.lookup y.1 = some .local)
  (hnocell : ∀ y ∈ scope.names, y.2 ≠ .cell) (hnod : decide (locs ++ fr.map (·.1)).Nodup = true) (hcell : cX (relabel scope F.env) fr)
  (hT : ∀ acc, T.ok (σ1 ++ [.list acc]) ∧ ∀ (i : Nat), T.item i (σ1 ++ [.list acc]) = L[i]?) (hlet : iJ K T target) (hsz : L.length < 2 ^ 20)
  (tgt : ∀ (C : Addr) (i : Nat) (v : Val) (w : ai) (acc : List Val), L[i]? = some v → w.length = locs.length → TA K true d (aW scope cl F.env (locs ++ fr.map (·.1)) C) (w ++ fr.map fun p => some p.2.2) (σ1 ++ [.list acc]) v (assign target (aW scope cl F.env (locs ++ fr.map (·.1)) C).env)
   (fun v1 σ' => v1 = (loc v).map some ++ (fr.map fun p => some p.2.2) ∧ σ' = σ1 ++ [.list acc] ∧ (loc v).length = locs.length))
  (turn : ∀ (C : Addr) (i : Nat) (v : Val) (acc : List Val), L[i]? = some v → cW K d (aW scope cl F.env (locs ++ fr.map (·.1)) C) ((loc v).map some ++ fr.map fun p => some p.2.2) (σ1 ++ [.list acc]) ifs (p v) (σ1 ++ [.list acc]) ∧
   (p v = true → EvE K true d (aW scope cl F.env (locs ++ fr.map (·.1)) C) ((loc v).map some ++ fr.map fun p => some p.2.2) (σ1 ++ [.list acc]) elt (f v) (σ1 ++ [.list acc])))
  (hix : F.names[ix]? = some x) (hb : F.env.kindOf x = some .local) (hP : P .next (vals.set ix (some (.ref σ1.length))) (σ1 ++ [.list ((L.filter p).map f)]))
  (hs : ∀ x, foldedSetIterable iter F.env x = pure x := by intro _; rfl) (hsw : swapsWith (.ListComp elt [⟨target, iter, ifs, 0⟩] scope pos) (some (.Name x p')) spos.line F.env = pure true := by rfl) :
  TSt K true d F vals σ (exec (.Assign [.Name x p'] (.ListComp elt [⟨target, iter, ifs, 0⟩] scope pos) spos) F.env) P :=
 p9 hi hself hclos hcl hfr hkind hnames hnocell (yg hnod) hcell.all (jt L p f loc hT hlet hsz tgt turn) hix hb hP hs hsw
section
variable {prog : Program} {w : World} {A : Around} {E : Value → Shared → Prop}
theorem uk {s : Shared} (Y : MM (model prog w) s.heap) (ho : s.heap.get? a = some o) (hc : o.cls = .ref 387) {Q : Value → Shared → Prop}
  (hQ : Q (.ref s.heap.objs.size) { s with heap := s.heap.push { cls := .type "tuple_iterator", data := .fields #[.ref a, .int 0 0] } }) : wpAny (model prog w) A (pyIter (.ref a)) Q E s := by
 have t1 : Looks (model prog w) s.heap (typeOf (.ref a)) (.ref 387) := hc ▸ (Looks.ld ho).andThen .now;have it' := Y.iter;have tup := Y.tup;have inst : Looks (model prog w) s.heap (isInstance (.ref a) (.type "tuple")) true := by
  delta isInstance
  exact t1.andThen tup
 obtain ⟨hp, g, dr, tk, os⟩ := s;have bind : bindSpecial (.builtin "tuple.__iter__") (.ref a) = pure (.builtin "tuple.__iter__", [.ref a]) := PySem.F.slot_tuple_iter.bind _
 delta pyIter specialOf
 have hcall : ∀ Q' : Value → Shared → Prop, Q' (.ref hp.objs.size) ⟨hp.push { cls := .type "tuple_iterator", data := .fields #[.ref a, .int 0 0] }, g, dr, tk, os⟩ → wpAny (model prog w) A (PySem.call (.builtin "tuple.__iter__") [.ref a]) Q' E ⟨hp, g, dr, tk, os⟩ := fun Q' hq => by
  refine wpAny_call (codeAny_call_builtin PySem.F.slot_tuple_iter.plain PySem.F.entry_tuple_iter (@check_slot (model prog w) _ _ ⟨hp, g, dr, tk, os⟩ "tuple.__iter__" "tuple" "__iter__" (.ref a) [] [] _ (by decide +kernel) (by decide +kernel) inst (PySem.F.args_tuple_iter_1 _) ?_));show wpAny _ _ (do ret (← newFields "tuple_iterator" [.ref a, rawInt 0])) _ _ _;exact za (wpAny_newObj_type (zb hq))
 have nx : Looks (model prog w) (hp.push { cls := .type "tuple_iterator", data := .fields #[.ref a, .int 0 0] }) (typeOf (.ref hp.objs.size)) (.type "tuple_iterator") := (Looks.ld (xL _ rfl)).andThen .now;have nl : Looks (model prog w) (hp.push { cls := .type "tuple_iterator", data := .fields #[.ref a, .int 0 0] }) (typeLookup (.type "tuple_iterator") "__next__") (some (.builtin "tuple_iterator.__next__")) := Looks.of_pure PySem.F.slot_tuple_iterator_next.lookup;have hne : (Value.builtin "tuple.__iter__" == Value.none) = false := rfl
 repeat lk
 simp only [bind];refine wpAny_ite ?_;split
 ·refine za (zb (zb ?_))
  repeat (first | refine wpAny_ite_false (decide_eq_false fun h => xS (hne.symm.trans h)) ?_ | refine wpAny_ite_false rfl ?_ | with_reducible refine hcall _ ?_ | lk)
  exact hQ
 refine wpAny_tryCatch (za (zb (zb ?_)))
 repeat (first | refine wpAny_ite_false (decide_eq_false fun h => xS (hne.symm.trans h)) ?_ | refine wpAny_ite_false rfl ?_ | with_reducible refine hcall _ ?_ | lk)
 exact hQ
end
section
variable {prog : Program} {w : World} {A : Around} {E : Value → Shared → Prop} {s : Shared}
theorem jf {t : Addr} {ol : Obj} {x : Value} {Q : Option Value → Shared → Prop} (hit : s.heap.IsTupleIter it t i) (hol : s.heap.get? t = some ol) (hdl : ol.data = .seq xs n) (hx : xs[i]? = some x)
  (hQ : ∀ h', h'.IsTupleIter it t (i + 1) → Heap.SameBut it s.heap h' → Q (some x) { s with heap := h' }) : wpAny (model prog w) A (pyNext (.ref it)) Q E s := by
 obtain ⟨o, ho, hc, hd⟩ := id hit;refine za (wpAny_attempt (wpAny_callSpecial?_slot (name := Str.ofString "__next__") hit.typeIs PySem.F.slot_tuple_iterator_next (wpAny_call_entry PySem.F.slot_tuple_iterator_next hit.typeIs PySem.F.entry_tuple_iterator_next ?_ (PySem.F.args_tuple_iterator_next_1 _))));refine za (m := field (.ref it) 0) (wpAny_field ho hd (x := .ref t) rfl ?_);dsimp only;rw [if_neg (show ¬ ((Value.ref t == Value.none) = true) from xS)];refine za (m := field (.ref it) 1) (wpAny_field ho hd (x := .int i 0) rfl ?_);refine za (m := seqItems? (.ref t)) (wpAny_seqItems hol hdl ?_);simp only [Int.toNat_natCast, hx];refine za (wpAny_setField ho hd (by simp) (zb ⟨x, rfl, zb (hQ _ ?_ (Heap.SameBut.update ..))⟩));refine ⟨_, xv _ ho (Obj.isFreed_of_fields (Obj.data_mapFields hd _)), (Obj.cls_mapFields ..).trans hc, ?_⟩;rw [Obj.data_mapFields hd]; simp [rawInt]
theorem u6 {t : Addr} {ol : Obj} {Q : Option Value → Shared → Prop} (hh : A.handled = none) (hit : s.heap.IsTupleIter it t i) (hol : s.heap.get? t = some ol) (hdl : ol.data = .seq xs n) (hx : xs[i]? = none)
  (hQ : ∀ h', Heap.ExtBut it s.heap h' → Q none { s with heap := h' }) : wpAny (model prog w) A (pyNext (.ref it)) Q E s := by
 obtain ⟨o, ho, hc, hd⟩ := id hit;refine za (wpAny_attempt (wpAny_callSpecial?_slot (name := Str.ofString "__next__") hit.typeIs PySem.F.slot_tuple_iterator_next (wpAny_call_entry PySem.F.slot_tuple_iterator_next hit.typeIs PySem.F.entry_tuple_iterator_next ?_ (PySem.F.args_tuple_iterator_next_1 _))));refine za (m := field (.ref it) 0) (wpAny_field ho hd (x := .ref t) rfl ?_);dsimp only;rw [if_neg (show ¬ ((Value.ref t == Value.none) = true) from xS)];refine za (m := field (.ref it) 1) (wpAny_field ho hd (x := .int i 0) rfl ?_);refine za (m := seqItems? (.ref t)) (wpAny_seqItems hol hdl ?_);simp only [Int.toNat_natCast, hx];refine za (wpAny_rule (za (wpAny_setField ho hd (by simp) ?_)));refine za (m := newExc (.type "StopIteration") []) ?_;unfold newExc newTuple;refine za (wpAny_newObj_type ?_ (by size_fits));refine za (m := firstArgMember _ _) (z9 (a := Value.none) (by first | rfl | (simp only [firstArgMember]; rfl)) ?_);refine wpAny_newObj_type ?_ (by size_fits);unfold raiseNew;refine za (wpAny_handled ?_);rw [show A.in1.handled = none from hh];refine za (zb (wpAny_throw ?_));refine za (wpAny_isInstance (T := "StopIteration") (b := true) ⟨_, xL _ rfl, rfl⟩ isSubtype_stop ?_);exact zb (hQ _ (((Heap.SameBut.update ..).extBut.push _).push _))
end
theorem pQ (H : Wld K.toKB) {φ : List Addr} {s : Shared} {A : Around} {a b c : Val} {V : Value} {Q : List Value → Shared → Prop} {E : Value → Shared → Prop} (hh : A.handled = none) (G : af K φ σ s) (r : RV φ s.heap (.nt [a, b, c]) V)
  (hQ : ∀ s' Vs, Ext φ s φ s' → af K φ σ s' → RL φ s'.heap [a, b, c] Vs → Q Vs s') : wpAny (model pw K.w) A (unpackItems V 3 none) Q E s := by
 unfold RV at r;obtain ⟨t, o, n, xs, rfl, ho, hc, hd, q⟩ := r;have Y := H.mm G;have t1 : Looks (model pw K.w) s.heap (typeOf (.ref t)) (.ref 387) := hc ▸ (Looks.ld ho).andThen .now;obtain ⟨X1, X2, X3, hxs, _⟩ := dH q;have hx : ∀ i, xs[i]? = [X1, X2, X3][i]? := fun i => by rw [← xu, hxs]
 have hlt : t ≠ s.heap.objs.size := yZ (al ho)
 delta unpackItems
 refine za ?_
 delta notIterableAtAll specialOf
 refine za (za (t1.here (Y.iter.here ?_)));refine zb ?_;refine wpAny_ite_false rfl ?_;refine za (yP (uk Y ho hc ?_));have ho1 := xo { cls := .type "tuple_iterator", data := .fields #[.ref t, .int 0 0] } ho;refine aU (za (yP ?_));refine za (jf (i := 0) ⟨_, xL _ rfl, rfl, rfl⟩ ho1 hd (hx 0) fun h1 it1 hs1 => ?_);have ho2 := (hs1.2 t hlt).trans ho1;refine za (yP (za (jf (s := { s with heap := h1 }) it1 ho2 hd (hx 1) fun h2 it2 hs2 => ?_)));have ho3 := (hs2.2 t hlt).trans ho2;refine za (yP (za (jf (s := { s with heap := h2 }) it2 ho3 hd (hx 2) fun h3 it3 hs3 => ?_)));have ho4 := (hs3.2 t hlt).trans ho3;refine za (yP (zb (zb (zb (zb ?_)))));rw [if_neg (show ¬ ([X1, X2, X3].length < 3) from yQ 3)];refine za (yP (u6 (s := { s with heap := h3 }) hh it3 ho4 hd (hx 3) fun h4 hs4 => ?_));refine wpAny_ite_false rfl ?_;refine zb fun hz => ?_
 have hk : ∀ b o, s.heap.get? b = some o → h4.get? b = some o := fun b o e => by
  have hne : b ≠ s.heap.objs.size := yZ (al e);exact hs4 b o hne ((hs3.2 b hne).trans ((hs2.2 b hne).trans ((hs1.2 b hne).trans (xo _ e))))
 have hz4 : s.heap.objs.size ≤ h4.objs.size := by
  refine yT (z8 _) (yT (yV (yM ..).symm) hz)
 have X : Ext φ s φ { s with heap := h4 } := Ext.keepAll hk hz4;rw [hxs] at q;exact hQ _ _ X (G.keepAll hk hz4 rfl rfl) (q.ext G X)
theorem v9 (H : Wld K.toKB) {x y z : Str} {p1 p2 p3 tp : Pos} {k i j m : Nat} {a b c : Val} {Pu : ai → a8 → Prop} (hix : F.names[i]? = some x) (hiy : F.names[j]? = some y) (hiz : F.names[m]? = some z) (hbx : Bnd F x) (hby : Bnd F y) (hbz : Bnd F z)
  (hP : Pu (((vals.set i (some a)).set j (some b)).set m (some c)) σ) : TA K true d F vals σ (.nt [a, b, c]) (assign (.Tuple [.Name x p1, .Name y p2, .Name z p3] k tp) F.env) Pu := fun A φ s V R G I r Q E hQ => by
 show wpAny _ _ (do standAt tp; unpack V (assignEach [.Name x p1, .Name y p2, .Name z p3] F.env)) Q E s;refine za (wpAny_standAt ?_);show wpAny _ _ (do assignInOrder [assign (.Name x p1) F.env, assign (.Name y p2) F.env, assign (.Name z p3) F.env] (← holding [V] (unpackItems V 3 none))) Q E s;refine za (yP (pQ H (R.hand rfl) G r fun s1 Vs X1 G1 r1 => ?_));obtain ⟨V1, V2, V3, rfl, q1, q2, q3⟩ := dH r1;have I1 := I.ext G X1;show wpAny _ _ (do holding [V2, V3] (assign (.Name x p1) F.env V1); assignInOrder [assign (.Name y p2) F.env, assign (.Name z p3) F.env] [V2, V3]) Q E s1;refine za (yP (wpAny_assign_Name (aN G1 I1 hix hbx q1 fun s2 X2 G2 I2 => ?_)));show wpAny _ _ (do holding [V3] (assign (.Name y p2) F.env V2); assignInOrder [assign (.Name z p3) F.env] [V3]) Q E s2;refine za (yP (wpAny_assign_Name (aN G2 I2 hiy hby (q2.extS G1 I1 X2) fun s3 X3 G3 I3 => ?_)));show wpAny _ _ (do holding [] (assign (.Name z p3) F.env V3); pure ()) Q E s3;refine za (yP (wpAny_assign_Name (aN G3 I3 hiz hbz ((q3.extS G1 I1 X2).extS G2 I2 X3) fun s4 X4 G4 I4 => zb ?_)));exact hQ φ s4 _ _ ((((X1.toS _).trans X2).trans X3).trans X4) G4 I4 hP
theorem vp {k k' : Key} {s : Shared} {V1 V2 : Value} {hn : Bool} (R : bj K hn d A) (G : af K φ σ s) (r : RV φ s.heap (kv k) V1) (r' : RV φ s.heap (kv k') V2)
  (hQ : Q (.bool (kLt k k')) s) : wpAny (model pw K.w) A (richCompare .Lt V1 V2) Q E s := by
 have hu : A.units < cLine := by have := R.units; have : cLine = 9900 := rfl; exact aC ‹_› this
 obtain ⟨a, xs, rfl, x, q⟩ := RV.tup r;obtain ⟨a', xs', rfl, x', q'⟩ := RV.tup r';obtain ⟨⟨cls, dd, data, sl⟩, ho, hc, n, hd⟩ := id x;obtain ⟨⟨cls2, dd2, data2, sl2⟩, ho2, hc2, n2, hd2⟩ := id x';simp only at hc hd hc2 hd2;subst hc hd hc2 hd2;exact richCompare_meets_room (op := .Lt) ⟨_, ho, rfl⟩ ⟨_, ho2, rfl⟩ PySem.F.slot_tuple_lt PySem.F.entry_tuple_lt (PySem.F.args_tuple_lt_2 _ _) (fA a a' xs xs' n n2 dd dd2 sl sl2 k k' (dw q) (dw q')) ⟨ho, ho2, show Value.bool (kLt k k') ≠ Value.notImplemented ∧ Q (.bool (kLt k k')) s from ⟨(fun x => nomatch x), hQ⟩⟩ hu
structure MinAt (K : KC) (σ : a8) (φ : List Addr) (s0 : Shared) (ks : List Key) (k i : Nat) (I S : Addr) (m : Key) (s : Shared) : Prop where
 G : af K φ σ s
 at_ : (aQ K k ks.length).At i φ s.heap I
 best : ∃ vb c, s.heap.get? S = some { cls := .type "list", dict := none, data := .seq #[vb, vb] c, slots := #[] } ∧ RV φ s.heap (kv m) vb
 old : ∀ b o, s0.heap.get? b = some o → s.heap.get? b = some o
 mem : m ∈ ks.take i
 least : ∀ x ∈ ks.take i, kLt x m = false
theorem rK {s0 : Shared} {I S : Addr} {R : Result → Shared → Prop} (Ro : bj K true d A.in1) (hk : σ[k]? = some (.list (ks.map kv))) (hIS : I ≠ S) (hI0 : s0.heap.objs.size ≤ I) (hS0 : s0.heap.objs.size ≤ S) (hb0 : K.h0.objs.size ≤ s0.heap.objs.size) (hIφ : I ∉ φ) (hSφ : S ∉ φ)
  (hR : ∀ s' m v, af K φ σ s' → RV φ s'.heap (kv m) v → (∀ b o, s0.heap.get? b = some o → s'.heap.get? b = some o) → m ∈ ks → (∀ x ∈ ks, kLt x m = false) → R (.ok (.ret v)) s') :
  ∀ (r i : Nat) (m : Key) (s : Shared), r = ks.length - i → MinAt K σ φ s0 ks k i I S m s → codeAny (model pw K.w) A (.builtin "min.loop" ⟨[.ref I, .none, .ref S], []⟩) R s := by
 have hname : (toString "min" ++ toString ".loop" : String) = "min.loop" := by decide
 intro r
 induction r using Nat.strongRecOn with
 | ind r ih =>
  intro i m s hr M;obtain ⟨vb, c, hS, rb⟩ := M.best;obtain ⟨oI, hoI, ⟨hIc, hId⟩, hIt⟩ := (aQ K k ks.length).obj _ _ _ _ M.at_;have chg : ∀ (s4 : Shared) (h5 : Heap) (o5 : Obj) (tk : Nat), af K φ σ s4 → s4.heap.get? S = some o5 → o5.cls = .type "list" → (∀ es n, o5.data ≠ .dict es n) → Heap.SameBut S s4.heap h5 → af K φ σ { s4 with heap := h5, toks := tk } := fun s4 h5 o5 tk G4 h1 h2 h3 h4 =>
   G4.butP (bad := (· = S)) (fun a q => q ▸ ⟨hSφ, yT hb0 hS0, fun o e => by rw [h1] at e; cases e; exact ⟨⟨by rw [h2]; decide, by rw [h2]; exact nofun⟩, h3⟩⟩) (fun b o q e => (h4.2 b q).trans e) (yV h4.1.symm) rfl rfl
  refine codeAny_builtin PySem.F.entry_min_loop ?_;rw [xD PySem.F.plain_min_loop _];refine za (m := seqItems? (.ref S)) (wpAny_seqItems hS rfl ?_);have tupS : ∀ b o, s.heap.get? b = some o → (o.cls = .type "tuple" ∨ o.cls = .ref 387) → b ≠ S := fun b o e h q => by
   subst q; rw [hS] at e; cases e;rcases h with h | h
   ·exact absurd (show Value.type "list" = Value.type "tuple" from h) (by decide)
   exact nomatch (show Value.type "list" = Value.ref 387 from h)
  refine za (m := tryCatch (pyNext (.ref I)) _) (wpAny_tryCatch (aU ((aQ K k ks.length).next Ro M.G ⟨_, hk, yA ..⟩ M.at_ hIφ (fun he s4 hk4 ho4 hg4 hz4 => ?_) (fun v hv s4 V hk4 ho4 hg4 hat4 rv4 hz4 => ?_))))
  ·have hS4 := hk4 S _ (Ne.symm hIS) hS;have G4 := M.G.but hIφ (yT hb0 hI0) (fun o e => by rw [hoI] at e; cases e; exact hIt) (fun o es n e => by rw [hoI] at e; cases e; exact hId es n) hk4 hz4 ho4 hg4;have hall : ks.take i = ks := xp (by
    have h0 : (ks.map kv)[i]? = none := by
     have := he; simp only [aQ, hk] at this; exact this
    have := x8 h0;rwa [yA] at this)
   show wpAny _ A.in1 (updateSeq S (fun _ => #[]) >>= _) _ _ _;refine za ?_;refine wpAny_updateSeq hS4 rfl (za (wpAny_letGo (zb ?_)));have hsb := Heap.SameBut.update s4.heap S (Obj.mapSeq fun _ => (#[] : Array Value));have G5 := chg s4 _ _ s4.toks G4 hS4 rfl (fun es n e => nomatch e) hsb;refine hR _ m vb G5 (rb.keep (fun b o e h => (hsb.2 b (tupS b o e h.1)).trans (hk4 b o (fun q => ?_) e)) ⟨[], by simp⟩) (fun b o e => (hsb.2 b (fun q => absurd (al e) (yO (q ▸ hS0)))).trans (hk4 b o (fun q => absurd (al e) (yO (q ▸ hI0))) (M.old b o e))) (hall ▸ M.mem) (fun x hx => M.least x (hall.symm ▸ hx));subst q; rw [hoI] at e; cases e;rcases h.1 with h | h
   ·exact hIt.1 h
   exact hIt.2 h
  obtain ⟨x, hx, rfl⟩ : ∃ x, ks[i]? = some x ∧ v = kv x := by
   have h0 : (ks.map kv)[i]? = some v := by
    have := hv; simp only [aQ, hk] at this; exact this
   rw [ye] at h0;cases hx : ks[i]? with
   | none => rw [hx] at h0; cases h0
   | some x => rw [hx] at h0; cases h0; exact ⟨x, rfl, rfl⟩
  have hlt := (x7 hx).1;have htk : ks.take (i + 1) = ks.take i ++ [x] := by rw [List.take_add_one, hx]; rfl
  have hS4 := hk4 S _ (Ne.symm hIS) hS;have G4 := M.G.but hIφ (yT hb0 hI0) (fun o e => by rw [hoI] at e; cases e; exact hIt) (fun o es n e => by rw [hoI] at e; cases e; exact hId es n) hk4 hz4 ho4 hg4;have rb4 : RV φ s4.heap (kv m) vb := rb.keep (fun b o e h => hk4 b o (fun q => by
   subst q; rw [hoI] at e; cases e;rcases h.1 with h | h
   ·exact hIt.1 h
   exact hIt.2 h) e) ⟨[], by simp⟩
  have old4 : ∀ b o, s0.heap.get? b = some o → s4.heap.get? b = some o := fun b o e => hk4 b o (fun q => absurd (al e) (yO (q ▸ hI0))) (M.old b o e)
  show wpAny _ A.in1 (tryCatch (holding [V, V] (richCompare .Lt V vb >>= _)) _ >>= _) _ _ _;refine za (wpAny_tryCatch (yP (za (vp Ro G4 rv4 rb4 ?_))));refine za (yP (wpAny_truthy_bool ?_));refine za (wpAny_letGo (zb ?_));cases hb : kLt x m with
  | true =>
   refine wpAny_ite_true rfl ?_;refine za ?_;refine wpAny_updateSeq hS4 rfl (za (wpAny_letGo ?_));rw [hname];have hsb := Heap.SameBut.update s4.heap S (Obj.mapSeq fun _ => (#[V, V] : Array Value));have G5 := chg s4 _ _ s4.toks G4 hS4 rfl (fun es n e => nomatch e) hsb;have tupS4 : ∀ b o, s4.heap.get? b = some o → (o.cls = .type "tuple" ∨ o.cls = .ref 387) → b ≠ S := fun b o e h q => by
    subst q; rw [hS4] at e; cases e;rcases h with h | h
    ·exact absurd (show Value.type "list" = Value.type "tuple" from h) (by decide)
    exact nomatch (show Value.type "list" = Value.ref 387 from h)
   refine zb ⟨plainId_quiet PySem.F.plain_min_loop _, ih (ks.length - (i + 1)) (Nat.lt_of_lt_of_eq (xI _ _ hlt) hr.symm) (i + 1) x _ rfl ⟨G5, (aQ K k ks.length).stable _ _ _ _ _ _ hat4 (hsb.2 I hIS) (fun b o e h _ => (hsb.2 b (tupS4 b o e h)).trans e) ⟨[], by simp⟩, ⟨V, _, xv _ hS4 rfl, rv4.keep (fun b o e h => (hsb.2 b (tupS4 b o e h.1)).trans e) ⟨[], by simp⟩⟩,
    fun b o e => (hsb.2 b (fun q => absurd (al e) (yO (q ▸ hS0)))).trans (old4 b o e), by rw [htk]; exact xy _ (.head _), fun y hy => ?_⟩⟩
   rw [htk] at hy;rcases yd hy with hy | hy
   ·cases hyx : kLt y x with
    | false => rfl
    | true => exact absurd (cy hyx hb) (by rw [M.least y hy]; decide)
   rw [List.mem_singleton.mp hy]; exact aO x
  | false =>
   refine wpAny_ite_false rfl ?_;refine za (wpAny_letGo ?_);rw [hname];refine zb ⟨plainId_quiet PySem.F.plain_min_loop _, ih (ks.length - (i + 1)) (by lia) (i + 1) m _ rfl ⟨G4, hat4, ⟨vb, c, hS4, rb4⟩, old4, by rw [htk]; exact xE _ M.mem, fun y hy => ?_⟩⟩;rw [htk] at hy;rcases yd hy with hy | hy
   ·exact M.least y hy
   rw [List.mem_singleton.mp hy]; exact hb
def kLe (a b : Key) : Prop := kLt b a = false
theorem dj (a : Key) : kLe a a := aO a
theorem cA {a b : Key} (h : kLt a b = true) : kLe a b := eZ h
theorem mM {a b : Key} (h1 : kLe a b) (h2 : kLe b a) : a = b := by
 rcases cz a b with q | q | q
 ·rw [show kLt a b = false from h2] at q; cases q
 ·exact q
 rw [show kLt b a = false from h1] at q; cases q
theorem gX {a b : Key} (h : kLe a b) : a = b ∨ kLt a b = true := by
 rcases cz a b with q | q | q
 ·exact .inr q
 ·exact .inl q
 rw [show kLt b a = false from h] at q; cases q
theorem fa {a b c : Key} (h1 : kLe a b) (h2 : kLe b c) : kLe a c := by
 rcases gX h1 with rfl | h1
 ·exact h2
 rcases gX h2 with rfl | h2
 ·exact cA h1
 exact cA (cy h1 h2)
theorem qn (a b : Key) : kLe a b ∨ kLe b a := by
 rcases cz a b with q | q | q
 ·exact .inl (cA q)
 ·exact .inl (q ▸ dj a)
 exact .inr (cA q)
theorem ba {l : List Key} {p : Nat} (h : p < l.length) (x : Key) : gk (l.set p x) p = x := by
 unfold gk; rw [xq h]; rfl
theorem aJ {l : List Key} {p : Nat} (h : i ≠ p) (x : Key) : gk (l.set p x) i = gk l i := by
 unfold gk; rw [xF (Ne.symm h)]
theorem kM {l : List Key} (h : i < l.length) : gk l i = l[i] := by
 unfold gk; rw [xg h]; rfl
theorem kj {l : List Key} {p c : Nat} (hp : p < l.length) (hc : c < l.length) (hpc : p ≠ c) (x : Key) : List.Perm ((l.set p (gk l c)).set c x) (l.set p x) := by
 have h := List.set_set_perm (as := l.set p x) (i := p) (j := c) (by rwa [yB]) (by rwa [yB]);rw [List.getElem_set_self, List.getElem_set_ne hpc, List.set_set, ← kM hc] at h;exact h
inductive ib (r : Nat) : Nat → Prop
 | refl : ib r r
 | left {p : Nat} : ib r p → ib r (2 * p + 1)
 | right {p : Nat} : ib r p → ib r (2 * p + 2)
theorem ib.ge {p : Nat} (h : ib r p) : r ≤ p := by
 induction h with
 | refl => exact z6 _
 | left _ ih => exact yT ih zc
 | right _ ih => exact yT ih (yk zc)
theorem ib.par {p : Nat} (h : ib r p) (hp : p ≠ r) : ib r ((p - 1) / 2) := by
 cases h with
 | refl => exact absurd rfl hp
 | @left q h => rw [show (2 * q + 1 - 1) / 2 = q by exact zd]; exact h
 | @right q h => rw [show (2 * q + 2 - 1) / 2 = q by exact ze]; exact h
theorem td {l : List Key} {p : Nat} (h : ib r p) : ib r (chd l p) := by
 delta chd
 split
 ·exact .right h
 exact .left h
def b8 (l : List Key) (r : Nat) : Prop := ∀ i, 0 < i → i < l.length → r ≤ (i - 1) / 2 → kLe (gk l ((i - 1) / 2)) (gk l i)
structure oT (l : List Key) (r p : Nat) : Prop where
 lt : p < l.length
 desc : ib r p
 a : ∀ i, 0 < i → i < l.length → r ≤ (i - 1) / 2 → i ≠ p → (i - 1) / 2 ≠ p → kLe (gk l ((i - 1) / 2)) (gk l i)
 b : p ≠ r → ∀ c, 0 < c → c < l.length → (c - 1) / 2 = p → kLe (gk l ((p - 1) / 2)) (gk l c)
theorem tZ (l : List Key) (p : Nat) (h : oT l r p) : oT (su l p).1 r (su l p).2 ∧ (su l p).1.length ≤ 2 * (su l p).2 + 1 ∧ (∀ x, List.Perm ((su l p).1.set (su l p).2 x) (l.set p x)) := by
 induction l, p using qY with
 | case2 l p hc =>
  rw [ma, if_neg hc];exact ⟨h, by show l.length ≤ 2 * p + 1; exact Nat.le_of_not_lt ‹_›, fun x => .refl _⟩
 | case1 l p hc ih =>
  rw [ma, if_pos hc];have hcl := oK hc;have hcg := fV l p;have hcd : chd l p = 2 * p + 1 ∨ chd l p = 2 * p + 2 := by unfold chd; split <;> simp
  have hmin : ∀ i, 0 < i → i < l.length → (i - 1) / 2 = p → kLe (gk l (chd l p)) (gk l i) := by
   intro i h0 hi hip;have : i = 2 * p + 1 ∨ i = 2 * p + 2 := by exact zm h0 hip
   delta chd
   split
   ·rename_i q;rcases this with rfl | rfl
    ·exact q.2
    exact dj _
   rename_i q;rcases this with rfl | rfl
   ·exact dj _
   have : kLt (gk l (2 * p + 1)) (gk l (2 * p + 2)) = true := by
    cases hb : kLt (gk l (2 * p + 1)) (gk l (2 * p + 2)) with
    | true => rfl
    | false => exact absurd ⟨hi, hb⟩ q
   exact cA this
  generalize hcc : chd l p = c at *;have hpc : (c - 1) / 2 = p := by exact zf hcd
  suffices hH : oT (l.set p (gk l c)) r c by
   obtain ⟨i1, i2, i3⟩ := ih hH;exact ⟨i1, i2, fun x => (i3 x).trans (kj h.lt hcl (yZ ‹_›) x)⟩
  refine ⟨by rw [yB]; exact hcl, by rw [← hcc]; exact td h.desc, ?_, ?_⟩
  ·intro i h0 hi hr hic hpi;rw [yB] at hi;by_cases hip : i = p
   ·subst hip;rw [ba h.lt, aJ (zi h0)];exact h.b (yY (xV hr (zg h0))) c (yW ‹_› ‹_›) hcl hpc
   rw [aJ hip];by_cases hq : (i - 1) / 2 = p
   ·rw [hq, ba h.lt];exact hmin i h0 hi hq
   rw [aJ hq];exact h.a i h0 hi hr hip hq
  intro _ e h0 he hpe;rw [yB] at he;rw [hpc, ba h.lt, aJ (yY (xU hcg (zh hpe))), ← hpe];have := h.desc.ge;exact h.a e h0 he (by exact hpe.symm ▸ yT this (yU hcg)) (by lia) (by exact hpe.symm ▸ yY hcg)
theorem u9 (x : Key) (l : List Key) (p : Nat) (h : oT l r p) (hc : ∀ c, 0 < c → c < l.length → (c - 1) / 2 = p → kLe x (gk l c)) : b8 (sd x r l p) r ∧ List.Perm (sd x r l p) (l.set p x) := by
 have stay : (p = r ∨ kLe (gk l ((p - 1) / 2)) x) → b8 (l.set p x) r := by
  intro hq i h0 hi hr;rw [yB] at hi;by_cases hip : i = p
  ·subst hip;rw [ba h.lt, aJ (zi h0)];exact hq.resolve_left (yY (xV hr (zg h0)))
  rw [aJ hip];by_cases hpp : (i - 1) / 2 = p
  ·rw [hpp, ba h.lt];exact hc i h0 hi hpp
  rw [aJ hpp];exact h.a i h0 hi hr hip hpp
 induction l, p using rj x r with
 | case2 l p hpr hl => rw [jh, if_pos hpr, if_neg hl]; exact ⟨stay (.inr (by unfold kLe; simpa using hl)), .refl _⟩
 | case3 l p hpr =>
  rw [jh, if_neg hpr];have := h.desc.ge;exact ⟨stay (.inl (yE (yS hpr) this)), .refl _⟩
 | case1 l p hpr hl ih =>
  rw [jh, if_pos hpr, if_pos hl];have hgd := h.desc.par (yY ‹_›);have hg := hgd.ge;generalize hgg : (p - 1) / 2 = g at *;have hlt := h.lt;have hgl : g < l.length := by exact xV (zh hgg) hlt
  have hH : oT (l.set p (gk l g)) r g := by
   refine ⟨by rw [yB]; exact hgl, hgd, ?_, ?_⟩
   ·intro i h0 hi hr hig hpi;rw [yB] at hi;by_cases hip : i = p
    ·subst hip; exact absurd hgg hpi
    rw [aJ hip];by_cases hq : (i - 1) / 2 = p
    ·rw [hq, ba hlt];have := h.b (yY hpr) i h0 hi hq;rwa [hgg] at this
    rw [aJ hq];exact h.a i h0 hi hr hip hq
   intro hgr c h0 hcl hcg;rw [yB] at hcl;rw [aJ (yZ (xU (zg (zq hg hgr)) (zh hgg)))];have hd2 := (hgd.par hgr).ge;have h1 : kLe (gk l ((g - 1) / 2)) (gk l g) := h.a g (zq hg hgr) hgl hd2 (fun e => zi hpr (hgg.trans e)) (yZ (xU (zg (zq hg hgr)) (zh hgg)));by_cases hcp : c = p
   ·subst hcp; rw [ba hlt]; exact h1
   rw [aJ hcp];have h2 := h.a c h0 hcl (by exact hcg.symm ▸ hg) hcp (fun e => zi hpr (hgg.trans (hcg.symm.trans e)));rw [hcg] at h2;exact fa h1 h2
  have hc' : ∀ c, 0 < c → c < (l.set p (gk l g)).length → (c - 1) / 2 = g → kLe x (gk (l.set p (gk l g)) c) := by
   intro c h0 hcl hcg;rw [yB] at hcl;by_cases hcp : c = p
   ·subst hcp; rw [ba hlt]; exact cA hl
   rw [aJ hcp];have h2 := h.a c h0 hcl (by exact hcg.symm ▸ hg) hcp (by lia);rw [hcg] at h2;exact fa (cA hl) h2
  obtain ⟨i1, i2⟩ := ih hH hc' (by
   intro hq i h0 hi hr;rw [yB] at hi;by_cases hip : i = g
   ·subst hip;rw [ba hH.lt, aJ (by lia)];exact hq.resolve_left (by lia)
   rw [aJ hip];by_cases hpp : (i - 1) / 2 = g
   ·rw [hpp, ba hH.lt];exact hc' i h0 hi hpp
   rw [aJ hpp];exact hH.a i h0 hi hr hip hpp)
  exact ⟨i1, i2.trans (kj hlt hgl (fun e => zi hpr (hgg.trans e.symm)) x)⟩
theorem ip {l : List Key} {p : Nat} (hp : p < l.length) (h : b8 l (p + 1)) : b8 (cg l p) p ∧ List.Perm (cg l p) l := by
 have hH : oT l p p := ⟨hp, .refl, fun i h0 hi hr _ hq => h i h0 hi (yc hr hq.symm), fun q => absurd rfl q⟩
 obtain ⟨s1, s2, s3⟩ := tZ l p hH
 delta cg
 have hq := s1.lt;have hH2 : oT ((su l p).1.set (su l p).2 (gk l p)) p (su l p).2 := by
  refine ⟨by rw [yB]; exact hq, s1.desc, fun i h0 hi hr h1 h2 => ?_, fun _ c h0 hc hpc => ?_⟩
  ·rw [yB] at hi;rw [aJ h1, aJ h2];exact s1.a i h0 hi hr h1 h2
  rw [yB] at hc;exact (zn h0 hc s2 hpc).elim
 obtain ⟨d1, d2⟩ := u9 (gk l p) _ _ hH2 (fun c h0 hc hpc => by rw [yB] at hc; exact (zn h0 hc s2 hpc).elim);refine ⟨d1, d2.trans ?_⟩;rw [List.set_set];refine (s3 _).trans ?_;rw [kM hp, List.set_getElem_self]
theorem sj (l : List Key) : b8 (bJ l) 0 ∧ List.Perm (bJ l) l := by
 have go : ∀ j, j ≤ l.length / 2 → b8 (hpf l j) (l.length / 2 - j) ∧ List.Perm (hpf l j) l := by
  intro j
  induction j with
  | zero => exact fun _ => ⟨fun i h0 hi hr => by have hi : i < l.length := hi; exact (zr h0 hr hi).elim, .refl _⟩
  | succ j ih =>
   intro hj;obtain ⟨i1, i2⟩ := ih (yU ‹_›);have hl := iV l j (Nat.le_of_succ_le hj);obtain ⟨s1, s2⟩ := ip (l := hpf l j) (p := l.length / 2 - 1 - j) (zs hj hl) (by rw [show l.length / 2 - 1 - j + 1 = l.length / 2 - j by exact sX hj]; exact i1);show b8 (cg (hpf l j) (l.length / 2 - 1 - j)) _ ∧ List.Perm (cg (hpf l j) (l.length / 2 - 1 - j)) l;rw [show l.length / 2 - (j + 1) = l.length / 2 - 1 - j by exact sAA];exact ⟨s1, s2.trans i2⟩
 obtain ⟨h1, h2⟩ := go _ (z6 _);rw [z5] at h1;exact ⟨h1, h2⟩
theorem b8.min {l : List Key} (h : b8 l 0) : ∀ i, i < l.length → kLe (gk l 0) (gk l i) := by
 intro i
 induction i using Nat.strongRecOn with
 | ind i ih =>
  intro hi;by_cases h0 : i = 0
  ·subst h0; exact dj _
  exact fa (ih ((i - 1) / 2) (zg (Nat.pos_of_ne_zero h0)) (zl hi)) (h i (Nat.pos_of_ne_zero ‹_›) hi (z7 _))
theorem ug {h : List Key} (hp : b8 h 0) (hne : h ≠ []) : b8 (de h).2 0 ∧ List.Perm ((de h).1 :: (de h).2) h ∧ ∀ x ∈ h, kLe (de h).1 x := by
 rcases xA h with rfl | ⟨l, x, e⟩
 ·exact absurd rfl hne
 rw [xz] at e;subst e;have e : de (l ++ [x]) = fG l x := by
  delta de
  rw [List.getLast?_concat];show fG (l ++ [x]).dropLast x = _;rw [xJ]
 rw [e]
 delta fG
 by_cases hl : l = []
 ·subst hl;rw [if_pos rfl];exact ⟨hp_nil, .refl _, fun y hy => by simp at hy; subst hy; exact dj _⟩
 rw [if_neg hl];have hlp := List.length_pos_iff.mpr hl;have hg : ∀ i, i < l.length → gk (l ++ [x]) i = gk l i := fun i hi => by unfold gk; rw [xc hi]
 have hs : b8 (l.set 0 x) 1 := fun i h0 hi hr => by
  rw [yB] at hi;rw [aJ (yY ‹_›), aJ (yY ‹_›)];have := hp i h0 (by rw [xR]; exact yl ‹_›) (z7 _);rwa [hg _ (zl hi), hg _ hi] at this
 obtain ⟨s1, s2⟩ := ip (l := l.set 0 x) (p := 0) (by rw [yB]; exact hlp) hs;have hperm : List.Perm (gk l 0 :: cg (l.set 0 x) 0) (l ++ [x]) := by
  refine (s2.cons _).trans ?_;obtain ⟨a, t, rfl⟩ := List.exists_cons_of_ne_nil hl;show List.Perm (a :: x :: t) (a :: (t ++ [x]));exact (List.perm_append_comm (l₁ := [x]) (l₂ := t)).cons a
 refine ⟨s1, hperm, fun y hy => ?_⟩;obtain ⟨i, hi, rfl⟩ := xQ hy;rw [← kM hi];have := hp.min i hi;rwa [hg 0 hlp] at this
where hp_nil : b8 [] 0 := fun i _ hi => by simp at hi
theorem pg {h : List Key} (hp : b8 h 0) : ∀ j, j ≤ h.length → b8 (bn j h).2 0 ∧ List.Perm ((bn j h).1 ++ (bn j h).2) h ∧ (bn j h).1.Pairwise kLe ∧ ∀ a ∈ (bn j h).1, ∀ b ∈ (bn j h).2, kLe a b
 | 0, _ => ⟨hp, .refl _, .nil, fun a ha => by cases ha⟩
 | j + 1, hj => by
  obtain ⟨i1, i2, i3, i4⟩ := pg hp j (yU ‹_›);obtain ⟨l1, l2⟩ := gi h j;obtain ⟨p1, p2, p3⟩ := ug i1 (fun q => by rw [q] at l2; simp at l2; exact yQ _ (xU hj (Nat.le_of_sub_eq_zero l2.symm)));show b8 (de (bn j h).2).2 0 ∧ List.Perm (((bn j h).1 ++ [(de (bn j h).2).1]) ++ (de (bn j h).2).2) h ∧ ((bn j h).1 ++ [(de (bn j h).2).1]).Pairwise kLe ∧ ∀ a ∈ (bn j h).1 ++ [(de (bn j h).2).1], ∀ b ∈ (de (bn j h).2).2, kLe a b;have hm : ∀ y, y ∈ (bn j h).2 ↔ y = (de (bn j h).2).1 ∨ y ∈ (de (bn j h).2).2 := fun y => by rw [← p2.mem_iff, List.mem_cons]
  refine ⟨p1, ?_, ?_, ?_⟩
  ·rw [yf];exact (p2.append_left _).trans i2
  ·rw [List.pairwise_append];refine ⟨i3, List.pairwise_singleton .., fun a ha b hb => ?_⟩;rw [yb] at hb;exact i4 a ha b ((hm b).mpr (.inl hb))
  intro a ha b hb;rcases yd ha with q | q
  ·exact i4 a q b ((hm b).mpr (.inr hb))
  rw [yb] at q;subst q;exact p3 b ((hm b).mpr (.inr hb))
theorem ub (l : List Key) : List.Perm (jj l) l ∧ (jj l).Pairwise kLe := by
 obtain ⟨h1, h2⟩ := sj l;obtain ⟨_, q2, q3, _⟩ := pg h1 l.length (yV h2.length_eq.symm);refine ⟨?_, q3⟩;have hl := (gi (bJ l) l.length).2;rw [h2.length_eq, z5] at hl;rw [x6 hl, yG] at q2;exact q2.trans h2
theorem vO {m : Key} (hk : σ[k]? = some (.list (ks.map kv))) (hm : m ∈ ks) (hl : ∀ x ∈ ks, kLe m x) : PC K true (d + 1) σ (.builtin "min") [.ref k] [] (kv m) σ := fun A φ s Vs Ws R G r1 r2 Q E hQ => by
 have hname : (toString "min" ++ toString ".loop" : String) = "min.loop" := by decide
 obtain ⟨V, rfl, r⟩ := fK r1;unfold RL at r2;subst r2;have Ro : bj K true d A.in1 := ⟨R.hand, R.frames, by have := R.depth; show A.depth + d < 990; exact yU ‹_›, by have := R.units; show A.units + 1 + 60 * d + 100 < 9000; exact aD this (by decide)⟩
 refine aU (call_function_tree PySem.F.kind_min PySem.F.plain_min PySem.F.entry_min (PySem.F.args_min1 _) ?_);show wpAny _ A.in1 (Builtin.Builtins.bindParams "min" ["key", "default"] 0 ⟨[], []⟩ >>= _) _ _ s;refine za (z9 (show Builtin.Builtins.bindParams "min" ["key", "default"] 0 ⟨[], []⟩ = pure [none, none] from rfl) ?_);refine za (zb ?_);refine za (aU (bb hk A.in1 φ s V d Ro G r _ _ fun s1 I hk1 ho1 hg1 hI1 hat1 hz1 => ?_));refine za (wpAny_newObj_type ?_);rw [hname];have G1 := G.keepAll hk1 hz1 ho1 hg1;have hlen : (ks.map kv).length = ks.length := yA ..
 rw [hlen] at hat1;obtain ⟨oI, hoI, ⟨hIc, hId⟩, hIt⟩ := (aQ K k ks.length).obj _ _ _ _ hat1;have hIlt : I < s1.heap.objs.size := al hoI;have hIφ : I ∉ φ := fun q => absurd (G.hi I q).2 (yO hI1)
 have hSφ : s1.heap.objs.size ∉ φ := fun q => absurd (G1.hi _ q).2 (yQ _)
 have hb0 := G.grown;have hIS : I ≠ s1.heap.objs.size := yZ hIlt;refine zb ⟨plainId_quiet PySem.F.plain_min_loop _, ?_⟩;have gS : (s1.heap.push { cls := .type "list", dict := none, data := .seq #[] 0, slots := #[] }).get? s1.heap.objs.size = some { cls := .type "list", dict := none, data := .seq #[] 0, slots := #[] } := xL _ rfl;have gI : (s1.heap.push { cls := .type "list", dict := none, data := .seq #[] 0, slots := #[] }).get? I = some oI := xo _ hoI;have G2 := G1.keepAll (s' := { s1 with heap := s1.heap.push { cls := .type "list", dict := none, data := .seq #[] 0, slots := #[] } }) (fun b o e => xo _ e) (by show _ ≤ (s1.heap.push _).objs.size; rw [size_push']; exact z8 _) rfl rfl;have hat2 := (aQ K k ks.length).stable _ _ φ _ (s1.heap.push { cls := .type "list", dict := none, data := .seq #[] 0, slots := #[] }) _ hat1 (gI.trans hoI.symm) (fun b o e _ _ => xo _ e) ⟨[], by simp⟩;refine codeAny_builtin PySem.F.entry_min_loop ?_;rw [xD PySem.F.plain_min_loop _];refine za (m := seqItems? (.ref s1.heap.objs.size)) (wpAny_seqItems gS rfl ?_);refine za (m := tryCatch (pyNext (.ref I)) _) (wpAny_tryCatch (aU ((aQ K k ks.length).next Ro G2 ⟨_, hk, hlen⟩ hat2 hIφ (fun he s4 hk4 ho4 hg4 hz4 => ?_) (fun v hv s4 V hk4 ho4 hg4 hat4 rv4 hz4 => ?_))))
 ·exfalso;have h0 : (ks.map kv)[0]? = none := by
   have := he; simp only [aQ, hk] at this; exact this
  have := x8 h0;rw [hlen] at this;cases ks with
  | nil => cases hm
  | cons a l => simp at this
 obtain ⟨x, hx, rfl⟩ : ∃ x, ks[0]? = some x ∧ v = kv x := by
  have h0 : (ks.map kv)[0]? = some v := by
   have := hv; simp only [aQ, hk] at this; exact this
  rw [ye] at h0;cases hx : ks[0]? with
  | none => rw [hx] at h0; cases h0
  | some x => rw [hx] at h0; cases h0; exact ⟨x, rfl, rfl⟩
 have htk : ks.take 1 = [x] := by
  cases ks with
  | nil => cases hx
  | cons a l => cases hx; rfl
 have hS4 := hk4 _ _ (Ne.symm hIS) gS;have G4 := G2.but hIφ (yT hb0 hI1) (fun o e => by rw [gI] at e; cases e; exact hIt) (fun o es n e => by rw [gI] at e; cases e; exact hId es n) hk4 hz4 ho4 hg4;have old4 : ∀ b o, s.heap.get? b = some o → s4.heap.get? b = some o := fun b o e => hk4 b o (fun q => absurd (al e) (yO (q ▸ hI1))) (xo _ (hk1 b o e))
 have hS0 : s.heap.objs.size ≤ s1.heap.objs.size := hz1;refine za (m := updateSeq s1.heap.objs.size (fun _ => #[V, V])) ?_;refine wpAny_updateSeq hS4 rfl ?_;rw [hname];have hsb := Heap.SameBut.update s4.heap s1.heap.objs.size (Obj.mapSeq fun _ => (#[V, V] : Array Value));have tupS4 : ∀ b o, s4.heap.get? b = some o → (o.cls = .type "tuple" ∨ o.cls = .ref 387) → b ≠ s1.heap.objs.size := fun b o e h q => by
  subst q; rw [hS4] at e; cases e;rcases h with h | h
  ·exact absurd (show Value.type "list" = Value.type "tuple" from h) (by decide)
  exact nomatch (show Value.type "list" = Value.ref 387 from h)
 have G5 : af K φ σ { s4 with heap := s4.heap.update s1.heap.objs.size (Obj.mapSeq fun _ => (#[V, V] : Array Value)) } :=
  G4.butP (bad := (· = s1.heap.objs.size)) (fun a q => q ▸ ⟨hSφ, yT hb0 hS0, fun o e => by rw [hS4] at e; cases e; exact ⟨⟨by decide, nofun⟩, nofun⟩⟩) (fun b o q e => (hsb.2 b q).trans e) (yV hsb.1.symm) rfl rfl
 refine zb ⟨plainId_quiet PySem.F.plain_min_loop _, rK (s0 := s) Ro hk hIS hI1 hS0 hb0 hIφ hSφ (fun s' m' v G' r' old' hm' hl' => ?_) _ 1 x _ rfl ⟨G5, (aQ K k ks.length).stable _ _ _ _ _ _ hat4 (hsb.2 I hIS) (fun b o e h _ => (hsb.2 b (tupS4 b o e h)).trans e) ⟨[], by simp⟩,
  ⟨V, _, xv _ hS4 rfl, rv4.keep (fun b o e h => (hsb.2 b (tupS4 b o e h.1)).trans e) ⟨[], by simp⟩⟩, fun b o e => (hsb.2 b (fun q => absurd (al e) (yO (q ▸ hS0)))).trans (old4 b o e), by rw [htk]; exact .head _, fun y hy => ?_⟩⟩
 ·have em : m' = m := mM (hl' m hm) (hl m' hm');subst em;exact fun hz => hQ φ s' v (Ext.keepAll old' hz) G' r'
 rw [htk] at hy;rw [List.mem_singleton.mp hy]; exact aO x
theorem iF {target iter : Expr} {T : aZ K} (L : List Val) (p : Val → Bool) (f : Val → Val) (loc : Val → List Val)
  (hT : ∀ acc, T.ok (σ1 ++ [.list acc]) ∧ ∀ (i : Nat), T.item i (σ1 ++ [.list acc]) = L[i]?) (hlet : iJ K T target) (hsz : L.length < 2 ^ 20)
  (tgt : ∀ (C : Addr) (i : Nat) (v : Val) (w : ai) (acc : List Val), L[i]? = some v → w.length = locs.length → TA K true d (aW scope cl F.env (locs ++ fr.map (·.1)) C) (w ++ fr.map fun p => some p.2.2) (σ1 ++ [.list acc]) v (assign target (aW scope cl F.env (locs ++ fr.map (·.1)) C).env)
   (fun v1 σ' => v1 = (loc v).map some ++ (fr.map fun p => some p.2.2) ∧ σ' = σ1 ++ [.list acc] ∧ (loc v).length = locs.length))
  (turn : ∀ (C : Addr) (i : Nat) (v : Val) (acc : List Val), acc = ((L.take i).filter p).map f → L[i]? = some v → cW K d (aW scope cl F.env (locs ++ fr.map (·.1)) C) ((loc v).map some ++ fr.map fun p => some p.2.2) (σ1 ++ [.list acc]) ifs (p v) (σ1 ++ [.list acc]) ∧
   (p v = true → EvE K true d (aW scope cl F.env (locs ++ fr.map (·.1)) C) ((loc v).map some ++ fr.map fun p => some p.2.2) (σ1 ++ [.list acc]) elt (f v) (σ1 ++ [.list acc])))
  (C : Addr) {A : Around} {φ : List Addr} {s : Shared} {it : Addr} {acc : Value} (Ro : bj K true d A) (L0 : fY K (aW scope cl F.env (locs ++ fr.map (·.1)) C) T 0 (List.replicate locs.length none ++ fr.map fun p => some p.2.2) (σ1 ++ [.list []]) φ s it)
  (racc : RV φ s.heap (.ref σ1.length) acc) {R : Result → Shared → Prop} (hR : ∀ φ' s' vals', jN [C] φ it s φ' s' → af K φ' (σ1 ++ [.list ((L.filter p).map f)]) s' → aM K (aW scope cl F.env (locs ++ fr.map (·.1)) C) vals' φ' s'.heap → R (.ok .next) s') :
  codeAny (model pw K.w) A (.compLoop (.ListComp elt [⟨target, iter, ifs, 0⟩] scope pos) 0 (.ref it) acc (aW scope cl F.env (locs ++ fr.map (·.1)) C).env) R s := by
 refine dP (j6 ..) (LfJ L p f σ1 locs fr) (fun i v s ⟨_, w, _, _, e⟩ => e ▸ (hT _).1) hlet (fun i v0 s v j hv => ?_) Ro L0 racc
  ⟨z7 _, _, List.length_replicate, rfl, rfl⟩ fun φ' s' v' σ' i' X G' I' j he => hR φ' s' v' X ?_ I'
 ·obtain ⟨hi, w, hw, rfl, rfl⟩ := j;rw [(hT _).2] at hv;have hlt := (x7 hv).1;have htk : L.take (i + 1) = L.take i ++ [v] := ah hv;intro A φ s V R G I r Q E hQ;refine tgt C i v w _ hv hw A φ s V R G I r Q E fun φ' s' vals' σ' X' G' I' h => ?_
  obtain ⟨rfl, rfl, hll⟩ := h;obtain ⟨t1, t2⟩ := turn C i v (((L.take i).filter p).map f) rfl hv;refine hQ φ' s' _ _ X' G' I' (ff ⟨p v, _, t1, fun hb => ?_, fun hb => ?_⟩)
  ·exact ⟨hlt, (loc v).map some, by rw [yA, hll], rfl, by rw [htk, xZ]; simp [hb]⟩
  refine ⟨f v, _, ((L.take i).filter p).map f, t2 hb, ae .., ?_, hlt, (loc v).map some, by rw [yA, hll], rfl, ?_⟩
  ·have h1 := xw p (L.take i);rw [yn] at h1;rw [yA]; exact xV (yT h1 (yo ..)) hsz
  rw [htk, xZ];simp [hb]
 obtain ⟨_, w, _, _, e⟩ := j;rw [e, (hT _).2] at he;rw [e, xp (x8 he)] at G';exact G'
theorem pE {target iter : Expr} {T : aZ K} (L : List Val) (p : Val → Bool) (f : Val → Val) (loc : Val → List Val)
  (hi : eR K d F vals σ iter T σ1) (hself : dq K T)
  (hclos : closureFor scope F.env = pure cl) (hcl : ic F.env cl) (hfr : cF F vals cl fr) (hkind : scope.kind = .function) (hnames : ∀ y ∈ scope.names, y.2 = .local → scope.names.lookup y.1 = some .local)
  (hnocell : ∀ y ∈ scope.names, y.2 ≠ .cell) (hnod : decide (locs ++ fr.map (·.1)).Nodup = true) (hcell : cX (relabel scope F.env) fr)
  (hT : ∀ acc, T.ok (σ1 ++ [.list acc]) ∧ ∀ (i : Nat), T.item i (σ1 ++ [.list acc]) = L[i]?) (hlet : iJ K T target) (hsz : L.length < 2 ^ 20)
  (tgt : ∀ (C : Addr) (i : Nat) (v : Val) (w : ai) (acc : List Val), L[i]? = some v → w.length = locs.length → TA K true d (aW scope cl F.env (locs ++ fr.map (·.1)) C) (w ++ fr.map fun p => some p.2.2) (σ1 ++ [.list acc]) v (assign target (aW scope cl F.env (locs ++ fr.map (·.1)) C).env)
   (fun v1 σ' => v1 = (loc v).map some ++ (fr.map fun p => some p.2.2) ∧ σ' = σ1 ++ [.list acc] ∧ (loc v).length = locs.length))
  (turn : ∀ (C : Addr) (i : Nat) (v : Val) (acc : List Val), acc = ((L.take i).filter p).map f → L[i]? = some v → cW K d (aW scope cl F.env (locs ++ fr.map (·.1)) C) ((loc v).map some ++ fr.map fun p => some p.2.2) (σ1 ++ [.list acc]) ifs (p v) (σ1 ++ [.list acc]) ∧
   (p v = true → EvE K true d (aW scope cl F.env (locs ++ fr.map (·.1)) C) ((loc v).map some ++ fr.map fun p => some p.2.2) (σ1 ++ [.list acc]) elt (f v) (σ1 ++ [.list acc])))
  (hs : ∀ x, foldedSetIterable iter F.env x = pure x := by intro _; rfl) : EvE K true d F vals σ (.ListComp elt [⟨target, iter, ifs, 0⟩] scope pos) (.ref σ1.length) (σ1 ++ [.list ((L.filter p).map f)]) :=
 iX hi hself hclos hcl hfr hkind hnames hnocell (yg hnod) hcell.all (iF L p f loc hT hlet hsz tgt turn) hs
theorem ll {target iter : Expr} {T : aZ K} {x : Str} (L : List Val) (p : Val → Bool) (f : Val → Val) (loc : Val → List Val)
  (hi : eR K d F vals σ iter T σ1) (hself : dq K T)
  (hclos : closureFor scope F.env = pure cl) (hcl : ic F.env cl) (hfr : cF F vals cl fr) (hkind : scope.kind = .function) (hnames : ∀ y ∈ scope.names, y.2 = .local → scope.names.lookup y.1 = some .local)
  (hnocell : ∀ y ∈ scope.names, y.2 ≠ .cell) (hnod : decide (locs ++ fr.map (·.1)).Nodup = true) (hcell : cX (relabel scope F.env) fr)
  (hT : ∀ acc, T.ok (σ1 ++ [.list acc]) ∧ ∀ (i : Nat), T.item i (σ1 ++ [.list acc]) = L[i]?) (hlet : iJ K T target) (hsz : L.length < 2 ^ 20)
  (tgt : ∀ (C : Addr) (i : Nat) (v : Val) (w : ai) (acc : List Val), L[i]? = some v → w.length = locs.length → TA K true d (aW scope cl F.env (locs ++ fr.map (·.1)) C) (w ++ fr.map fun p => some p.2.2) (σ1 ++ [.list acc]) v (assign target (aW scope cl F.env (locs ++ fr.map (·.1)) C).env)
   (fun v1 σ' => v1 = (loc v).map some ++ (fr.map fun p => some p.2.2) ∧ σ' = σ1 ++ [.list acc] ∧ (loc v).length = locs.length))
  (turn : ∀ (C : Addr) (i : Nat) (v : Val) (acc : List Val), acc = ((L.take i).filter p).map f → L[i]? = some v → cW K d (aW scope cl F.env (locs ++ fr.map (·.1)) C) ((loc v).map some ++ fr.map fun p => some p.2.2) (σ1 ++ [.list acc]) ifs (p v) (σ1 ++ [.list acc]) ∧
   (p v = true → EvE K true d (aW scope cl F.env (locs ++ fr.map (·.1)) C) ((loc v).map some ++ fr.map fun p => some p.2.2) (σ1 ++ [.list acc]) elt (f v) (σ1 ++ [.list acc])))
  (hix : F.names[ix]? = some x) (hb : F.env.kindOf x = some .local) (hP : P .next (vals.set ix (some (.ref σ1.length))) (σ1 ++ [.list ((L.filter p).map f)]))
  (hs : ∀ x, foldedSetIterable iter F.env x = pure x := by intro _; rfl) (hsw : swapsWith (.ListComp elt [⟨target, iter, ifs, 0⟩] scope pos) (some (.Name x p')) spos.line F.env = pure true := by rfl) :
  TSt K true d F vals σ (exec (.Assign [.Name x p'] (.ListComp elt [⟨target, iter, ifs, 0⟩] scope pos) spos) F.env) P :=
 p9 hi hself hclos hcl hfr hkind hnames hnocell (yg hnod) hcell.all (iF L p f loc hT hlet hsz tgt turn) hix hb hP hs hsw
noncomputable def msk (nl : Nat) (S T : List Key) : List Val := S.map fun k => if k ∈ T then Val.ref nl else kv k
noncomputable def mix (nl : Nat) (S T : List Key) (k : Key) (q : Nat) : List Val := (msk nl S (T ++ [k])).take q ++ (msk nl S T).drop q
noncomputable def cd1 (A E : List Key) : Nat → List (Nat × Nat × Key)
 | 0 => []
 | i + 1 => match A[i]? with
  | some k => if k ∈ A.take i ∨ A.count k = E.count k then cd1 A E i else cd1 A E i ++ [(A.count k, E.count k, k)]
  | none => cd1 A E i
noncomputable def cd2 (A E : List Key) : Nat → List (Nat × Nat × Key)
 | 0 => []
 | i + 1 => match E[i]? with
  | some k => if k ∈ A ∨ k ∈ E.take i then cd2 A E i else cd2 A E i ++ [(0, E.count k, k)]
  | none => cd2 A E i
noncomputable def mmV (c : Nat × Nat × Key) : Val := .nt [.int (c.1 : Int), .int (c.2.1 : Int), kv c.2.2]
section
variable {nl : Nat} {S T : List Key} {k : Key} {q : Nat}
theorem dX : (msk nl S T).length = S.length := by unfold msk; rw [yA]
theorem dB : (msk nl S T)[q]? = (S[q]?).map fun k => if k ∈ T then Val.ref nl else kv k := by unfold msk; rw [ye]
theorem un : msk nl S [] = S.map kv := by unfold msk; exact xP fun k _ => if_neg (by simp)
theorem eX (h : q ≤ S.length) : (mix nl S T k q).length = S.length := by
 unfold mix;rw [xR, yn, yr, dX, dX]; exact (congrArg (· + _) (yI h)).trans (sG h)
theorem eY (h : q ≤ S.length) (j : Nat) : (mix nl S T k q)[j]? = if j < q then (msk nl S (T ++ [k]))[j]? else (msk nl S T)[j]? := by
 unfold mix;have hl : ((msk nl S (T ++ [k])).take q).length = q := by rw [yn, dX]; exact yI h
 by_cases hj : j < q
 ·rw [if_pos hj, xc (by rw [hl]; exact hj), xj hj]
 rw [if_neg hj, x9 (by rw [hl]; exact Nat.le_of_not_lt ‹_›), hl, List.getElem?_drop, show q + (j - q) = j by exact sG (yS hj)]
theorem gT (h : q ≤ S.length) (ht : ∀ j < q, ∀ x, S[j]? = some x → x ∈ T) : mix nl S T k q = msk nl S T := by
 apply List.ext_getElem?;intro j;rw [eY h];split
 ·rename_i hj;rw [dB, dB];cases hx : S[j]? with
  | none => rfl
  | some x => have := ht j hj x hx; simp [this]
 rfl
theorem lA : mix nl S T k S.length = msk nl S (T ++ [k]) := by
 unfold mix;rw [xp (by rw [dX]; exact z6 _), List.drop_eq_nil_of_le (by rw [dX]; exact z6 _), yG]
theorem lz {x : Key} (h : S[q]? = some x) (hx : x = k) : (mix nl S T k q).set q (.ref nl) = mix nl S T k (q + 1) := by
 have hq := (x7 h).1;apply List.ext_getElem?;intro j;rw [eY ‹_›];by_cases hj : j = q
 ·subst hj;rw [xq (by rw [eX (yU ‹_›)]; exact hq), if_pos (yq _), dB, h, hx];simp
 rw [xF (Ne.symm hj), eY (yU hq)];by_cases hjq : j < q
 ·rw [if_pos hjq, if_pos (yl ‹_›)]
 rw [if_neg hjq, if_neg (fun h => hjq (yc (yi h) hj))]
theorem js {x : Key} (h : S[q]? = some x) (hx : x ≠ k) : mix nl S T k (q + 1) = mix nl S T k q := by
 have hq := (x7 h).1;apply List.ext_getElem?;intro j;rw [eY ‹_›, eY (yU ‹_›)];by_cases hj : j = q
 ·subst hj;rw [if_pos (yq _), if_neg (yQ _), dB, dB, h];simp [hx]
 by_cases hjq : j < q
 ·rw [if_pos hjq, if_pos (yl ‹_›)]
 rw [if_neg hjq, if_neg (fun h => hjq (yc (yi h) hj))]
theorem nZ {x : Key} (h : S[q]? = some x) : (mix nl S T k q)[q]? = some (if x ∈ T then Val.ref nl else kv x) := by
 rw [eY (yU (x7 h).1), if_neg (yQ _), dB, h]; rfl
theorem iY (A E : List Key) : ∀ i, (cd1 A E i).length ≤ i
 | 0 => z6 _
 | i + 1 => by
  have := iY A E i;unfold cd1;split
  ·split
   ·exact yk ‹_›
   rw [xR, xt]; exact yj ‹_›
  exact yk this
theorem lV (A E : List Key) : ∀ i, (cd2 A E i).length ≤ i
 | 0 => z6 _
 | i + 1 => by
  have := lV A E i;unfold cd2;split
  ·split
   ·exact yk ‹_›
   rw [xR, xt]; exact yj ‹_›
  exact yk this
end
theorem pt {iter : Expr} {a : Int} (h : TV K true d F vals σ (eval iter F.env) (ei a b 1) σ1) (ha : a = (i : Int)) (hb : b = (m : Int)) (him : i ≤ m) (hm : m < 2 ^ 20) : eR K d F vals σ iter (bd K i 1 (m - i)) σ1 := by
 subst ha hb;refine eG h (small_one (Int.le_trans (by decide) (xX _)) (lI (xV him hm) (by decide)) (by lia) (lI hm (by decide))) ?_;rw [rangeSize_one];split
 ·exact (Int.ofNat_sub him).symm
 rw [Nat.sub_eq_zero_of_le (Int.ofNat_le.mp (Int.not_lt.mp ‹_›))]; rfl
theorem jp {x k : Key} (hk : σ[nl]? = some .obj) (hT : k ∉ T) : P2 K hn d σ (compareOp .Eq) (if x ∈ T then Val.ref nl else kv x) (kv k) (.bool (decide (x = k))) σ := by
 by_cases hx : x ∈ T
 ·rw [if_pos hx, decide_eq_false fun q : x = k => hT (q ▸ hx)];exact rB hk
 rw [if_neg hx];exact dA
theorem mC {x : Key} (hk : σ[nl]? = some .obj) : P2 K hn d σ (compareOp .Is) (if x ∈ T then Val.ref nl else kv x) (.ref nl) (.bool (decide (x ∈ T))) σ := by
 by_cases hx : x ∈ T
 ·rw [if_pos hx, decide_eq_true hx];exact qd
 rw [if_neg hx, decide_eq_false hx];exact rA hk
theorem fU {q : Nat} {x k : Key} (h : L[q]? = some x) : (L.take (q + 1)).count k = (L.take q).count k + if x = k then 1 else 0 := by
 rw [ah h, List.count_append, List.count_singleton];simp only [zk]
noncomputable abbrev cdS (σ : a8) (l t r : List Val) : a8 := σ ++ [.list l, .list t, .obj, .list r]
theorem bT (l t r : List Val) : (cdS σ l t r)[σ.length]? = some (.list l) ∧ (cdS σ l t r)[σ.length + 1]? = some (.list t) ∧ (cdS σ l t r)[σ.length + 2]? = some .obj ∧ (cdS σ l t r)[σ.length + 3]? = some (.list r) := by
 refine ⟨by simp [cdS], ?_, ?_, ?_⟩ <;> (unfold cdS; rw [x9 (by lia)]; simp)
theorem uG (l l' t r : List Val) : (cdS σ l t r).set σ.length (.list l') = cdS σ l' t r := by simp [cdS]
theorem pK (l t t' r : List Val) : (cdS σ l t r).set (σ.length + 1) (.list t') = cdS σ l t' r := by unfold cdS; rw [List.set_append_right _ _ (z8 _)]; simp
theorem pJ (l t r r' : List Val) : (cdS σ l t r).set (σ.length + 3) (.list r') = cdS σ l t r' := by unfold cdS; rw [List.set_append_right _ _ (yp _ _)]; simp
theorem jr {S : List Key} {x : Key} (h : x ∈ T) : msk nl S (T ++ [x]) = msk nl S T := by
 unfold msk;refine xP fun k _ => ?_
 have : k ∈ T ++ [x] ↔ k ∈ T := by simp; rintro rfl; exact h
 simp only [this]
theorem jD {x : Key} (h : x ∉ L.take i) : (L.drop i).count x = L.count x := by
 conv => rhs; rw [← List.take_append_drop i L, List.count_append]
 rw [List.count_eq_zero_of_not_mem h, Nat.zero_add]
noncomputable abbrev cdV (ka ke n a e : Nat) (y1 y2 y3 y4 y5 y6 y7 : Option Val) : ai := [some (.ref ka), some (.ref ke), some (.ref n), some (.ref (n + 1)), some (.int (a : Int)), some (.int (e : Int)), some (.ref (n + 2)), some (.ref (n + 3)), y1, y2, y3, y4, y5, y6, y7]
inductive cdA (σ : a8) (ka ke : Nat) (A E : List Key) (v' : ai) (s' : a8) : Prop
 | mk (y1 : Option Val) (y2 : Option Val) (y3 : Option Val) (y4 : Option Val) (y5 : Option Val) (y6 : Option Val) (y7 : Option Val) (q0 : v' = cdV ka ke σ.length A.length E.length y1 y2 y3 y4 y5 y6 y7) (q1 : s' = cdS σ (msk (σ.length + 2) A A) (msk (σ.length + 2) E A) ((cd1 A E A.length).map mmV))
@[elab_as_elim] theorem cdA.ind {σ : a8} {ka : Nat} {ke : Nat} {A : List Key} {E : List Key} {v' : ai} {s' : a8} {motive : ai → a8 → Prop} (h0 : cdA σ ka ke A E v' s') (k0 : ∀ (y1 : Option Val) (y2 : Option Val) (y3 : Option Val) (y4 : Option Val) (y5 : Option Val) (y6 : Option Val) (y7 : Option Val), motive (cdV ka ke σ.length A.length E.length y1 y2 y3 y4 y5 y6 y7) (cdS σ (msk (σ.length + 2) A A) (msk (σ.length + 2) E A) ((cd1 A E A.length).map mmV))) : motive v' s' := by
 obtain ⟨y1, y2, y3, y4, y5, y6, y7, rfl, rfl⟩ := h0;exact k0 _ _ _ _ _ _ _
inductive cdB (σ : a8) (ka ke : Nat) (A E : List Key) (i : Nat) (v : ai) (s : a8) : Prop
 | mk (y1 : Option Val) (y2 : Option Val) (y3 : Option Val) (y4 : Option Val) (y5 : Option Val) (y6 : Option Val) (y7 : Option Val) (q0 : i ≤ A.length) (q1 : v = cdV ka ke σ.length A.length E.length y1 y2 y3 y4 y5 y6 y7) (q2 : s = cdS σ (msk (σ.length + 2) A (A.take i)) (msk (σ.length + 2) E (A.take i)) ((cd1 A E i).map mmV))
@[elab_as_elim] theorem cdB.ind {σ : a8} {ka : Nat} {ke : Nat} {A : List Key} {E : List Key} {i : Nat} {v : ai} {s : a8} {motive : ai → a8 → Prop} (h0 : cdB σ ka ke A E i v s) (k0 : ∀ (y1 : Option Val) (y2 : Option Val) (y3 : Option Val) (y4 : Option Val) (y5 : Option Val) (y6 : Option Val) (y7 : Option Val) (q0 : i ≤ A.length), motive (cdV ka ke σ.length A.length E.length y1 y2 y3 y4 y5 y6 y7) (cdS σ (msk (σ.length + 2) A (A.take i)) (msk (σ.length + 2) E (A.take i)) ((cd1 A E i).map mmV))) : motive v s := by
 obtain ⟨y1, y2, y3, y4, y5, y6, y7, q0, rfl, rfl⟩ := h0;exact k0 _ _ _ _ _ _ _ q0
inductive cdC (σ : a8) (ka ke : Nat) (A E : List Key) (i : Nat) (x : Key) (y6 y7 : Option Val) (v' : ai) (s' : a8) : Prop
 | mk (y5 : Option Val) (q0 : v' = cdV ka ke σ.length A.length E.length (some (.int (i : Int))) (some (kv x)) (some (.int ((A.count x : Nat) : Int))) (some (.int ((0 : Nat) : Int))) y5 y6 y7) (q1 : s' = cdS σ (msk (σ.length + 2) A (A.take i ++ [x])) (msk (σ.length + 2) E (A.take i)) ((cd1 A E i).map mmV))
@[elab_as_elim] theorem cdC.ind {σ : a8} {ka : Nat} {ke : Nat} {A : List Key} {E : List Key} {i : Nat} {x : Key} {y6 : Option Val} {y7 : Option Val} {v' : ai} {s' : a8} {motive : ai → a8 → Prop} (h0 : cdC σ ka ke A E i x y6 y7 v' s') (k0 : ∀ (y5 : Option Val), motive (cdV ka ke σ.length A.length E.length (some (.int (i : Int))) (some (kv x)) (some (.int ((A.count x : Nat) : Int))) (some (.int ((0 : Nat) : Int))) y5 y6 y7) (cdS σ (msk (σ.length + 2) A (A.take i ++ [x])) (msk (σ.length + 2) E (A.take i)) ((cd1 A E i).map mmV))) : motive v' s' := by
 obtain ⟨y5, rfl, rfl⟩ := h0;exact k0 _
inductive cdD (σ : a8) (ka ke : Nat) (A E : List Key) (i : Nat) (x : Key) (y6 y7 : Option Val) (p : Nat) (v : ai) (s : a8) : Prop
 | mk (y5 : Option Val) (q0 : p ≤ A.length - i) (q1 : v = cdV ka ke σ.length A.length E.length (some (.int (i : Int))) (some (kv x)) (some (.int (((A.drop i).take p).count x : Nat))) (some (.int ((0 : Nat) : Int))) y5 y6 y7) (q2 : s = cdS σ (mix (σ.length + 2) A (A.take i) x (i + p)) (msk (σ.length + 2) E (A.take i)) ((cd1 A E i).map mmV))
@[elab_as_elim] theorem cdD.ind {σ : a8} {ka : Nat} {ke : Nat} {A : List Key} {E : List Key} {i : Nat} {x : Key} {y6 : Option Val} {y7 : Option Val} {p : Nat} {v : ai} {s : a8} {motive : ai → a8 → Prop} (h0 : cdD σ ka ke A E i x y6 y7 p v s) (k0 : ∀ (y5 : Option Val) (q0 : p ≤ A.length - i), motive (cdV ka ke σ.length A.length E.length (some (.int (i : Int))) (some (kv x)) (some (.int (((A.drop i).take p).count x : Nat))) (some (.int ((0 : Nat) : Int))) y5 y6 y7) (cdS σ (mix (σ.length + 2) A (A.take i) x (i + p)) (msk (σ.length + 2) E (A.take i)) ((cd1 A E i).map mmV))) : motive v s := by
 obtain ⟨y5, q0, rfl, rfl⟩ := h0;exact k0 _ q0
inductive cdF (σ : a8) (ka ke : Nat) (A E : List Key) (i : Nat) (x : Key) (y7 : Option Val) (v' : ai) (s' : a8) : Prop
 | mk (y5 : Option Val) (y6 : Option Val) (q0 : v' = cdV ka ke σ.length A.length E.length (some (.int (i : Int))) (some (kv x)) (some (.int ((A.count x : Nat) : Int))) (some (.int ((E.count x : Nat) : Int))) y5 y6 y7) (q1 : s' = cdS σ (msk (σ.length + 2) A (A.take (i + 1))) (msk (σ.length + 2) E (A.take (i + 1))) ((cd1 A E i).map mmV))
@[elab_as_elim] theorem cdF.ind {σ : a8} {ka : Nat} {ke : Nat} {A : List Key} {E : List Key} {i : Nat} {x : Key} {y7 : Option Val} {v' : ai} {s' : a8} {motive : ai → a8 → Prop} (h0 : cdF σ ka ke A E i x y7 v' s') (k0 : ∀ (y5 : Option Val) (y6 : Option Val), motive (cdV ka ke σ.length A.length E.length (some (.int (i : Int))) (some (kv x)) (some (.int ((A.count x : Nat) : Int))) (some (.int ((E.count x : Nat) : Int))) y5 y6 y7) (cdS σ (msk (σ.length + 2) A (A.take (i + 1))) (msk (σ.length + 2) E (A.take (i + 1))) ((cd1 A E i).map mmV))) : motive v' s' := by
 obtain ⟨y5, y6, rfl, rfl⟩ := h0;exact k0 _ _
inductive cdG (σ : a8) (ka ke : Nat) (A E : List Key) (i : Nat) (x : Key) (y7 : Option Val) (q : Nat) (v : ai) (s : a8) : Prop
 | mk (y5 : Option Val) (y6 : Option Val) (q0 : q ≤ E.length) (q1 : v = cdV ka ke σ.length A.length E.length (some (.int (i : Int))) (some (kv x)) (some (.int ((A.count x : Nat) : Int))) (some (.int (((E.take q).count x : Nat) : Int))) y5 y6 y7) (q2 : s = cdS σ (msk (σ.length + 2) A (A.take i ++ [x])) (mix (σ.length + 2) E (A.take i) x q) ((cd1 A E i).map mmV))
@[elab_as_elim] theorem cdG.ind {σ : a8} {ka : Nat} {ke : Nat} {A : List Key} {E : List Key} {i : Nat} {x : Key} {y7 : Option Val} {q : Nat} {v : ai} {s : a8} {motive : ai → a8 → Prop} (h0 : cdG σ ka ke A E i x y7 q v s) (k0 : ∀ (y5 : Option Val) (y6 : Option Val) (q0 : q ≤ E.length), motive (cdV ka ke σ.length A.length E.length (some (.int (i : Int))) (some (kv x)) (some (.int ((A.count x : Nat) : Int))) (some (.int (((E.take q).count x : Nat) : Int))) y5 y6 y7) (cdS σ (msk (σ.length + 2) A (A.take i ++ [x])) (mix (σ.length + 2) E (A.take i) x q) ((cd1 A E i).map mmV))) : motive v s := by
 obtain ⟨y5, y6, q0, rfl, rfl⟩ := h0;exact k0 _ _ q0
inductive cdH (σ : a8) (ka ke : Nat) (A E : List Key) (v' : ai) (s' : a8) : Prop
 | mk (y1 : Option Val) (y2 : Option Val) (y3 : Option Val) (y4 : Option Val) (y5 : Option Val) (y6 : Option Val) (y7 : Option Val) (q0 : v' = cdV ka ke σ.length A.length E.length y1 y2 y3 y4 y5 y6 y7) (t : List Val) (q2 : s' = cdS σ (msk (σ.length + 2) A A) t ((cd1 A E A.length ++ cd2 A E E.length).map mmV))
@[elab_as_elim] theorem cdH.ind {σ : a8} {ka : Nat} {ke : Nat} {A : List Key} {E : List Key} {v' : ai} {s' : a8} {motive : ai → a8 → Prop} (h0 : cdH σ ka ke A E v' s') (k0 : ∀ (y1 : Option Val) (y2 : Option Val) (y3 : Option Val) (y4 : Option Val) (y5 : Option Val) (y6 : Option Val) (y7 : Option Val) (t : List Val), motive (cdV ka ke σ.length A.length E.length y1 y2 y3 y4 y5 y6 y7) (cdS σ (msk (σ.length + 2) A A) t ((cd1 A E A.length ++ cd2 A E E.length).map mmV))) : motive v' s' := by
 obtain ⟨y1, y2, y3, y4, y5, y6, y7, rfl, t, rfl⟩ := h0;exact k0 _ _ _ _ _ _ _ _
inductive cdI (σ : a8) (ka ke : Nat) (A E : List Key) (i : Nat) (v : ai) (s : a8) : Prop
 | mk (y1 : Option Val) (y2 : Option Val) (y3 : Option Val) (y4 : Option Val) (y5 : Option Val) (y6 : Option Val) (y7 : Option Val) (q0 : i ≤ E.length) (q1 : v = cdV ka ke σ.length A.length E.length y1 y2 y3 y4 y5 y6 y7) (q2 : s = cdS σ (msk (σ.length + 2) A A) (msk (σ.length + 2) E (A ++ E.take i)) ((cd1 A E A.length ++ cd2 A E i).map mmV))
@[elab_as_elim] theorem cdI.ind {σ : a8} {ka : Nat} {ke : Nat} {A : List Key} {E : List Key} {i : Nat} {v : ai} {s : a8} {motive : ai → a8 → Prop} (h0 : cdI σ ka ke A E i v s) (k0 : ∀ (y1 : Option Val) (y2 : Option Val) (y3 : Option Val) (y4 : Option Val) (y5 : Option Val) (y6 : Option Val) (y7 : Option Val) (q0 : i ≤ E.length), motive (cdV ka ke σ.length A.length E.length y1 y2 y3 y4 y5 y6 y7) (cdS σ (msk (σ.length + 2) A A) (msk (σ.length + 2) E (A ++ E.take i)) ((cd1 A E A.length ++ cd2 A E i).map mmV))) : motive v s := by
 obtain ⟨y1, y2, y3, y4, y5, y6, y7, q0, rfl, rfl⟩ := h0;exact k0 _ _ _ _ _ _ _ q0
inductive cdK (σ : a8) (ka ke : Nat) (A E : List Key) (i : Nat) (x : Key) (y3 y6 y7 : Option Val) (v' : ai) (s' : a8) : Prop
 | mk (y5 : Option Val) (q0 : v' = cdV ka ke σ.length A.length E.length (some (.int (i : Int))) (some (kv x)) y3 (some (.int ((E.count x : Nat) : Int))) y5 y6 y7) (q1 : s' = cdS σ (msk (σ.length + 2) A A) (msk (σ.length + 2) E (A ++ E.take (i + 1))) ((cd1 A E A.length ++ cd2 A E i).map mmV))
@[elab_as_elim] theorem cdK.ind {σ : a8} {ka : Nat} {ke : Nat} {A : List Key} {E : List Key} {i : Nat} {x : Key} {y3 : Option Val} {y6 : Option Val} {y7 : Option Val} {v' : ai} {s' : a8} {motive : ai → a8 → Prop} (h0 : cdK σ ka ke A E i x y3 y6 y7 v' s') (k0 : ∀ (y5 : Option Val), motive (cdV ka ke σ.length A.length E.length (some (.int (i : Int))) (some (kv x)) y3 (some (.int ((E.count x : Nat) : Int))) y5 y6 y7) (cdS σ (msk (σ.length + 2) A A) (msk (σ.length + 2) E (A ++ E.take (i + 1))) ((cd1 A E A.length ++ cd2 A E i).map mmV))) : motive v' s' := by
 obtain ⟨y5, rfl, rfl⟩ := h0;exact k0 _
inductive cdL (σ : a8) (ka ke : Nat) (A E : List Key) (i : Nat) (x : Key) (y3 y6 y7 : Option Val) (p : Nat) (v : ai) (s : a8) : Prop
 | mk (y5 : Option Val) (q0 : p ≤ E.length - i) (q1 : v = cdV ka ke σ.length A.length E.length (some (.int (i : Int))) (some (kv x)) y3 (some (.int (((E.drop i).take p).count x : Nat))) y5 y6 y7) (q2 : s = cdS σ (msk (σ.length + 2) A A) (mix (σ.length + 2) E (A ++ E.take i) x (i + p)) ((cd1 A E A.length ++ cd2 A E i).map mmV))
@[elab_as_elim] theorem cdL.ind {σ : a8} {ka : Nat} {ke : Nat} {A : List Key} {E : List Key} {i : Nat} {x : Key} {y3 : Option Val} {y6 : Option Val} {y7 : Option Val} {p : Nat} {v : ai} {s : a8} {motive : ai → a8 → Prop} (h0 : cdL σ ka ke A E i x y3 y6 y7 p v s) (k0 : ∀ (y5 : Option Val) (q0 : p ≤ E.length - i), motive (cdV ka ke σ.length A.length E.length (some (.int (i : Int))) (some (kv x)) y3 (some (.int (((E.drop i).take p).count x : Nat))) y5 y6 y7) (cdS σ (msk (σ.length + 2) A A) (mix (σ.length + 2) E (A ++ E.take i) x (i + p)) ((cd1 A E A.length ++ cd2 A E i).map mmV))) : motive v s := by
 obtain ⟨y5, q0, rfl, rfl⟩ := h0;exact k0 _ q0
theorem k4 (H : Wld K.toKB) {ka ke : Nat} {A E : List Key} (ha : σ[ka]? = some (.list (A.map kv))) (he : σ[ke]? = some (.list (E.map kv))) (hA : A.length < 1000) (hE : E.length < 1000) :
  PCX K true (d + 3) σ (.ref 397) [.ref ka, .ref ke] [] (fun v s' => v = .ref (σ.length + 3) ∧ ∃ l t, s' = cdS σ l t ((cd1 A E A.length ++ cd2 A E E.length).map mmV)) := by
 have hsl : (2 : Nat) ^ 20 ≤ sizeLine := by decide
 refine H.defX (t := dT) (params := ["actual", "expected"]) (rest := ["s", "t", "m", "n", "NULL", "result", "i", "elem", "cnt_s", "cnt_t", "j", "other_elem", "diff"]) (dflt := []) (xB (i := 17) rfl) (cD fun _ _ _ _ _ _ => rfl) rfl (by decide +kernel) (aL rfl) rfl rfl rfl fun L H => ?_
 show TSt _ _ _ _ _ _ (execs (ax (stm 46)) _) _;refine a9 (ku (k := id) ?_);refine a9 (ji (i := 2) (j := 3) (bD (aa (aj (kl := []) (H.built rfl rfl) (.typ "list") (aa (a7 0 rfl rfl) ac) ao (jF ha (by rw [yA]; exact yT (yU ‹_›) (by decide))))
  (aa (aj (kl := []) (H.built rfl rfl) (.typ "list") (aa (a7 1 rfl rfl) ac) ao (jF (ad _ he) (by rw [yA]; exact yU (lB hE rfl)))) ac)) (by show 2 ≤ sizeLine; decide)) rfl rfl (.inl rfl) (.inl rfl) ?_ (hw := rfl))
 refine a9 (ji (i := 4) (j := 5) (bD (aa (aj (kl := []) (H.built rfl rfl) (.blt "len") (aa (a7 2 rfl rfl) ac) ao (bk (ad _ (ae ..)) (by rw [yA]; exact yT (yU ‹_›) (by decide))))
  (aa (aj (kl := []) (H.built rfl rfl) (.blt "len") (aa (a7 3 rfl rfl) ac) ao (bk (ae ..) (by rw [yA]; exact yU (lB hE rfl)))) ac)) (by show 2 ≤ sizeLine; decide)) rfl rfl (.inl rfl) (.inl rfl) ?_ (hw := rfl))
 refine a9 (ab 6 (uB (H.built rfl rfl) (.typ "object") tl) rfl (.inl rfl) ?_);refine a9 (ab 7 (dk ac) rfl (.inl rfl) ?_);have hcell : ∀ l t r : List Val, (cdS σ l t r)[σ.length + 2]? = some .obj := fun l t r => (bT l t r).2.2.1
 refine iv (cdA σ ka ke A E) ?_ ?_
 ·refine nQ (ix := 8) (iy := 9) (k := σ.length) (n := A.length) (l0 := A.map kv) (H.built rfl rfl) (a7 2 rfl rfl) (by simp) rfl rfl (.inl rfl) (.inl rfl)
   (cdB σ ka ke A E)
   ⟨none, none, none, none, none, none, none, z7 _, by simp [cdV], by simp [cdS, un]; rfl⟩ ?_ ?_ ?_
  ·intro i v s h0;refine h0.ind fun _ _ _ _ _ _ _ _ => ?_
   exact ⟨_, (bT _ _ _).1, dX⟩
  ·intro i v s l h0;refine h0.ind fun y1 y2 y3 y4 y5 y6 y7 hi => ?_
   rintro _ hge;have : i = A.length := by exact yE ‹_› ‹_›
   subst this;rw [yv];exact ⟨rfl, y1, y2, y3, y4, y5, y6, y7, rfl, rfl⟩
  intro i v s u h0;refine h0.ind fun y1 y2 y3 y4 y5 y6 y7 hi => ?_
  intro hu;have hu := hu _ (bT _ _ _).1;rw [dB] at hu;obtain ⟨x, hx, rfl⟩ := xf hu;have hlt := (x7 hx).1;have htk : A.take (i + 1) = A.take i ++ [x] := ah hx;refine a9 (be (av (a7 9 rfl rfl) (a7 6 rfl rfl) (mC (hcell _ _ _))) (fun hb => a9 (lj ?_)) (fun hb => ak ?_))
  ·have hb := yg hb;refine ⟨_, _, y3, y4, y5, y6, y7, hlt, rfl, ?_⟩;have e1 : cd1 A E (i + 1) = cd1 A E i := by
    show (match A[i]? with | some k => _ | none => _) = _;rw [hx];exact if_pos (.inl hb)
   rw [htk, jr hb, jr hb, e1]
  have hb := xY hb;rw [if_neg hb];refine a9 (ky (i := 10) (j := 11) (aR (n := 0)) rfl rfl (.inl rfl) (.inl rfl) ?_);refine iv (cdC σ ka ke A E i x y6 y7) ?_ ?_
  ·refine gf (ix := 12) (T := bd _ i 1 (A.length - i)) (pt (cH (H.built rfl rfl) (.typ "range") (aa (a7 8 rfl rfl) (aa (a7 4 rfl rfl) ac)) dR) rfl rfl hi (yW ‹_› (by decide))) rfl (.inl rfl)
    (cdD σ ka ke A E i x y6 y7)
    ⟨y5, z7 _, rfl, by rw [Nat.add_zero, gT ‹_› fun j hj z hz => xB (i := j) (by rw [xj (show j < i from hj)]; exact hz)]⟩ (fun _ _ _ _ => trivial) ?_ ?_
   ·intro p v s h0;refine h0.ind fun y5 hp => ?_
    rintro hend;have hp' : p = A.length - i := by
     have : (if p < A.length - i then some (Val.int ((i : Int) + (p : Int) * 1)) else none) = none := hend;split at this
     ·cases this
     exact yE hp (yS ‹_›)
    subst hp';refine ⟨rfl, y5, ?_, ?_⟩
    ·rw [xp (by rw [yr]; exact z6 _), jD hb]
    rw [show i + (A.length - i) = A.length by exact sG (yU hlt), lA]
   intro p v s w h0;refine h0.ind fun y5 hp => ?_
   rintro hw;have hpl : p < A.length - i ∧ w = .int ((i + p : Nat) : Int) := by
    have : (if p < A.length - i then some (Val.int ((i : Int) + (p : Int) * 1)) else none) = some w := hw;split at this
    ·rename_i q; cases this; exact ⟨q, congrArg Val.int (by lia)⟩
    cases this
   obtain ⟨hpl, rfl⟩ := hpl;have hz : A[i + p]? = some A[i + p] := xg (by omega);generalize A[i + p] = z at hz;have hcs := fU (L := A.drop i) (q := p) (x := z) (k := x) (by rw [List.getElem?_drop]; exact hz);refine a9 (be (av (aV (a7 2 rfl rfl) (a7 12 rfl rfl) (ar (bT _ _ _).1) (aq (bT _ _ _).1 (nZ hz) (lC (Nat.add_lt_of_lt_sub' hpl) hA rfl))) (a7 9 rfl rfl) (jp (hcell _ _ _) hb)) (fun h1 => ?_) (fun h1 => ak (ak ?_)))
   ·have h1 := yg h1;refine a9 (cp (i := 10) rfl rfl (aR (n := 1)) bG (.inl rfl) ?_);refine a9 (ce (j := i + p) (a7 6 rfl rfl) (a7 2 rfl rfl) (a7 12 rfl rfl) (bT _ _ _).1 (by rw [eX (yU (Nat.add_lt_of_lt_sub' hpl))]; exact Nat.add_lt_of_lt_sub' hpl) (lC (Nat.add_lt_of_lt_sub' hpl) hA rfl) (ak (ak ?_)));refine ⟨some (.int ((i + p : Nat) : Int)), by assumption, ?_, ?_⟩
    ·rw [hcs, if_pos h1]; rfl
    rw [uG, lz hz h1]; rfl
   have h1 := xY h1;refine ⟨some (.int ((i + p : Nat) : Int)), by assumption, ?_, ?_⟩
   ·rw [hcs, if_neg h1]; rfl
   show _ = cdS σ (mix _ A (A.take i) x (i + p + 1)) _ _;rw [js hz h1]
  intro v s h0;refine h0.ind fun y5 => ?_
  refine iv (cdF σ ka ke A E i x y7) ?_ ?_
  ·refine nQ (ix := 12) (iy := 13) (k := σ.length + 1) (n := E.length) (H.built rfl rfl) (a7 3 rfl rfl) (bT _ _ _).2.1 rfl rfl (.inl rfl) (.inl rfl) (cdG σ ka ke A E i x y7) ⟨y5, y6, z7 _, rfl, by rw [gT (z7 _) fun j hj => absurd hj (Nat.not_lt_zero _)]⟩ ?_ ?_ ?_
   ·intro q v s h0;refine h0.ind fun _ _ hq => ?_
    exact ⟨_, (bT _ _ _).2.1, eX hq⟩
   ·intro q v s l h0;refine h0.ind fun y5 y6 hq => ?_
    rintro _ hge;have : q = E.length := by exact yE hq hge
    subst this;rw [yv, lA];exact ⟨rfl, y5, y6, rfl, by rw [htk]⟩
   intro q v s u h0;refine h0.ind fun y5 y6 hq => ?_
   intro hu;have hu := hu _ (bT _ _ _).2.1;have hql : q < E.length := by have := (x7 hu).1; rwa [eX hq] at this
   have hz : E[q]? = some E[q] := xg hql;generalize E[q] = z at hz;rw [nZ hz] at hu;obtain rfl := Option.some.inj hu;have hcs := fU (k := x) hz;refine a9 (be (av (a7 13 rfl rfl) (a7 9 rfl rfl) (jp (hcell _ _ _) hb)) (fun h1 => ?_) (fun h1 => ak (ak ?_)))
   ·have h1 := yg h1;refine a9 (cp (i := 11) rfl rfl (aR (n := 1)) bG (.inl rfl) ?_);refine a9 (ce (j := q) (a7 6 rfl rfl) (a7 3 rfl rfl) (a7 12 rfl rfl) (bT _ _ _).2.1 (by rw [eX ‹_›]; assumption) (yW (yW ‹_› ‹_›) (by decide)) (ak (ak ?_)));refine ⟨some (.int (q : Int)), some (if z ∈ A.take i then Val.ref (σ.length + 2) else kv z), hql, ?_, ?_⟩
    ·rw [hcs, if_pos h1]; rfl
    rw [pK, lz hz h1]
   have h1 := xY h1;refine ⟨some (.int (q : Int)), some (if z ∈ A.take i then Val.ref (σ.length + 2) else kv z), hql, ?_, ?_⟩
   ·rw [hcs, if_neg h1]; rfl
   rw [js hz h1]
  intro v s h0;refine h0.ind fun y5 y6 => ?_
  have e1 : cd1 A E (i + 1) = if A.count x = E.count x then cd1 A E i else cd1 A E i ++ [(A.count x, E.count x, x)] := by
   show (match A[i]? with | some k => _ | none => _) = _;rw [hx];show (if x ∈ A.take i ∨ A.count x = E.count x then _ else _) = _;by_cases hq : A.count x = E.count x
   ·rw [if_pos (.inr hq), if_pos hq]
   rw [if_neg (fun q => q.elim hb hq), if_neg hq]
  refine a9 (be (av (a7 10 rfl rfl) (a7 11 rfl rfl) jm) (fun h1 => ?_) (fun h1 => ak (ak ?_)))
  ·have h1 : A.count x ≠ E.count x := fun q => by rw [q] at h1; simp at h1
   refine a9 (ab 14 (pF (H.name rfl rfl) (mH H) (aa (a7 10 rfl rfl) (aa (a7 11 rfl rfl) (aa (a7 9 rfl rfl) ac))) (tn H)) rfl (.inl rfl) ?_);refine a9 (ci (bZ (a7 7 rfl rfl) (cw (bT _ _ _).2.2.2 xh xi) (.blt _) (aa (a7 14 rfl rfl) ac) (cN (bT _ _ _).2.2.2 (by rw [yA]; have := iY A E i; exact lG (yT this (yU hlt)) hA hsl rfl))) rfl (ak (ak ?_)));refine ⟨_, _, _, _, _, _, _, hlt, rfl, ?_⟩;rw [pJ, e1, if_neg h1, yC]; rfl
  have h1 : A.count x = E.count x := by
   have h2 : ((A.count x : Nat) : Int) = ((E.count x : Nat) : Int) := by simpa using h1
   exact Int.ofNat.inj ‹_›
  refine ⟨_, _, _, _, _, _, _, hlt, rfl, ?_⟩;rw [e1, if_pos h1]
 intro v s h0;refine h0.ind fun y1 y2 y3 y4 y5 y6 y7 => ?_
 refine iv (cdH σ ka ke A E) ?_ ?_
 ·refine nQ (ix := 8) (iy := 9) (k := σ.length + 1) (n := E.length) (H.built rfl rfl) (a7 3 rfl rfl) (bT _ _ _).2.1 rfl rfl (.inl rfl) (.inl rfl) (cdI σ ka ke A E) ⟨y1, y2, y3, y4, y5, y6, y7, z7 _, rfl, by rw [yL, yG]; unfold cd2; rw [yG]⟩ ?_ ?_ ?_
  ·intro i v s h0;refine h0.ind fun _ _ _ _ _ _ _ _ => ?_
   exact ⟨_, (bT _ _ _).2.1, dX⟩
  ·intro i v s l h0;refine h0.ind fun y1 y2 y3 y4 y5 y6 y7 hi => ?_
   rintro _ hge;have : i = E.length := by lia
   subst this;exact ⟨rfl, y1, y2, y3, y4, y5, y6, y7, rfl, _, rfl⟩
  intro i v s u h0;refine h0.ind fun y1 y2 y3 y4 y5 y6 y7 hi => ?_
  intro hu;have hu := hu _ (bT _ _ _).2.1;rw [dB] at hu;obtain ⟨x, hx, rfl⟩ := xf hu;have hlt := (x7 hx).1;have htk : A ++ E.take (i + 1) = A ++ E.take i ++ [x] := by rw [ah hx, yf]
  have e1 : cd2 A E (i + 1) = if x ∈ A ++ E.take i then cd2 A E i else cd2 A E i ++ [(0, E.count x, x)] := by
   show (match E[i]? with | some k => _ | none => _) = _;rw [hx];show (if x ∈ A ∨ x ∈ E.take i then _ else _) = _;simp only [yD]
  refine a9 (be (av (a7 9 rfl rfl) (a7 6 rfl rfl) (mC (hcell _ _ _))) (fun hb => a9 (lj ?_)) (fun hb => ak ?_))
  ·have hb := yg hb;refine ⟨_, _, y3, y4, y5, y6, y7, hlt, rfl, ?_⟩;rw [htk, jr hb, e1, if_pos hb]
  have hb := xY hb;rw [if_neg hb];refine a9 (ab 11 (aR (n := 0)) rfl (.inl rfl) ?_);refine iv (cdK σ ka ke A E i x y3 y6 y7) ?_ ?_
  ·refine gf (ix := 12) (T := bd _ i 1 (E.length - i)) (pt (cH (H.built rfl rfl) (.typ "range") (aa (a7 8 rfl rfl) (aa (a7 5 rfl rfl) ac)) dR) rfl rfl hi (lB hE rfl)) rfl (.inl rfl) (cdL σ ka ke A E i x y3 y6 y7) ⟨y5, z7 _, rfl, by rw [Nat.add_zero, gT ‹_› fun j hj z hz => xy _ (xB (i := j) (by rw [xj (show j < i from hj)]; exact hz))]⟩ (fun _ _ _ _ => trivial) ?_ ?_
   ·intro p v s h0;refine h0.ind fun y5 hp => ?_
    rintro hend;have hp' : p = E.length - i := by
     have : (if p < E.length - i then some (Val.int ((i : Int) + (p : Int) * 1)) else none) = none := hend;split at this
     ·cases this
     lia
    subst hp';refine ⟨rfl, y5, ?_, ?_⟩
    ·rw [xp (by rw [yr]; exact z6 _), jD fun q => hb (xy _ q)]
    rw [show i + (E.length - i) = E.length by lia, lA, htk]
   intro p v s w h0;refine h0.ind fun y5 hp => ?_
   rintro hw;have hpl : p < E.length - i ∧ w = .int ((i + p : Nat) : Int) := by
    have : (if p < E.length - i then some (Val.int ((i : Int) + (p : Int) * 1)) else none) = some w := hw;split at this
    ·rename_i q; cases this; exact ⟨q, congrArg Val.int (by lia)⟩
    cases this
   obtain ⟨hpl, rfl⟩ := hpl;have hz : E[i + p]? = some E[i + p] := xg (by lia);generalize E[i + p] = z at hz;have hcs := fU (L := E.drop i) (q := p) (x := z) (k := x) (by rw [List.getElem?_drop]; exact hz);refine a9 (be (av (aV (a7 3 rfl rfl) (a7 12 rfl rfl) (ar (bT _ _ _).2.1) (aq (bT _ _ _).2.1 (nZ hz) (by lia))) (a7 9 rfl rfl) (jp (hcell _ _ _) hb)) (fun h1 => ?_) (fun h1 => ak (ak ?_)))
   ·have h1 := yg h1;refine a9 (cp (i := 11) rfl rfl (aR (n := 1)) bG (.inl rfl) ?_);refine a9 (ce (j := i + p) (a7 6 rfl rfl) (a7 3 rfl rfl) (a7 12 rfl rfl) (bT _ _ _).2.1 (by rw [eX (by grind)]; lia) (by lia) (ak (ak ?_)));refine ⟨some (.int ((i + p : Nat) : Int)), by assumption, ?_, ?_⟩
    ·rw [hcs, if_pos h1]; rfl
    rw [pK, lz hz h1]; rfl
   have h1 := xY h1;refine ⟨some (.int ((i + p : Nat) : Int)), by assumption, ?_, ?_⟩
   ·rw [hcs, if_neg h1]; rfl
   show _ = cdS σ _ (mix _ E (A ++ E.take i) x (i + p + 1)) _;rw [js hz h1]
  intro v s h0;refine h0.ind fun y5 => ?_
  refine a9 (ab 14 (pF (H.name rfl rfl) (mH H) (aa (aR (n := 0)) (aa (a7 11 rfl rfl) (aa (a7 9 rfl rfl) ac))) (tn H)) rfl (.inl rfl) ?_);refine a9 (ci (bZ (a7 7 rfl rfl) (cw (bT _ _ _).2.2.2 xh xi) (.blt _) (aa (a7 14 rfl rfl) ac) (cN (bT _ _ _).2.2.2 (by rw [yA, xR]; have := iY A E A.length; have := lV A E i; exact yT (yU (Nat.add_lt_add (xV ‹_› hA) (xV this (yW hlt hE)))) (yT (by decide) hsl)))) rfl (ak ?_));refine ⟨_, _, _, _, _, _, _, hlt, rfl, ?_⟩;rw [pJ, e1, if_neg hb, ← yf]; simp only [yC]; rfl
 intro v s h0;refine h0.ind fun y1 y2 y3 y4 y5 y6 y7 t => ?_
 exact a9 (bm (a7 7 rfl rfl) ⟨rfl, _, _, rfl⟩)
theorem jQ {w x : Key} (h : w <+: x) (hl : x.length ≤ w.length) : x = w := by
 obtain ⟨t, rfl⟩ := h;rw [xR] at hl;rw [x6 (show t.length = 0 by exact Nat.eq_zero_of_le_zero (Nat.add_le_add_iff_left.mp (show _ + _ ≤ _ + 0 from hl))), yG]
theorem k8 {σ : a8} {N : Tab} (T : bc σ N) : ∀ (f : Nat) (w : Key), (∀ x ∈ N.map (·.1), x.length ≤ w.length + f) → w ∈ N.map (·.1) → ∀ x, x ∈ bl N f w ↔ w <+: x ∧ x ∈ N.map (·.1)
 | 0, w, hd, hw, x => by
  show x ∈ [w] ↔ _;rw [yb];constructor
  ·rintro rfl; exact ⟨yx _, hw⟩
  rintro ⟨h1, h2⟩; exact jQ h1 (hd x h2)
 | f + 1, w, hd, hw, x => by
  show x ∈ w :: _ ↔ _;rw [List.mem_cons, List.mem_flatMap];have step : ∀ n, w ++ [n] ∈ N.map (·.1) → (x ∈ bl N f (w ++ [n]) ↔ w ++ [n] <+: x ∧ x ∈ N.map (·.1)) := fun n hn =>
   k8 T f (w ++ [n]) (fun y hy => by have := hd y hy; rw [xR, xt]; exact yT this (yV (xW _ f 1))) hn x
  constructor
  ·rintro (rfl | ⟨q, hq, hx⟩)
   ·exact ⟨yx _, hw⟩
   obtain ⟨i, hi, _⟩ := bQ.mp hq;obtain ⟨h1, h2⟩ := (step q.1 (cL hi)).mp hx;exact ⟨(List.prefix_append _ _).trans h1, h2⟩
  rintro ⟨⟨t, rfl⟩, h2⟩;cases t with
  | nil => exact .inl (yG _)
  | cons n t =>
   have hp : w ++ [n] <+: w ++ n :: t := ⟨t, by rw [yf]; rfl⟩
   have hn := T.pre h2 hp;obtain ⟨i, hi⟩ := dg hn;exact .inr ⟨(n, .ref i), bQ.mpr ⟨i, hi, rfl⟩, (step n hn).mpr ⟨hp, h2⟩⟩
theorem eT (N : Tab) : ∀ (f : Nat) (w x : Key), x ∈ bl N f w → w <+: x
 | 0, w, x, h => by
  have h : x ∈ [w] := h;rw [yb] at h; rw [h]; exact yx _
 | f + 1, w, x, h => by
  have h : x ∈ w :: _ := h;rcases yy h with rfl | h
  ·exact yx _
  obtain ⟨q, _, hx⟩ := List.mem_flatMap.mp h;exact (List.prefix_append _ _).trans (eT N f _ _ hx)
theorem ii {N : Tab} (hn : (N.map (·.1)).Nodup) : ∀ (f : Nat) (w : Key), (bl N f w).Nodup
 | 0, w => List.nodup_cons.mpr ⟨by simp, List.nodup_nil⟩
 | f + 1, w => by
  refine List.nodup_cons.mpr ⟨fun h => ?_, ?_⟩
  ·obtain ⟨q, _, hx⟩ := List.mem_flatMap.mp h;have := (eT N f _ _ hx).length_le;rw [xR, xt] at this; exact absurd ‹_› (yQ _)
  delta List.Nodup
  rw [List.pairwise_flatMap];refine ⟨fun q _ => ii hn f _, ?_⟩;have hk := bX w hn;unfold List.Nodup at hk;rw [List.pairwise_map] at hk;refine hk.imp fun {a b} hab x hx y hy hxy => hab ?_
  subst hxy;obtain ⟨t, ht⟩ := eT N f _ _ hx;obtain ⟨t', ht'⟩ := eT N f _ _ hy;rw [← ht', yf, yf] at ht;have := List.append_cancel_left ht;injection this
theorem j1 (N : Tab) (f : Nat) (w : Key) : (bl N f w)[0]? = some w := by cases f <;> rfl
noncomputable def nH (l : List Key) : List Key := l.mergeSort fun a b => !kLt b a
theorem u1 {l : List Key} (h : l.Nodup) : Srt (nH l) ∧ ∀ x, x ∈ nH l ↔ x ∈ l := by
 have hp : List.Perm (nH l) l := List.mergeSort_perm ..
 refine ⟨?_, fun x => hp.mem_iff⟩;have hs : (nH l).Pairwise fun a b => (!kLt b a) = true := List.pairwise_mergeSort (le := fun a b => !kLt b a) (fun a b c h1 h2 => by
  have h1 : kLe a b := by unfold kLe; simpa using h1
  have h2 : kLe b c := by unfold kLe; simpa using h2
  have := fa h1 h2;unfold kLe at this;simpa using this) (fun a b => by
  rcases qn a b with q | q <;> (unfold kLe at q; simp [q])) l
 have hn : (nH l).Nodup := hp.nodup_iff.mpr h;exact (hs.and hn).imp fun {a b} ⟨h1, h2⟩ => (gX (show kLe a b by unfold kLe; simpa using h1)).resolve_left h2
noncomputable def pre (k : Key) : List Key := (List.range k.length).map fun i => k.take (i + 1)
theorem cU {k x : Key} : x ∈ pre k ↔ x ≠ [] ∧ x <+: k := by
 delta pre
 rw [List.mem_map];constructor
 ·rintro ⟨i, hi, rfl⟩;rw [List.mem_range] at hi;refine ⟨fun q => ?_, List.take_prefix ..⟩;have := congrArg List.length q;rw [yn, List.length_nil] at this; lia
 rintro ⟨h1, h2⟩;have hl := List.length_pos_iff.mpr h1;have hle := h2.length_le;exact ⟨x.length - 1, List.mem_range.mpr (xU (sK hl) hle), by rw [show x.length - 1 + 1 = x.length by exact Nat.sub_add_cancel ‹_›]; exact (List.prefix_iff_eq_take.mp h2).symm⟩
theorem tW {k : Key} (hij : i < j) (hj : j ≤ k.length) : kLt (k.take i) (k.take j) = true := by
 have h : k.take j = k.take i ++ (k.drop i).take (j - i) := by
  rw [show j = i + (j - i) by exact (sG (yU hij)).symm, List.take_add, show i + (j - i) - i = j - i by exact xn ..]
 rw [h];refine jy _ fun q => ?_
 have := congrArg List.length q;rw [yn, yr, List.length_nil] at this; exact sQ hij hj this
theorem uf (k : Key) : Srt (pre k) := by
 delta pre Srt
 rw [List.pairwise_map];refine (List.pairwise_lt_range (n := k.length)).imp_of_mem fun {a b} ha hb h => tW (Nat.succ_lt_succ ‹_›) (by have := List.mem_range.mp hb; assumption)
theorem dW (k : Key) : (pre k).length = k.length := by unfold pre; simp
noncomputable def fw : List Key → List Key
 | [] => []
 | a :: l => if a ∈ l then fw l else a :: fw l
theorem j5 : ∀ l : List Key, (fw l).Nodup ∧ ∀ x, x ∈ fw l ↔ x ∈ l
 | [] => ⟨List.nodup_nil, fun x => Iff.rfl⟩
 | a :: l => by
  obtain ⟨h1, h2⟩ := j5 l;unfold fw;split
  ·rename_i h;refine ⟨h1, fun x => ?_⟩;rw [h2, List.mem_cons];exact ⟨.inr, fun q => q.elim (fun e => e ▸ h) id⟩
  rename_i h;exact ⟨List.nodup_cons.mpr ⟨fun q => h ((h2 a).mp q), h1⟩, fun x => by rw [List.mem_cons, List.mem_cons, h2]⟩
noncomputable def au (ks : List Key) : List Key := nH (fw ([] :: ks.flatMap pre))
theorem ay (ks : List Key) : Srt (au ks) ∧ ∀ x, x ∈ au ks ↔ x = [] ∨ ∃ k ∈ ks, x <+: k := by
 obtain ⟨h1, h2⟩ := u1 (l := fw ([] :: ks.flatMap pre)) (j5 _).1;refine ⟨h1, fun x => ?_⟩;rw [show au ks = nH _ from rfl, h2, (j5 _).2, List.mem_cons, List.mem_flatMap];constructor
 ·rintro (h | ⟨k, hk, hx⟩)
  ·exact .inl h
  exact .inr ⟨k, hk, (cU.mp hx).2⟩
 rintro (h | ⟨k, hk, hx⟩)
 ·exact .inl h
 by_cases q : x = []
 ·exact .inl q
 exact .inr ⟨k, hk, cU.mpr ⟨q, hx⟩⟩
theorem jM : au [] = [[]] := by
 refine (ay []).1.ext (List.pairwise_singleton ..) fun x => ?_
 rw [(ay []).2]; simp
theorem nj (ks : List Key) (k : Key) : (au (ks ++ [k])).filter (fun x => decide (x ∉ au ks)) = (pre k).filter fun x => decide (x ∉ ks.flatMap pre) := by
 refine Srt.ext ((ay _).1.filter _) ((uf k).filter _) fun x => ?_
 rw [yJ, yJ, yh, yh, (ay _).2, (ay _).2, cU, List.mem_flatMap];constructor
 ·rintro ⟨h1, h2⟩;have hx : x ≠ [] := fun q => h2 (.inl q)
  rcases h1 with q | ⟨y, hy, hp⟩
  ·exact absurd q hx
  rcases yd hy with hy | hy
  ·exact absurd (.inr ⟨y, hy, hp⟩) h2
  rw [yb] at hy;subst hy;exact ⟨⟨hx, hp⟩, fun ⟨z, hz, hq⟩ => h2 (.inr ⟨z, hz, (cU.mp hq).2⟩)⟩
 rintro ⟨⟨h1, h2⟩, h3⟩;refine ⟨.inr ⟨k, xy _ (xm _), h2⟩, ?_⟩;rintro (q | ⟨y, hy, hp⟩)
 ·exact h1 q
 exact h3 ⟨y, hy, cU.mpr ⟨h1, hp⟩⟩
theorem qF (ks : List Key) (k : Key) : (au ks).filter (fun x => decide (x ∉ au (ks ++ [k]))) = [] := by
 rw [List.filter_eq_nil_iff];intro x hx;rw [yh, Decidable.not_not, (ay _).2];exact ((ay _).2 x).mp hx |>.imp id fun ⟨y, hy, h⟩ => ⟨y, xE _ hy, h⟩
theorem dI {α : Type} [DecidableEq α] : ∀ {l l' : List α}, l.Nodup → l'.Nodup → (∀ x, x ∈ l ↔ x ∈ l') → l.length = l'.length
 | [], l', _, _, h => by
  cases l' with
  | nil => rfl
  | cons a l' => exact absurd ((h a).mpr (xT ..)) (by simp)
 | a :: l, l', h1, h2, h => by
  obtain ⟨h3, h4⟩ := List.nodup_cons.mp h1;have ha : a ∈ l' := (h a).mp (xT ..);have := dI (l := l) (l' := l'.erase a) h4 (h2.erase a) fun x => by
   rw [h2.mem_erase_iff, ← h, List.mem_cons];constructor
   ·intro hx; exact ⟨fun q => h3 (q ▸ hx), .inr hx⟩
   rintro ⟨q, q' | q'⟩
   ·exact absurd q' q
   exact q'
  rw [ym, this, List.length_erase_of_mem ha];have := List.length_pos_of_mem ha;exact Nat.sub_add_cancel ‹_›
theorem uJ {w x y z : Key} (hx : w <+: x) (hz : w <+: z) (hxy : kLe x y) (hyz : kLe y z) : w <+: y := by
 obtain ⟨t, rfl⟩ := hx;obtain ⟨u, rfl⟩ := hz
 induction w generalizing y with
 | nil => exact List.nil_prefix
 | cons a w ih =>
  cases y with
  | nil =>
   exact absurd (show (true : Bool) = false from hxy) (by decide)
  | cons b y =>
   have h1 : kLt (b :: y) (a :: (w ++ t)) = false := hxy;have h2 : kLt (a :: (w ++ u)) (b :: y) = false := hyz;have hab : a = b := by
    rcases kz a b with q | q | q
    ·have hne : a ≠ b := fun e => by rw [e, fD] at q; cases q
     have h2 : (if a = b then kLt (w ++ u) y else sLt a b) = false := h2;rw [if_neg hne, q] at h2; cases h2
    ·exact q
    have hne : b ≠ a := fun e => by rw [e, fD] at q; cases q
    have h1 : (if b = a then kLt y (w ++ t) else sLt b a) = false := h1;rw [if_neg hne, q] at h1; cases h1
   subst hab;have e1 : ∀ l l' : Key, kLt (a :: l) (a :: l') = kLt l l' := fun l l' => rW [a] l l'
   rw [e1] at h1 h2;obtain ⟨v, rfl⟩ := ih h1 h2;exact ⟨v, rfl⟩
theorem u4 (a b : Key) : shr a b = ((pre b).filter fun w => decide (w <+: a)).length := by
 delta shr pre
 rw [List.filter_map, yA];refine dI (List.nodup_range.filter _) (List.nodup_range.filter _) fun i => ?_
 rw [yJ, yJ, List.mem_range, List.mem_range, yh];show _ ↔ i < b.length ∧ decide (b.take (i + 1) <+: a) = true;rw [yh];constructor
 ·rintro ⟨h1, h2⟩;exact ⟨by exact (Nat.lt_min.mp h1).2, h2 ▸ List.take_prefix ..⟩
 rintro ⟨h1, h2⟩;have hl := h2.length_le;rw [yn] at hl;refine ⟨by exact Nat.lt_min.mpr ⟨xU (Nat.lt_min.mpr ⟨yq i, h1⟩) hl, h1⟩, ?_⟩;rw [List.prefix_iff_eq_take.mp h2, yn, show min (i + 1) b.length = i + 1 by exact yI h1]
theorem qE (L : List Key) (x : Key) : (au (L ++ [x])).length = (au L).length + ((pre x).filter fun w => decide (w ∉ L.flatMap pre)).length := by
 rw [← nj, ← xR];refine dI (ay _).1.nodup ?_ fun w => ?_
 ·rw [List.nodup_append];refine ⟨(ay _).1.nodup, (ay _).1.nodup.filter _, fun a ha b hb e => ?_⟩;rw [yJ, yh] at hb;exact hb.2 (e ▸ ha)
 rw [yD, yJ, yh];constructor
 ·intro h;by_cases q : w ∈ au L
  ·exact .inl q
  exact .inr ⟨h, q⟩
 rintro (h | ⟨h, _⟩)
 ·rw [(ay _).2] at h ⊢;exact h.imp id fun ⟨k, hk, hp⟩ => ⟨k, xE _ hk, hp⟩
 exact h
theorem eK {α : Type} (p : α → Bool) : ∀ l : List α, (l.filter p).length + (l.filter fun x => !p x).length = l.length
 | [] => rfl
 | a :: l => by
  have := eK p l;rw [List.filter_cons, List.filter_cons, ym];cases p a
  ·simp only [Bool.not_false, if_true, ya, if_false, ym]; exact congrArg Nat.succ this
  simp only [Bool.not_true, if_true, ya, if_false, ym]; exact (xW _ 1 _).trans (congrArg Nat.succ this)
theorem qj {x y : Key} (h : (L ++ [x]).Pairwise kLe) (hy : L.getLast? = some y) : ((pre x).filter fun w => decide (w ∉ L.flatMap pre)).length + shr y x = x.length := by
 rw [u4, ← dW x, ← eK (fun w => decide (w <+: y)) (pre x), yX];congr 2;refine List.filter_congr fun w hw => ?_
 obtain ⟨L', rfl⟩ : ∃ L', L = L' ++ [y] := by
  rcases xA L with rfl | ⟨L', z, rfl⟩
  ·cases hy
  rw [xz, List.getLast?_concat] at hy;cases hy;exact ⟨L', xz ..⟩
 obtain ⟨h1, h2⟩ := cU.mp hw;rw [List.pairwise_append, List.pairwise_append] at h;have key : w ∈ (L' ++ [y]).flatMap pre ↔ w <+: y := by
  rw [List.mem_flatMap];constructor
  ·rintro ⟨z, hz, hp⟩;rcases yd hz with hz | hz
   ·exact uJ (cU.mp hp).2 h2 (h.1.2.2 z hz y (xm _)) (h.2.2 y (xy _ (xm _)) x (xm _))
   rw [yb] at hz;subst hz;exact (cU.mp hp).2
  exact fun q => ⟨y, xy _ (xm _), cU.mpr ⟨h1, q⟩⟩
 by_cases q : w <+: y
 ·simp only [key, q]; rfl
 simp only [key, q]; rfl
theorem pe {row : List Key} (h : row.Pairwise kLe) : ∀ i, i ≤ row.length → ((au (row.take i)).length : Int) + ((List.range (i - 1)).map fun k => (shr (gk row k) (gk row (k + 1)) : Int)).sum = 1 + ((row.take i).map fun k => (k.length : Int)).sum
 | 0, _ => by rw [yL, jM]; rfl
 | i + 1, hi => by
  have ih := pe h i (yU ‹_›);have hg : row[i]? = some (gk row i) := by unfold gk; rw [xg ‹_›]; rfl
  rw [ah hg, qE, yC, List.sum_append];have hp : (row.take i ++ [gk row i]).Pairwise kLe := by rw [← ah hg]; exact h.sublist (List.take_sublist ..)
  cases i with
  | zero =>
   rw [yL, jM];have : ((pre (gk row 0)).filter fun w => decide (w ∉ ([] : List Key).flatMap pre)) = pre (gk row 0) := List.filter_eq_self.mpr fun w _ => by simp
   rw [this, dW];simp
  | succ i =>
   have hl : (row.take (i + 1)).getLast? = some (gk row i) := by
    have hg' : row[i]? = some (gk row i) := by unfold gk; rw [xg (yU ‹_›)]; rfl
    rw [ah hg', List.getLast?_concat]
   have := qj hp hl;rw [show i + 1 + 1 - 1 = (i + 1 - 1) + 1 by exact Nat.add_sub_cancel .., List.range_succ, yC, List.sum_append];simp only [yR, List.map_nil, List.sum_cons, List.sum_nil, Nat.add_sub_cancel] at ih ⊢;push_cast;exact sCC ih this
theorem vj {row : List Key} (hp : List.Perm row due) (h : row.Pairwise kLe) : (row.map fun k => (k.length : Int)).sum - ((List.range (row.length - 1)).map fun k => (shr (gk row k) (gk row (k + 1)) : Int)).sum = ((au due).length : Int) - 1 := by
 have h1 := pe h row.length (z6 _);rw [yv] at h1;have h2 : (au row).length = (au due).length := by
  rw [Srt.ext (ay row).1 (ay due).1 fun x => by
   rw [(ay _).2, (ay _).2];exact or_congr Iff.rfl ⟨fun ⟨k, hk, q⟩ => ⟨k, hp.mem_iff.mp hk, q⟩, fun ⟨k, hk, q⟩ => ⟨k, hp.mem_iff.mpr hk, q⟩⟩]
 exact h2 ▸ sBB h1
section
set_option tactic.hygienic true
theorem eA {w k : Key} {n : Str} : w ++ [n] <+: k ↔ k[w.length]? = some n ∧ k.take w.length = w := by
 constructor
 ·rintro ⟨t, rfl⟩;refine ⟨?_, ?_⟩
  ·rw [yf, x9 (z6 _), z5]; rfl
  rw [yf, List.take_append_of_le_length (z6 _), yv]
 rintro ⟨h1, h2⟩;have := ah h1;rw [h2] at this;exact this ▸ List.take_prefix ..
theorem tz (w : Key) : ∀ (ks : List Key) (ns : List Str), ns.Nodup → (ks.foldl (bhS w) ns).Nodup ∧ ∀ n, n ∈ ks.foldl (bhS w) ns ↔ n ∈ ns ∨ ∃ k ∈ ks, w ++ [n] <+: k
 | [], ns, h => ⟨h, fun n => by simp⟩
 | k :: ks, ns, h => by
  have hs : (bhS w ns k).Nodup ∧ ∀ n, n ∈ bhS w ns k ↔ n ∈ ns ∨ w ++ [n] <+: k := by
   unfold bhS;split
   ·rename_i m hm;split
    ·rename_i hc;refine ⟨?_, fun n => ?_⟩
     ·rw [List.nodup_append];refine ⟨h, by simp, fun a ha b hb e => ?_⟩;rw [yb] at hb;exact hc.2 (hb ▸ e ▸ ha)
     rw [yD, yb, eA, hm];exact or_congr Iff.rfl ⟨fun e => ⟨by rw [e], hc.1⟩, fun e => (Option.some.inj e.1).symm⟩
    rename_i hc;refine ⟨h, fun n => ⟨.inl, fun q => q.elim id fun q => ?_⟩⟩;rw [eA, hm] at q;have e := Option.some.inj q.1;subst e;by_cases hn : m ∈ ns
    ·exact hn
    exact absurd ⟨q.2, hn⟩ hc
   rename_i hm;refine ⟨h, fun n => ⟨.inl, fun q => q.elim id fun q => ?_⟩⟩;rw [eA, hm] at q;cases q.1
  obtain ⟨h1, h2⟩ := tz w ks (bhS w ns k) hs.1;refine ⟨h1, fun n => ?_⟩;rw [List.foldl_cons, h2, hs.2, or_assoc];refine or_congr Iff.rfl ⟨?_, ?_⟩
  ·rintro (q | ⟨z, hz, q⟩)
   ·exact ⟨k, xT .., q⟩
   exact ⟨z, xC _ hz, q⟩
  rintro ⟨z, hz, q⟩;rcases yy hz with rfl | hz
  ·exact .inl q
  exact .inr ⟨z, hz, q⟩
theorem vT (ks : List Key) (w : Key) : (bhd ks w).Nodup ∧ ∀ n, n ∈ bhd ks w ↔ ∃ k ∈ ks, w ++ [n] <+: k := by
 obtain ⟨h1, h2⟩ := tz w ks [] List.nodup_nil;exact ⟨h1, fun n => (h2 n).trans (by simp)⟩
noncomputable def par (W : List Key) : List Key := (W.filter fun w => decide (w ≠ [])).map List.dropLast
theorem hO {x : Key} (h : x ≠ []) : ∃ n, x = x.dropLast ++ [n] := by
 rcases xA x with rfl | ⟨y, n, rfl⟩
 ·exact absurd rfl h
 exact ⟨n, by rw [xz, xJ]⟩
theorem gR (due : List Key) (w : Key) : (par (au due)).count w = (bhd due w).length := by
 obtain ⟨b1, b2⟩ := vT due w;unfold par;rw [List.count_eq_countP, List.countP_map, List.countP_eq_length_filter, List.filter_filter, ← yA (as := bhd due w) (f := fun n => w ++ [n])];refine dI ((ay _).1.nodup.filter _) ?_ fun x => ?_
 ·unfold List.Nodup;rw [List.pairwise_map];exact b1.imp fun {a b} h q => h (by simpa using q)
 rw [yJ, List.mem_map, (ay _).2];simp only [Function.comp_apply, yu, yh, zk];constructor
 ·rintro ⟨h1, h2, h3⟩;obtain ⟨n, hn⟩ := hO h3;rw [h2] at hn;refine ⟨n, (b2 n).mpr ?_, hn.symm⟩;rcases h1 with q | ⟨k, hk, q⟩
  ·exact absurd q h3
  exact ⟨k, hk, hn ▸ q⟩
 rintro ⟨n, hn, rfl⟩;obtain ⟨k, hk, q⟩ := (b2 n).mp hn;exact ⟨.inr ⟨k, hk, q⟩, xJ, by simp⟩
noncomputable def fo (A : List Key) : Nat → List Key
 | 0 => []
 | i + 1 => match A[i]? with
  | some k => if k ∈ A.take i then fo A i else fo A i ++ [k]
  | none => fo A i
theorem oE (A : List Key) : ∀ i, i ≤ A.length → ∀ x, x ∈ fo A i ↔ x ∈ A.take i
 | 0, _, x => by simp [fo]
 | i + 1, h, x => by
  have ih := oE A i (yU ‹_›) x;have hg : A[i]? = some A[i] := xg ‹_›;unfold fo;rw [hg, ah hg, yD, yb];show x ∈ (if A[i] ∈ A.take i then fo A i else fo A i ++ [A[i]]) ↔ _;split
  ·rename_i q;rw [ih];exact ⟨.inl, fun z => z.elim id fun e => e ▸ q⟩
  rw [yD, yb, ih]
theorem th (A E : List Key) : ∀ i, i ≤ A.length → cd1 A E i = ((fo A i).filter fun k => decide (A.count k ≠ E.count k)).map fun k => (A.count k, E.count k, k)
 | 0, _ => rfl
 | i + 1, h => by
  have ih := th A E i (yU ‹_›);have hg : A[i]? = some A[i] := xg ‹_›;unfold cd1 fo;rw [hg];show (if A[i] ∈ A.take i ∨ A.count A[i] = E.count A[i] then _ else _) = (((if A[i] ∈ A.take i then fo A i else fo A i ++ [A[i]])).filter _).map _;by_cases q : A[i] ∈ A.take i
  ·rw [if_pos (.inl q), if_pos q, ih]
  rw [if_neg q, xZ, yC, ← ih];by_cases c : A.count A[i] = E.count A[i]
  ·rw [if_pos (.inr c)]; simp [c]
  rw [if_neg (fun z => z.elim q c)]; simp [c]
theorem tg {A E : List Key} (hE : E.Nodup) : ∀ i, i ≤ E.length → cd2 A E i = ((E.take i).filter fun k => decide (k ∉ A)).map fun k => (0, E.count k, k)
 | 0, _ => rfl
 | i + 1, h => by
  have ih := tg (A := A) hE i (yU ‹_›);have hg : E[i]? = some E[i] := xg ‹_›;have hno : E[i] ∉ E.take i := fun q => by
   obtain ⟨j, hj, e⟩ := xQ q;rw [yn] at hj;rw [List.getElem_take] at e;have := (List.getElem_inj hE).mp e;exact yQ i (this ▸ (Nat.lt_min.mp hj).1)
  unfold cd2;rw [hg, ah hg, xZ, yC, ← ih];show (if E[i] ∈ A ∨ E[i] ∈ E.take i then _ else _) = _;by_cases q : E[i] ∈ A
  ·rw [if_pos (.inl q)]; simp [q]
  rw [if_neg (fun z => z.elim q hno)]; simp [q]
theorem ps : ∀ {p q : Key} (s t : Key), ¬ p <+: q → kLt p q = true → kLt (p ++ s) (q ++ t) = true
 | [], q, s, t, h, _ => absurd List.nil_prefix h
 | a :: p, [], s, t, _, h => by cases h
 | a :: p, b :: q, s, t, h, hl => by
  have hl : (if a = b then kLt p q else sLt a b) = true := hl;show (if a = b then kLt (p ++ s) (q ++ t) else sLt a b) = true;split
  ·rename_i e;subst e;rw [if_pos rfl] at hl;exact ps s t (fun ⟨u, hu⟩ => h ⟨u, by rw [← hu]; rfl⟩) hl
  rename_i e;rwa [if_neg e] at hl
theorem sw {W : List Key} (hW : Srt W) (hc : ∀ x y, y <+: x → x ∈ W → y ∈ W) : ∀ i, i ≤ (par W).length → Srt (fo (par W) i)
 | 0, _ => .nil
 | i + 1, h => by
  have ih := sw hW hc i (yU ‹_›);have hg : (par W)[i]? = some (par W)[i] := xg ‹_›;unfold fo;rw [hg];show Srt (if (par W)[i] ∈ (par W).take i then _ else _);split
  ·exact ih
  rename_i hno;unfold Srt;rw [List.pairwise_append];refine ⟨ih, List.pairwise_singleton .., fun q hq p hp => ?_⟩;rw [yb] at hp;rw [oE _ i (Nat.le_of_succ_le h)] at hq;obtain ⟨j, hj, e⟩ := xQ hq;rw [yn] at hj;rw [List.getElem_take] at e;have hV : Srt (W.filter fun w => decide (w ≠ [])) := hW.filter _;have hlen : (par W).length = (W.filter fun w => decide (w ≠ [])).length := yA ..
  generalize hVd : (W.filter fun w => decide (w ≠ [])) = V at hV hlen;have hpar : ∀ k (hk : k < (par W).length), (par W)[k] = (V[k]'(by exact hlen ▸ hk)).dropLast := fun k hk => by
   subst hVd; exact List.getElem_map ..
  have hmem : ∀ z, z ∈ V ↔ z ∈ W ∧ z ≠ [] := fun z => by rw [← hVd, yJ, yh]
  rw [hpar j (by grind)] at e;rw [hp, hpar i ‹_›];have hij : kLt (V[j]'(by grind)) (V[i]'(by exact hlen ▸ h)) = true := List.pairwise_iff_getElem.mp hV j i (xU hj (yT (yo ..) (yV hlen))) (by lia) ((Nat.lt_min.mp hj).1);have hx := (hmem _).mp (yw (l := V) (n := j) (by lia));have hy := (hmem _).mp (yw (l := V) (n := i) (by lia));obtain ⟨m, hm⟩ := hO hx.2;obtain ⟨n, hn⟩ := hO hy.2;rw [hpar i ‹_›] at hno;generalize (V[i]'(by lia)).dropLast = p at *;rw [e] at hm;rcases cz q p with z | z | z
  ·exact z
  ·rw [← z] at hno; exact absurd hq hno
  exfalso;by_cases hpq : p <+: q
  ·obtain ⟨t, ht⟩ := hpq;cases t with
   | nil =>
    rw [yG] at ht;rw [ht, aO] at z; cases z
   | cons a t =>
    have hzq : p ++ [a] <+: q := ⟨t, by rw [← ht, yf]; rfl⟩
    have hzx : p ++ [a] <+: V[j]'(by lia) := by rw [hm]; exact hzq.trans (List.prefix_append ..)
    have hzV : p ++ [a] ∈ V := (hmem _).mpr ⟨hc _ _ hzx hx.1, by simp⟩;obtain ⟨l, hl, el⟩ := xQ hzV;have hlj : l ≤ j := by
     apply Decidable.byContradiction;intro hlt;have h1 : kLt (V[j]'(yW (Nat.not_le.mp hlt) hl)) (V[l]) = true := List.pairwise_iff_getElem.mp hV j l (by lia) ‹_› (Nat.lt_of_not_le ‹_›);rw [el] at h1;obtain ⟨u, hu⟩ := hzx;rw [← hu] at h1;cases u with
     | nil => rw [yG, aO] at h1; cases h1
     | cons b u => rw [eZ (jy (p ++ [a]) (l := b :: u) (by simp))] at h1; cases h1
    refine hno (xB (i := l) ?_);rw [xj (xV hlj (Nat.lt_min.mp hj).1), xg (by exact hlen ▸ hl), hpar l (by lia), el, xJ]
  rw [hm, hn] at hij;rw [eZ (ps [n] [m] hpq z)] at hij; cases hij
theorem tf (due : List Key) : cd1 (par (au due)) (au due) (par (au due)).length ++ cd2 (par (au due)) (au due) (au due).length =
  ((au due).filter fun w => decide (1 < (bhd due w).length)).map (fun w => ((bhd due w).length, 1, w)) ++ ((au due).filter fun w => decide ((bhd due w).length = 0)).map fun w => (0, 1, w) := by
 obtain ⟨hW, hm⟩ := ay due;have hcl : ∀ x y, y <+: x → x ∈ au due → y ∈ au due := fun x y hy hx => by
  rw [hm] at hx ⊢;rcases hx with rfl | ⟨k, hk, hp⟩
  ·exact .inl (List.prefix_nil.mp hy)
  exact .inr ⟨k, hk, hy.trans hp⟩
 have hone : ∀ w ∈ au due, (au due).count w = 1 := fun w hw => by rw [hW.nodup.count, if_pos hw]
 have hpm : ∀ w, w ∈ par (au due) ↔ 0 < (bhd due w).length := fun w => by rw [← gR, List.count_pos_iff]
 have hpw : ∀ w, w ∈ par (au due) → w ∈ au due := fun w hw => by
  obtain ⟨x, hx, rfl⟩ := yK hw;exact hcl x _ (List.dropLast_prefix x) (List.mem_filter.mp hx).1
 congr 1
 ·rw [th _ _ _ (z6 _)];have hfo : fo (par (au due)) (par (au due)).length = (au due).filter fun w => decide (0 < (bhd due w).length) := by
   refine Srt.ext (sw hW hcl _ (z6 _)) (hW.filter _) fun w => ?_
   rw [oE _ _ (z6 _), yv, yJ, yh, hpm];exact ⟨fun q => ⟨hpw w ((hpm w).mpr q), q⟩, And.right⟩
  rw [hfo, List.filter_filter];have hf : (au due).filter (fun a => decide ((par (au due)).count a ≠ (au due).count a) && decide (0 < (bhd due a).length)) = (au due).filter fun w => decide (1 < (bhd due w).length) := by
   refine List.filter_congr fun w hw => ?_
   rw [gR, hone w hw, yH, yu, yh, yh, yh];exact ⟨fun h => yc h.2 h.1.symm, fun h => ⟨yY h, zp h⟩⟩
  rw [hf];refine xP fun w hw => ?_
  rw [gR, hone w (List.mem_filter.mp hw).1]
 rw [tg hW.nodup _ (z6 _), yv];have hf : (au due).filter (fun k => decide (k ∉ par (au due))) = (au due).filter fun w => decide ((bhd due w).length = 0) := by
  refine List.filter_congr fun w _ => ?_
  rw [yH, yh, yh, hpm];exact Nat.not_lt.trans Nat.le_zero
 rw [hf];refine xP fun w hw => ?_
 rw [hone w (List.mem_filter.mp hw).1]
end
noncomputable def dbl (due : List Key) : Nat → List Key
 | 0 => []
 | n + 1 => if gk due n ∈ due.drop (n + 1) then gk due n :: dbl due n else dbl due n
theorem iB {x : Key} : ∀ {l : List Key}, l.Nodup → fi x l = l.filter fun k => decide (k ≠ x)
 | [], _ => rfl
 | a :: l, h => by
  obtain ⟨h1, h2⟩ := List.nodup_cons.mp h;unfold fi;rw [List.filter_cons];by_cases e : a = x
  ·subst e;rw [if_pos rfl, if_neg (by simp)];exact (List.filter_eq_self.mpr fun k hk => by rw [yh]; rintro rfl; exact h1 hk).symm
  rw [if_neg e, if_pos (by simpa using e), iB h2]
theorem nw {W due : List Key} (hW : W.Nodup) (hs : ∀ x ∈ due, x ∈ W) : ∀ (n : Nat), n ≤ due.length → ∀ m, uld (due.take n).reverse (W.filter fun k => decide (k ∉ due.drop n)) m = (m ++ dbl due n, W.filter fun k => decide (k ∉ due))
 | 0, _, m => by rw [yL, List.drop_zero]; show (m, _) = _; rw [show dbl due 0 = [] from rfl, yG]
 | n + 1, hn, m => by
  have hg : due[n]? = some (gk due n) := by unfold gk; rw [xg ‹_›]; rfl
  have hx := hs _ (xB hg);have hd : due.drop n = gk due n :: due.drop (n + 1) := dl hg;rw [ah hg, List.reverse_append];show (if gk due n ∈ _ then uld (due.take n).reverse (fi _ _) m else uld (due.take n).reverse _ (m ++ [gk due n])) = _;show _ = (m ++ (if gk due n ∈ due.drop (n + 1) then gk due n :: dbl due n else dbl due n), _)
  by_cases q : gk due n ∈ due.drop (n + 1)
  ·have h1 : gk due n ∉ W.filter fun k => decide (k ∉ due.drop (n + 1)) := fun z => by
    rw [yJ, yh] at z;exact z.2 q
   have h2 : (W.filter fun k => decide (k ∉ due.drop (n + 1))) = W.filter fun k => decide (k ∉ due.drop n) := by
    refine List.filter_congr fun k _ => ?_
    rw [hd, yH, yh, yh, List.mem_cons];exact not_congr ⟨.inr, fun z => z.elim (fun e => e ▸ q) id⟩
   rw [if_neg h1, if_pos q, h2, nw hW hs n (yU ‹_›), yf]; rfl
  have h1 : gk due n ∈ W.filter fun k => decide (k ∉ due.drop (n + 1)) := by
   rw [yJ, yh];exact ⟨hx, q⟩
  have h2 : fi (gk due n) (W.filter fun k => decide (k ∉ due.drop (n + 1))) = W.filter fun k => decide (k ∉ due.drop n) := by
   rw [iB (hW.filter _), List.filter_filter];refine List.filter_congr fun k _ => ?_
   rw [hd, yH, yu, yh, yh, yh, List.mem_cons, not_or]
  rw [if_pos h1, if_neg q, h2, nw hW hs n (Nat.le_of_succ_le hn)]
theorem tN {W : List Key} (hW : W.Nodup) (hs : ∀ x ∈ due, x ∈ W) : uld due.reverse W [] = (dbl due due.length, W.filter fun k => decide (k ∉ due)) := by
 have h := nw hW hs due.length (z6 _) [];rw [yv, List.drop_length] at h;rw [show (W.filter fun k => decide (k ∉ ([] : List Key))) = W from List.filter_eq_self.mpr fun _ _ => by simp] at h;exact h
theorem n7 (due : List Key) : ∀ n, ((List.range n).filter fun i => decide (gk due (n - 1 - i) ∈ due.drop (n - 1 - i + 1))).map (fun i => gk due (n - 1 - i)) = dbl due n
 | 0 => rfl
 | n + 1 => by
  show _ = if gk due n ∈ due.drop (n + 1) then gk due n :: dbl due n else dbl due n
  rw [List.range_succ_eq_map, List.filter_cons, List.filter_map, ← n7 due n];have e : ∀ i : Nat, n + 1 - 1 - (i + 1) = n - 1 - i := fun i => by exact sAA
  show (if decide (gk due (n + 1 - 1 - 0) ∈ due.drop (n + 1 - 1 - 0 + 1)) = true then _ else _ : List Nat).map _ = if gk due n ∈ due.drop (n + 1) then gk due n :: _ else _
  simp only [Nat.add_sub_cancel, Nat.sub_zero, yh];have e2 : ((List.range n).filter ((fun i => decide (gk due (n - i) ∈ due.drop (n - i + 1))) ∘ Nat.succ)) = (List.range n).filter fun i => decide (gk due (n - 1 - i) ∈ due.drop (n - 1 - i + 1)) := by
   refine List.filter_congr fun i _ => ?_
   show decide (gk due (n - (i + 1)) ∈ due.drop (n - (i + 1) + 1)) = _;rw [show n - (i + 1) = n - 1 - i by exact sAA]
  have e3 : ∀ l : List Nat, (l.map Nat.succ).map (fun i => gk due (n - i)) = l.map fun i => gk due (n - 1 - i) := fun l => by
   rw [z4];refine xP fun i _ => ?_
   show gk due (n - (i + 1)) = _;rw [show n - (i + 1) = n - 1 - i by lia]
  rw [e2];split
  ·rw [yR, e3, Nat.sub_zero]
  rw [e3]
theorem row_min {row : List Key} {m : Key} (hp : List.Perm row due) (h : row.Pairwise kLe) (hm : m ∈ due) (hl : ∀ x ∈ due, kLe m x) : gk row 0 = m := by
 cases row with
 | nil => exact absurd (hp.mem_iff.mpr hm) (by simp)
 | cons a row =>
  show a = m;have h1 := hl a (hp.mem_iff.mp (xT ..));refine mM ?_ h1;rcases yy (hp.mem_iff.mpr hm) with rfl | q
  ·exact dj _
  exact List.rel_of_pairwise_cons h q
theorem wB3 : ∀ n, n < 26 → wB n 3 ≤ 2 ^ 20 := by decide
theorem jR {k : Key} (h : i < k.length) : (pre k).take (i + 1) = (pre k).take i ++ [k.take (i + 1)] := by
 refine ah ?_
 delta pre
 rw [ye, List.getElem?_range h]; rfl
theorem m9 {x : Str} {s : a8} (hix : F.names[i]? = some x) (hb : Bnd F x) (hP : Pu (vals.set i (some v)) s) : TA K true d F vals s v (assign (.Name x p) F.env) Pu := lc hix hb hP
inductive HadA (σ1 : a8) (ks : List Key) (i : Nat) (v : ai) (s : a8) : Prop
 | mk (y1 y2 : Option Val) (h : i ≤ ks.length) (hv : v = [y1, y2]) (hs : s = σ1 ++ [.list (((ks.take i).flatMap pre).map kv)])
inductive HadB (σ1 : a8) (ks : List Key) (i : Nat) (k : Key) (q : Nat) (v : ai) (s : a8) : Prop
 | mk (y : Option Val) (h : q ≤ k.length) (hv : v = [some (kv k), y]) (hs : s = σ1 ++ [.list (((ks.take i).flatMap pre ++ (pre k).take q).map kv)])
theorem e_had (H : Wld K.toKB) {elt iter iter2 : Expr} {scope : Scope} {pos : Pos} {ki : Nat} {ks : List Key} {t1 t2 : Expr}
  (hi : EvE K true d F vals σ iter (.ref ki) σ1) (hk : σ1[ki]? = some (.list (ks.map kv))) (hsz : (ks.flatMap pre).length < 2 ^ 20) (hl : ∀ k ∈ ks, k.length < 1000)
  (hclos : closureFor scope F.env = pure []) (hkind : scope.kind = .function) (hnames : ∀ y ∈ scope.names, y.2 = .local → scope.names.lookup y.1 = some .local) (hnocell : ∀ y ∈ scope.names, y.2 ≠ .cell)
  (ht1 : ∃ p, t1 = .Name "old" p) (ht2 : ∃ p, t2 = .Name "k" p)
  (hb1 : ∀ C, Bnd (aW scope [] F.env ["old", "k"] C) "old") (hb2 : ∀ C, Bnd (aW scope [] F.env ["old", "k"] C) "k")
  (hit2 : ∀ (C : Addr) (k : Key) (y : Option Val) (s : a8), k.length < 1000 → eR K d (aW scope [] F.env ["old", "k"] C) [some (kv k), y] s iter2 (bd K 1 1 k.length) s)
  (helt : ∀ (C : Addr) (k : Key) (i : Nat) (s : a8), k.length < 1000 → EvE K true d (aW scope [] F.env ["old", "k"] C) [some (kv k), some (.int ((i : Int) + 1))] s elt (kv (k.take (i + 1))) s)
  (hs : ∀ x, foldedSetIterable iter F.env x = pure x := by intro _; rfl) (hs2 : ∀ env x, foldedSetIterable iter2 env x = pure x := by intro _ _; rfl) :
  EvE K true d F vals σ (.ListComp elt [⟨t1, iter, [], 0⟩, ⟨t2, iter2, [], 0⟩] scope pos) (.ref σ1.length) (σ1 ++ [.list ((ks.flatMap pre).map kv)]) := by
 obtain ⟨p1, rfl⟩ := ht1;obtain ⟨p2, rfl⟩ := ht2;refine iX (T := aQ K ki (ks.map kv).length) (locs := ["old", "k"]) (fr := []) (bB hi (bb hk)) bp hclos trivial trivial hkind hnames hnocell (yg rfl) (fun p hp => by cases hp) (fun C A φ s it acc Ro L racc R hR =>
  dP (T := aQ K ki (ks.map kv).length) (nz ..) (HadA σ1 ks) (fun i v s ⟨_, _, _, _, e⟩ => ⟨_, e ▸ ad _ hk, rfl⟩) br ?_ Ro L racc ⟨none, none, z7 _, rfl, rfl⟩
   fun φ' s' v' σ' i' X G' I' j he => hR φ' s' v' X ?_ I') hs
 ·rintro i v0 s v ⟨y1, y2, h1, rfl, rfl⟩ hv;rw [aG (ad _ hk), ye] at hv;obtain ⟨k, hkk, rfl⟩ := xf hv;have hkl := hl k (xB hkk);have hlt := (x7 hkk).1;have htk : (ks.take (i + 1)).flatMap pre = (ks.take i).flatMap pre ++ pre k := by rw [ah hkk, xN]; simp
  have hsub : ((ks.take i).flatMap pre).length + (pre k).length ≤ (ks.flatMap pre).length := by
   rw [← xR, ← htk]
   conv => rhs; rw [← List.take_append_drop (i + 1) ks, xN, xR]
   exact yp ..
  refine m9 (i := 0) rfl (hb1 C) (ov (hit2 C k y2 _ hkl) d7 (HadB σ1 ks i k) ⟨y2, z7 _, rfl, by rw [yL, yG]⟩ (fun _ _ _ _ => trivial) br ?_ ?_ (hs2 _))
  ·rintro q v0 s v ⟨y, hq, rfl, rfl⟩ hv;have hv : (if q < k.length then some (Val.int (1 + (q : Int) * 1)) else none) = some v := hv;split at hv
   ·rename_i hql;cases hv;rw [show (1 : Int) + (q : Int) * 1 = (q : Int) + 1 by lia];refine m9 (i := 1) rfl (hb2 C) ⟨_, _, _, helt C k q _ hkl, ae .., ?_, some (.int ((q : Int) + 1)), hql, rfl, ?_⟩
    ·rw [yA, xR, yn, dW];rw [dW] at hsub;exact xV (yT (xM (yo ..) _) hsub) hsz
    rw [mr, jR hql, ← yf, yC (l₂ := [k.take (q + 1)])]; rfl
   cases hv
  rintro q v s ⟨y, hq, rfl, rfl⟩ hend;have hend : (if q < k.length then some (Val.int (1 + (q : Int) * 1)) else none) = none := hend;split at hend
  ·cases hend
  rw [xp (l := pre k) (by rw [dW]; exact Nat.le_of_not_lt ‹_›), ← htk];exact ⟨_, _, hlt, rfl, rfl⟩
 obtain ⟨y1, y2, h1, h2, h3⟩ := j;subst h3;rw [aG (ad _ hk)] at he;have := x8 he;rw [yA] at this;rw [xp this] at G';exact G'
structure Gr (k kd r ki : Nat) (ks : List Key) (p : Nat) (s : a8) (N : Tab) : Prop where
 T : bc s N
 root : ([], r) ∈ N
 closed : am s
 inst : s[k]? = some (.inst kd)
 ns : s[kd]? = some (.ns r)
 list : s[ki]? = some (.list (ks.map kv))
 keys : ∀ w, w ∈ N.map (·.1) ↔ w = [] ∨ ∃ x ∈ ks.take p, w <+: x
 num : N.length ≤ 1 + 3 * p
theorem bc.notIn {s : a8} (T : bc s N) {i : Nat} {c : ag} (h : s[i]? = some c) (hc : ∀ l, c ≠ .dict l) : i ∉ N.map (·.2) := fun q => by
 obtain ⟨⟨w, j⟩, hp, e⟩ := yK q;have e : j = i := e;subst e;have := T.cell w j hp;rw [h] at this;exact hc _ (Option.some.inj this)
theorem Gr.more {p : Nat} {s : a8} (g : Gr k kd r ki ks p s N) (l : a8) (hc : am (s ++ l)) : Gr k kd r ki ks p (s ++ l) N :=
 ⟨g.T.more l, g.root, hc, ad l g.inst, ad l g.ns, ad l g.list, g.keys, g.num⟩
theorem Gr.step {p : Nat} {s : a8} {key : Key} (g : Gr k kd r ki ks p s N) (hk : ks[p]? = some key) (hl : key.length ≤ 3) :
  Gr k kd r ki ks (p + 1) (bw s N [] key).1 (bw s N [] key).2 ∧ s.length ≤ (bw s N [] key).1.length ∧ ∀ (i : Nat) (c : ag), s[i]? = some c → (∀ l, c ≠ .dict l) → (bw s N [] key).1[i]? = some c := by
 have h := gY g.T g.closed key key.length (z6 _);rw [yv] at h;have keep : ∀ (i : Nat) (c : ag), s[i]? = some c → (∀ l, c ≠ .dict l) → (bw s N [] key).1[i]? = some c := fun i c e hc => (h.keep i (x7 e).1 (g.T.notIn e hc)).trans e
 refine ⟨⟨h.T, h.old _ g.root, h.closed, keep _ _ g.inst nofun, keep _ _ g.ns nofun, keep _ _ g.list nofun, fun w => ?_, by have := h.num; have := g.num; exact yT ‹_› (yT (yN this hl) (yV rfl))⟩, h.len, keep⟩;rw [h.keys, g.keys, ah hk, or_assoc];refine or_congr Iff.rfl ⟨?_, ?_⟩
 ·rintro (⟨x, hx, q⟩ | q)
  ·exact ⟨x, xE _ hx, q⟩
  exact ⟨key, xy _ (xm _), q⟩
 rintro ⟨x, hx, q⟩;rcases yd hx with hx | hx
 ·exact .inl ⟨x, hx, q⟩
 rw [yb] at hx;exact .inr (hx ▸ q)
theorem Gr.ways {p : Nat} {s : a8} (g : Gr k kd r ki ks p s N) (hl : ∀ x ∈ ks, x.length ≤ 3) (hp : ∃ x ∈ ks.take p, x ≠ []) (hn : p ≤ 7) :
  (bl N 3 []).Nodup ∧ 2 ≤ (bl N 3 []).length ∧ (bl N 3 []).length < 64 ∧ ∀ x, x ∈ au (ks.take p) ↔ x ∈ bl N 3 [] := by
 have hd : ∀ x ∈ N.map (·.1), x.length ≤ ([] : Key).length + 3 := fun x hx => by
  rcases (g.keys x).mp hx with rfl | ⟨y, hy, q⟩
  ·exact z7 _
  have := q.length_le;have := hl y (xG hy);rw [List.length_nil]; exact yT ‹_› ‹_›
 have hm := k8 g.T 3 [] hd g.T.root;have hnd := ii g.T.nk 3 [];have hall : ∀ x, x ∈ au (ks.take p) ↔ x ∈ bl N 3 [] := fun x => by
  rw [(ay _).2, hm, g.keys];exact ⟨fun q => ⟨List.nil_prefix, q⟩, And.right⟩
 have hlen : (bl N 3 []).length = N.length := by
  rw [← yA (f := (·.1)) (as := N)];exact dI hnd g.T.nk fun x => by rw [hm]; exact ⟨And.right, fun q => ⟨List.nil_prefix, q⟩⟩
 refine ⟨hnd, ?_, by have := g.num; exact xV (yT (yV hlen) (yT this (xM (Nat.mul_le_mul_left 3 hn) 1))) (by decide), hall⟩;obtain ⟨x, hx, hne⟩ := hp;have h1 : x ∈ bl N 3 [] := (hall x).mp ((ay _).2 x |>.mpr (.inr ⟨x, hx, yx _⟩));have h2 : ([] : Key) ∈ bl N 3 [] := (hall []).mp ((ay _).2 [] |>.mpr (.inl rfl))
 match hw : bl N 3 [], h1, h2 with
 | [a], h1, h2 =>
  rw [yb] at h1 h2;exact absurd (h1.trans h2.symm) hne
 | a :: b :: l, _, _ => simp
theorem gB {l : List Key} (h : σ[i]? = some (.list (l.map kv))) (h' : σ[i']? = some (.list (l.map kv))) : EqR σ 2 (.ref i) (.ref i') true := by
 have := EqR.list (n := 1) (e := fun _ => true) h h' rfl fun j x y hx hy => by
  rw [hx] at hy;cases hy;rw [ye] at hx;obtain ⟨k, _, rfl⟩ := xf hx;have := lS (σ := σ) k k;rwa [decide_eq_true rfl] at this
 rwa [show ((List.range (l.map kv).length).all fun _ => true) = true from List.all_eq_true.mpr fun _ _ => rfl] at this
theorem qJ (k : Key) (p : Key → Bool) : ((dv k.length).filter fun v => p (k.take (nOf v))).map (fun v => kv (k.take (nOf v))) = ((pre k).filter p).map kv := by
 delta dv pre
 rw [List.filter_map, List.filter_map, z4, z4];rfl
theorem kb : ∀ l : List Key, (fw l).length ≤ l.length
 | [] => z6 _
 | a :: l => by
  have := kb l;unfold fw;split
  ·rw [ym]; exact yk ‹_›
  rw [ym, ym]; exact yj ‹_›
theorem tD (ks : List Key) : (au ks).length ≤ 1 + (ks.flatMap pre).length := by
 have h : List.Perm (au ks) (fw ([] :: ks.flatMap pre)) := List.mergeSort_perm ..
 rw [h.length_eq];have := kb ([] :: ks.flatMap pre);rw [ym] at this;exact yT this (yV (yX _ 1))
theorem oA : (i : Int) + 1 = ((i + 1 : Nat) : Int) := by rfl
inductive grJ (σ : a8) (k kd r ki : Nat) (ks : List Key) (p : Nat) (v : ai) (s : a8) : Prop
 | mk (N : Tab) (ia : Nat) (y3 : Option Val) (y4 : Option Val) (y5 : Option Val) (y6 : Option Val) (y7 : Option Val) (y8 : Option Val) (q0 : p ≤ ks.length) (q1 : Gr k kd r ki ks p s N) (q2 : (∀ (i : Nat) (l : List Val), σ[i]? = some (ag.list l) → s[i]? = some (ag.list l))) (q3 : s[ia]? = some (.list ((au (ks.take p)).map kv))) (q4 : v = [some (.ref k), some (.ref ki), some (.ref ia), y3, y4, y5, y6, y7, y8])
theorem sk (H : Wld K.toKB) {k kd r ki : Nat} {ks : List Key} {N : Tab} (g : Gr k kd r ki ks 0 σ N) (hn : ks.length ≤ 7) (hl : ∀ x ∈ ks, 1 ≤ x.length ∧ x.length ≤ 3) :
  PCX K true (d + 5) σ (.ref 447) [.ref k, .ref ki] [] (fun v s' => v = .bool true ∧ (∃ N', Gr k kd r ki ks ks.length s' N') ∧ ∀ (i : Nat) (l : List Val), σ[i]? = some (ag.list l) → s'[i]? = some (ag.list l)) := by
 have hsl : (2 : Nat) ^ 20 ≤ sizeLine := by decide
 refine H.defX (t := lg) (params := ["tree", "keys"]) (rest := ["ahead", "j", "key", "nest", "ways", "had", "new"]) (dflt := []) (xB (i := 25) rfl) (cD fun _ _ _ _ _ _ => rfl) rfl (by decide +kernel) (aL rfl) rfl rfl rfl fun L H => ?_
 show TSt _ _ _ _ _ _ (execs (ax (stm 55)) _) _;refine a9 (ab 2 (dk (aa (bD ac (by show 0 ≤ sizeLine; decide)) ac) (by show 1 ≤ sizeLine; decide)) rfl (.inl rfl) ?_);have hlen : (ks.map kv).length = ks.length := yA ..
 obtain ⟨hr1, hr2⟩ := il (n := ks.length) (xV ‹_› (by decide));refine a9 (gf (ix := 3) (T := bd _ 0 1 ks.length) (eG (cH (H.built rfl rfl) (.typ "range") (aa (aj (kl := []) (H.built rfl rfl) (.blt "len") (aa (a7 1 rfl rfl) ac) ao (bk (ad _ g.list) (by rw [hlen]; exact yT ‹_› (by decide)))) ac) jE) (by rw [hlen]; exact hr1) (by rw [hlen]; exact hr2)) rfl (.inl rfl)
  (grJ σ k kd r ki ks)
  ⟨N, σ.length, none, none, none, none, none, none, z7 _, g.more _ (g.closed.push (aI _ [[]])), fun i l h => ad _ h, by rw [yL, jM]; exact ae .., rfl⟩ (fun _ _ _ _ => trivial) ?_ ?_)
 ·rintro p v s ⟨N, ia, y3, y4, y5, y6, y7, y8, hp, g, ho, ha, rfl⟩ hend;have hend : (if p < ks.length then some (Val.int (0 + (p : Int) * 1)) else none) = none := hend;split at hend
  ·cases hend
  have : p = ks.length := by exact yE hp (yS ‹_›)
  subst this;exact a9 (bm h8 ⟨rfl, ⟨N, g⟩, ho⟩)
 rintro p v s w ⟨N, ia, y3, y4, y5, y6, y7, y8, hp, g, ho, ha, rfl⟩ hv;have hv : (if p < ks.length then some (Val.int (0 + (p : Int) * 1)) else none) = some w := hv;split at hv
 case isFalse => cases hv
 rename_i hpl;cases hv;rw [show (0 : Int) + (p : Int) * 1 = (p : Int) by lia];have hk : ks[p]? = some ks[p] := xg hpl;have hkl := hl _ (yw hpl);generalize ks[p] = key at hk hkl;have hkv : (ks.map kv)[p]? = some (kv key) := by rw [ye, hk]; rfl
 refine a9 (ab 4 (aV (a7 1 rfl rfl) (a7 3 rfl rfl) (ar g.list) (aq g.list hkv (yW (xU ‹_› ‹_›) (by decide)))) rfl (.inr ⟨rfl, _, .tail _ (.head _), rfl⟩) ?_);obtain ⟨g1, hlen1, keep1⟩ := g.step hk hkl.2;refine a9 (ab 5 (bZ (a7 0 rfl rfl) (vo H g.inst g.ns) (H.callee (t := lf) (xB (i := 28) rfl)) (aa (a7 4 rfl rfl) ac) (um (d := d + 3) H g.T g.closed g.inst g.ns g.root (by have := g.num; exact xV (yN (yT this (xM (Nat.mul_le_mul_left 3 (yU (xU hpl hn))) 1)) hkl.2) (by decide)))) rfl (.inl rfl) ?_);have ha1 := keep1 _ _ ha nofun;have ho1 := fun i l h => keep1 _ _ (ho i l h) nofun
 generalize (bw s N [] key).1 = s1 at g1 hlen1 keep1 ha1 ho1 ⊢;generalize (bw s N [] key).2 = N1 at g1 ⊢;have hkN : key ∈ N1.map (·.1) := (g1.keys key).mpr (.inr ⟨key, by rw [ah hk]; exact xy _ (xm _), yx _⟩);obtain ⟨i, hi⟩ := dg hkN;rw [dZ g1.T.nk hi];have hil := g1.T.lt (List.mem_map_of_mem (f := (·.2)) hi);refine a9 (be (b := false) (EvB.eq (av (a7 5 rfl rfl) (aj (kl := []) (H.name (v := .glob (.ref 425)) rfl rfl) (H.callee (t := va) (xB (i := 21) rfl)) (aa (dC H (a7 0 rfl rfl) g1.inst g1.ns) (aa (a7 4 rfl rfl) ac)) ao (at_ok (d := d + 3) H g1.T g1.root hi (xV hkl.2 (by decide)))) (mB hil hil)) (by simp)) nft fun _ => ak ?_);obtain ⟨w1, w2, w3, w4⟩ := g1.ways (fun x hx => (hl x hx).2) ⟨key, by rw [ah hk]; exact xy _ (xm _), fun q => by rw [q] at hkl; simp at hkl⟩ (xU ‹_› ‹_›);have hd3 : ∀ x ∈ N1.map (·.1), x.length ≤ ([] : Key).length + 3 := fun x hx => by
  rcases (g1.keys x).mp hx with rfl | ⟨y, hy, q⟩
  ·exact z7 _
  have := q.length_le;have := (hl y (xG hy)).2;rw [List.length_nil]; exact yT ‹_› ‹_›
 refine a9 (kx (i := 6) (n3 (L := bl N1 3 []) (S := au (ks.take (p + 1))) (H.built rfl rfl) (aj (kl := []) (H.name (v := .glob (.ref 418)) rfl rfl) (H.callee (t := j8) (xB (i := 20) rfl)) (aa (dC H (a7 0 rfl rfl) g1.inst g1.ns) (aa (bD ac (by show 0 ≤ sizeLine; decide)) ac)) ao
  (oU (d := d) 3 H (w := []) g1.T g1.closed g1.root hd3 (wB3 _ (by have := g1.num; exact xV (yT this (xM (Nat.mul_le_mul_left 3 (xU hpl hn)) 1)) (by decide))) (by show 0 + 3 < 1000; decide))) (ae ..) w1 (j1 ..) w2 w3 (ay _).1 w4) rfl (.inl rfl) ?_)
 have c1 := g1.closed.push (c := .list ((bl N1 3 []).map kv)) (aI _ _);have c2 := c1.push (c := .list ((au (ks.take (p + 1))).map kv)) (aI _ _);have g2 := (g1.more _ c1).more _ c2;have hw2 := ae (s1 ++ [ag.list ((bl N1 3 []).map kv)]) (.list ((au (ks.take (p + 1))).map kv));have ha2 := ad [ag.list ((au (ks.take (p + 1))).map kv)] (ad [ag.list ((bl N1 3 []).map kv)] ha1);have ho2 := fun i l h => ad [ag.list ((au (ks.take (p + 1))).map kv)] (ad [ag.list ((bl N1 3 []).map kv)] (ho1 i l h))
 generalize (s1 ++ [ag.list ((bl N1 3 []).map kv)]).length = iw at hw2 ⊢;generalize (s1 ++ [ag.list ((bl N1 3 []).map kv)]) ++ [ag.list ((au (ks.take (p + 1))).map kv)] = s2 at c2 g2 hw2 ha2 ho2 ⊢;clear c1 ha1 ho ho1 g1 hi hil hkN keep1 hlen1 w1 w2 w3 w4 hd3 ha g;have hfl : ((ks.take p).flatMap pre).length < 2 ^ 20 := by
  have h1 := gz pre 3 (ks.take p) fun x hx => by rw [dW]; exact (hl x (xG hx)).2
  rw [yn] at h1;exact xV (yT h1 (xH 3 (yT (yo ..) hn))) (by decide)
 have c3 := c2.push (c := .list ((ks.take p).map kv)) (aI _ _);have c4 := c3.push (c := .list (((ks.take p).flatMap pre).map kv)) (aI _ _);have hsl' := fun K' : KC => nK (K := K') (hn := true) (d := d + 4) (σ := s2) (j := p) g2.list (by rw [hlen]; exact yT ‹_› (by decide))
 rw [← List.map_take] at hsl';refine a9 (ab 7 (e_had H (ks := ks.take p) (b6 (a7 1 rfl rfl) bf (ap (a7 3 rfl rfl)) (ar g2.list) (hsl' _)) (ae ..) hfl (fun x hx => by have := (hl x (xG hx)).2; exact xV ‹_› (by decide))
  rfl rfl (by decide +kernel) (by decide +kernel) ⟨_, rfl⟩ ⟨_, rfl⟩ (fun C => .inl rfl) (fun C => .inl rfl)
  (fun C x y s hx => iT (cH (H.built rfl rfl) (.typ "range") (aa b7 (aa (aS (aj (kl := []) (H.built rfl rfl) (.blt "len") (aa (a7 0 rfl rfl) ac) ao (cf (by rw [yA]; exact yT (yU ‹_›) (by decide)))) b7 dM) ac)) dR) rfl (by rw [yA]) (yW ‹_› (by decide)))
  (fun C x q s hx => b6 (a7 0 rfl rfl) bf (ap (a7 1 rfl rfl)) cV (km oA (yT (yU ‹_›) (by decide))))) rfl (.inr ⟨rfl, _, .tail _ (.tail _ (.head _)), rfl⟩) ?_)
 have hh := ae (s2 ++ [ag.list ((ks.take p).map kv)]) (.list (((ks.take p).flatMap pre).map kv));have g4 := (g2.more _ c3).more _ c4;have hw4 := ad [ag.list (((ks.take p).flatMap pre).map kv)] (ad [ag.list ((ks.take p).map kv)] hw2);have ha4 := ad [ag.list (((ks.take p).flatMap pre).map kv)] (ad [ag.list ((ks.take p).map kv)] ha2);have ho4 := fun i l h => ad [ag.list (((ks.take p).flatMap pre).map kv)] (ad [ag.list ((ks.take p).map kv)] (ho2 i l h))
 generalize (s2 ++ [ag.list ((ks.take p).map kv)]).length = ih at hh ⊢;generalize (s2 ++ [ag.list ((ks.take p).map kv)]) ++ [ag.list (((ks.take p).flatMap pre).map kv)] = s4 at c4 g4 hw4 ha4 ho4 hh ⊢;clear c3 c2 g2 hw2 ha2 ho2 hsl';refine a9 (pa (ix := 8) (dv key.length) (fun v => !decide (key.take (nOf v) ∈ (ks.take p).flatMap pre)) (fun v => kv (key.take (nOf v))) (fun v => [v]) (T := bd _ 1 1 key.length) (locs := ["k"]) (fr := [("had", 7, .ref ih), ("key", 4, kv key)])
  (iT (cH (H.built rfl rfl) (.typ "range") (aa b7 (aa (aS (aj (kl := []) (H.built rfl rfl) (.blt "len") (aa (a7 4 rfl rfl) ac) ao (cf (by rw [yA]; exact yT hkl.2 (by decide)))) b7 dM) ac)) dR) rfl (by rw [yA]) (xV hkl.2 (by decide))) d7
  rfl ⟨⟨rfl, rfl⟩, ⟨rfl, rfl⟩, trivial⟩ ⟨⟨rfl, rfl, rfl⟩, ⟨rfl, rfl, rfl⟩, trivial⟩ rfl (by decide +kernel) (by decide +kernel) rfl ⟨rfl, rfl, trivial⟩
  (fun acc => l8) br (by rw [g7]; lia) (fun C i v w acc hv hw => bP rfl (.inl rfl) hw) (fun C i v acc hv => ?_) rfl rfl ?_)
 ·obtain ⟨hi, rfl⟩ := j2 hv;exact ⟨cr (av (b6 (a7 2 rfl rfl) bf (ap (a7 0 rfl rfl)) cV (km oA (yT hkl.2 (by decide)))) (a7 1 rfl rfl) (gj (ad _ hh))),
   fun _ => b6 (a7 2 rfl rfl) bf (ap (a7 0 rfl rfl)) cV (km oA (by lia))⟩
 have e5 : ((dv key.length).filter fun v => !decide (key.take (nOf v) ∈ (ks.take p).flatMap pre)).map (fun v => kv (key.take (nOf v))) = ((pre key).filter fun x => decide (x ∉ (ks.take p).flatMap pre)).map kv := by
  rw [← qJ key fun x => decide (x ∉ (ks.take p).flatMap pre)];simp only [decide_not]
 rw [e5, ← nj, ← ah hk];have hgone := qF (ks.take p) key;rw [← ah hk] at hgone;have c5 := c4.push (c := .list (((au (ks.take (p + 1))).filter fun x => decide (x ∉ au (ks.take p))).map kv)) (aI _ _);have g5 := g4.more _ c5;have hw5 := ad [ag.list (((au (ks.take (p + 1))).filter fun x => decide (x ∉ au (ks.take p))).map kv)] hw4;have ha5 := ad [ag.list (((au (ks.take (p + 1))).filter fun x => decide (x ∉ au (ks.take p))).map kv)] ha4;have hn5 := ae s4 (.list (((au (ks.take (p + 1))).filter fun x => decide (x ∉ au (ks.take p))).map kv));have ho5 := fun i l h => ad [ag.list (((au (ks.take (p + 1))).filter fun x => decide (x ∉ au (ks.take p))).map kv)] (ho4 i l h)
 generalize s4.length = inw at hn5 ⊢;generalize s4 ++ [ag.list (((au (ks.take (p + 1))).filter fun x => decide (x ∉ au (ks.take p))).map kv)] = s5 at c5 g5 hw5 ha5 ho5 hn5 ⊢;clear c4 g4 hw4 ha4 ho4 hh;have hWl : ∀ q, q ≤ 7 → (au (ks.take q)).length < 1000 := fun q hq => by
  have h1 := tD (ks.take q);have h2 := gz pre 3 (ks.take q) fun x hx => by rw [dW]; exact (hl x (xG hx)).2
  rw [yn] at h2;exact xV (yT h1 (xM (yT h2 (xH 3 (yT (yo ..) hn))) 1)) (by decide)
 have hsd := fun K' : KC => fun H' : Wld K'.toKB => ri (K := K') (d := d + 3) H' hw5 ha5 (ay _).1 (ay _).1 (hWl _ (xU hpl hn)) (hWl _ (yT ‹_› ‹_›)) c5
 rw [hgone] at hsd;generalize hD : ((au (ks.take (p + 1))).filter fun x => decide (x ∉ au (ks.take p))) = D at hsd hn5;have c6 := ((c5.push (c := .list (D.map kv)) (aI _ _)).push (c := .list (([] : List Key).map kv)) (aI _ _)).push (c := .list []) rfl;have e6 : s5 ++ [ag.list (D.map kv)] ++ [ag.list (([] : List Key).map kv)] ++ [ag.list []] = s5 ++ [ag.list (D.map kv), ag.list (([] : List Key).map kv)] ++ [ag.list []] := by simp
 rw [e6, yf] at c6;have g6 := g5.more _ c6;have hw6 := ad ([ag.list (D.map kv), ag.list (([] : List Key).map kv)] ++ [ag.list []]) hw5;have ho6 := fun i l h => ad ([ag.list (D.map kv), ag.list (([] : List Key).map kv)] ++ [ag.list []]) (ho5 i l h)
 rw [← yf] at g6 hw6 ho6;refine a9 (be (b := false) (EvB.eq (av (aj (kl := []) (H.name (v := .glob (.ref 309)) rfl rfl) (H.callee (t := dE) (xB (i := 15) rfl)) (aa (a7 6 rfl rfl) (aa (a7 2 rfl rfl) ac)) ao (hsd _ H)) (bD (aa (a7 8 rfl rfl) (aa (dk ac) ac)) (by show 2 ≤ sizeLine; decide))
  (mz (n := 2) (e := fun _ => true) (fun j x y hx hy => ?_) (by decide))) rfl) nft fun _ => ak ?_)
 ·match j, hx, hy with
  | 0, hx, hy =>
   cases hx; cases hy;exact gB (ad _ (at0 s5 [ag.list (([] : List Key).map kv)] (.list (D.map kv)))) (ad _ (ad _ hn5))
  | 1, hx, hy =>
   cases hx; cases hy;exact gB (l := []) (ad _ (at1 s5 [] (.list (D.map kv)) (.list (([] : List Key).map kv)))) (ae ..)
 exact a9 (ab 2 (a7 6 rfl rfl) rfl (.inl rfl) (ak ⟨N1, iw, _, _, _, _, _, _, hpl, g6, ho6, hw6, rfl⟩))
section
variable {src : Str} {P L R : List Nat}
theorem dG (h : src.cps.toList = P ++ L) (j : Nat) : src.cps[P.length + j]? = L[j]? := by
 rw [← xu, h, x9 (yp ..), xn]
theorem tC (h : src.cps.toList = P ++ L) (a b : Nat) : sg src (P.length + a) (P.length + b) = ⟨((L.drop a).take (b - a)).toArray⟩ := by
 unfold sg;rw [h, show P.length + b - (P.length + a) = b - a by exact Nat.add_sub_add_left .., List.drop_append, xr (yp _ _), List.nil_append, xn]
theorem iZ (h : src.cps.toList = P ++ L) : src.cps.size = P.length + L.length := by
 rw [← xK, h, xR]
noncomputable def mf (c : Nat) : Bool := c == 46 || c == 32 || c == 61
theorem md3 (r : Int) : md r 3 = md r 6 % 3 := by
 unfold md;rw [Int.fmod_eq_emod_of_nonneg _ (by decide), Int.fmod_eq_emod_of_nonneg _ (by decide)];exact (congrArg Int.toNat (Int.emod_emod_of_dvd r ⟨2, rfl⟩).symm).trans (Int.toNat_emod (Int.emod_nonneg r (by decide)) (by decide))
theorem rc {c : Nat} (h : mf c = true) : fh ef ⟨#[c]⟩ = false := by
 have hc : c = 46 ∨ c = 32 ∨ c = 61 := by simpa [mf, or_assoc] using h
 rcases hc with rfl | rfl | rfl <;> decide +kernel
theorem read0 {c : Nat} (h : src.cps.toList = P ++ (97 :: c :: R)) (hc : mf c = true) : KP src P.length (P.length + 1) ⟨#[97]⟩ := by
 have hg := dG h;have hz := iZ h;have hs : sg src P.length (P.length + 1) = ⟨#[97]⟩ := tC h 0 1;rw [← hs];refine .bare (yq _) (by rw [hz]; simp) (fun k x h1 h2 hx => ?_) fun x hx => ?_
 ·have : k = P.length + 0 := by exact yE (yi h2) h1
  rw [this, hg 0] at hx;cases hx;decide +kernel
 rw [hg 1] at hx;cases hx;exact rc hc
theorem my {m : List Nat} (h : src.cps.toList = P ++ (39 :: (m ++ 39 :: R))) (hm : ∀ c ∈ m, c ≠ 39 ∧ 32 ≤ c ∧ c < 127) : KP src P.length (P.length + (m.length + 2)) ⟨m.toArray⟩ := by
 have hg := dG h;have hs : sg src (P.length + 1) (P.length + (m.length + 1)) = ⟨m.toArray⟩ := by
  rw [tC h];show (⟨((m ++ 39 :: R).take (m.length + 1 - 1)).toArray⟩ : Str) = _;rw [Nat.add_sub_cancel, List.take_append_of_le_length (z6 _), yv]
 have hk : ∀ j, j < m.length → src.cps.toList[P.length + 1 + j]? = m[j]? := fun j hj => by
  rw [xu, Nat.add_assoc, yX 1 j, hg (j + 1)];show (m ++ 39 :: R)[j]? = _;rw [xc hj]
 have := KP.lit (src := src) (i := P.length) (j := P.length + (m.length + 1)) (hg 0) (yt (yp ..)) (by
  rw [xu, hg];show (m ++ 39 :: R)[m.length]? = _;rw [x9 (z6 _), z5]; rfl) (fun k h1 h2 q => by
  have e : k = P.length + 1 + (k - (P.length + 1)) := by exact (sG h1).symm
  rw [e, hk _ (Nat.sub_lt_left_of_lt_add h1 (Nat.lt_of_lt_of_eq h2 (xW P.length m.length 1)))] at q;exact (hm 39 (xB q)).1 rfl) (fun c hc => by
  rw [hs] at hc;exact (hm c hc).2)
 rw [hs] at this;exact this
theorem fF {e : Nat} {T : List Nat} (h0 : src.cps[P.length]? = some 34) (hT : T.length < 2 ^ 20) (hB : BS src (P.length + 1) e T) : KP src P.length (e + 1) ⟨T.toArray⟩ := .basic h0 hT hB
theorem kA {r : Int} {c : Nat} (h : src.cps.toList = P ++ ((aP r).cps.toList ++ c :: R)) (hc : mf c = true) : KP src P.length (P.length + (aP r).cps.toList.length) (bA r) := by
 unfold bA;rw [md3];unfold aP at *;have h6 : md r 6 < 6 := dN r (by decide);generalize md r 6 = f at *;have hg := dG h;have hs := tC h
 match f, h6 with
 | 0, _ => exact read0 h hc
 | 1, _ => exact my (m := []) h (fun c hc => by cases hc)
 | 2, _ => exact my (m := [97, 46, 98]) h (by decide)
 | 3, _ => exact fF (hg 0) (by decide) (.esc (hg 1) (hs 1 3) (.inl ⟨hs 3 7, rfl⟩) (.close (hg 7)))
 | 4, _ => exact fF (hg 0) (by decide) (.close (hg 1))
 | 5, _ => exact fF (hg 0) (by decide) (.plain (hg 1) (by decide) (by decide) (by decide) (by decide) (.esc (hg 2) (hs 2 4) (.inr ⟨hs 4 8, rfl⟩) (.plain (hg 8) (by decide) (by decide) (by decide) (by decide) (.close (hg 9)))))
noncomputable def bE (rs : List Int) : List Nat := rs.flatMap fun r => (d6 r).cps.toList ++ (aP r).cps.toList
theorem kt (r : Int) : d6 r = ⟨#[46]⟩ ∨ d6 r = ⟨#[32, 46, 9]⟩ := by
 unfold d6;have : md (r.fdiv 6) 2 < 2 := dN _ (by decide);generalize md (r.fdiv 6) 2 = f at *
 match f, this with
 | 0, _ => exact .inl rfl
 | 1, _ => exact .inr rfl
theorem qs (r : Int) : ∃ c l, (aP r).cps.toList = c :: l ∧ fh [32, 9] ⟨#[c]⟩ = false := by
 unfold aP;have : md r 6 < 6 := dN _ (by decide);generalize md r 6 = f at *
 match f, this with
 | 0, _ => exact ⟨_, _, rfl, by decide +kernel⟩
 | 1, _ => exact ⟨_, _, rfl, by decide +kernel⟩
 | 2, _ => exact ⟨_, _, rfl, by decide +kernel⟩
 | 3, _ => exact ⟨_, _, rfl, by decide +kernel⟩
 | 4, _ => exact ⟨_, _, rfl, by decide +kernel⟩
 | 5, _ => exact ⟨_, _, rfl, by decide +kernel⟩
theorem kg (rs : List Int) (R : List Nat) : ∃ c l, bE rs ++ 61 :: R = c :: l ∧ mf c = true := by
 cases rs with
 | nil => exact ⟨61, R, rfl, rfl⟩
 | cons r rs =>
  unfold bE;rw [List.flatMap_cons];rcases kt r with e | e <;> rw [e] <;> exact ⟨_, _, rfl, rfl⟩
theorem l7 {c : Nat} (h : src.cps.toList = P ++ c :: R) (hc : fh [32, 9] ⟨#[c]⟩ = false) : WS src P.length P.length := by
 refine ⟨z6 _, by rw [iZ h]; simp, fun k x h1 h2 => by exact absurd ‹_› (yO ‹_›), fun x hx => ?_⟩;have := dG h 0;rw [Nat.add_zero] at this;rw [this] at hx;cases hx;exact hc
theorem qG {b c : Nat} (h : src.cps.toList = P ++ b :: c :: R) (hb : fh [32, 9] ⟨#[b]⟩ = true) (hc : fh [32, 9] ⟨#[c]⟩ = false) : WS src P.length (P.length + 1) := by
 refine ⟨z8 _, by rw [iZ h]; simp, fun k x h1 h2 hx => ?_, fun x hx => ?_⟩
 ·have : k = P.length + 0 := by exact yE (yi h2) h1
  rw [this, dG h 0] at hx;cases hx;exact hb
 rw [dG h 1] at hx;cases hx;exact hc
theorem kf : ∀ (rs : List Int) (P R : List Nat), src.cps.toList = P ++ (bE rs ++ 61 :: R) → ∃ p, WS src P.length p ∧ KR src p (P.length + (bE rs).length) (rs.map bA)
 | [], P, R, h => by
  refine ⟨P.length, l7 (R := R) h (by decide +kernel), .stop (c := 61) (dG h 0) (by decide)⟩
 | r :: rs, P, R, h => by
  have ht : bE (r :: rs) = (d6 r).cps.toList ++ ((aP r).cps.toList ++ bE rs) := by unfold bE; rw [List.flatMap_cons, yf]
  rw [ht] at h ⊢;obtain ⟨c, l, hcl, hc⟩ := kg rs R;obtain ⟨f, fl, hf, hfw⟩ := qs r;have go : ∀ (S : List Nat) (p q : Nat), src.cps.toList = S ++ ((aP r).cps.toList ++ (bE rs ++ 61 :: R)) → q = S.length → src.cps[p]? = some 46 → WS src (p + 1) q → ∃ e, e = S.length + ((aP r).cps.toList.length + (bE rs).length) ∧ KR src p e ((r :: rs).map bA) := by
   rintro S p _ hS rfl hp hw;obtain ⟨p', hw', hk'⟩ := kf rs (S ++ (aP r).cps.toList) R (by rw [yf]; exact hS);rw [xR] at hw' hk';have hpart := kA (r := r) (P := S) (c := c) (R := l) (by rw [← hcl]; exact hS) hc;exact ⟨_, rfl, by have := KR.dot hp hw hpart hw' hk'; rw [Nat.add_assoc] at this; exact this⟩
  rcases kt r with e | e
  ·rw [e] at h ⊢;have h1 : src.cps.toList = (P ++ [46]) ++ ((aP r).cps.toList ++ (bE rs ++ 61 :: R)) := by rw [h]; simp
   obtain ⟨x, rfl, hk⟩ := go (P ++ [46]) P.length (P.length + 1) h1 (by simp) (dG h 0) (by
    have := l7 (P := P ++ [46]) (R := fl ++ (bE rs ++ 61 :: R)) (by rw [h1, hf]; rfl) hfw;rwa [xR] at this)
   refine ⟨P.length, l7 (R := (aP r).cps.toList ++ (bE rs ++ 61 :: R)) (c := 46) (by rw [h1, yf]; rfl) (by decide +kernel), ?_⟩;rw [xR] at hk;rw [xR, xR, ← Nat.add_assoc];exact hk
  rw [e] at h ⊢;have h1 : src.cps.toList = (P ++ [32, 46, 9]) ++ ((aP r).cps.toList ++ (bE rs ++ 61 :: R)) := by rw [h]; simp
  have h2 : src.cps.toList = (P ++ [32, 46]) ++ 9 :: ((aP r).cps.toList ++ (bE rs ++ 61 :: R)) := by rw [h]; simp
  obtain ⟨x, rfl, hk⟩ := go (P ++ [32, 46, 9]) (P.length + 1) (P.length + 3) h1 (by simp) (dG h 1) (by
   have := qG (P := P ++ [32, 46]) (b := 9) (c := f) (R := fl ++ (bE rs ++ 61 :: R)) (by rw [h2, hf]; rfl) (by decide +kernel) hfw;rwa [xR] at this)
  refine ⟨P.length + 1, qG (b := 32) (c := 46) (R := 9 :: ((aP r).cps.toList ++ (bE rs ++ 61 :: R))) (by rw [h1, yf]; rfl) (by decide +kernel) (by decide +kernel), ?_⟩;rw [xR] at hk;rw [xR, xR, ← Nat.add_assoc];exact hk
noncomputable def dc (x : Int) : Nat → List Int
 | 0 => []
 | n + 1 => dc x n ++ [(mst x (n + 1)).rest]
theorem eW (x : Int) : ∀ n, (mst x (n + 1)).key = bA (x.fdiv 3) :: (dc x n).map bA ∧ (mst x (n + 1)).w.cps.toList = (aP (x.fdiv 3)).cps.toList ++ bE (dc x n)
 | 0 => ⟨rfl, by
  show ((if (0 : Nat) = 0 then (⟨#[]⟩ : Str) else _) ++ aP (x.fdiv 3)).cps.toList = _;rw [if_pos rfl];show ((#[] : Array Nat) ++ (aP (x.fdiv 3)).cps).toList = _;simp [bE, dc]⟩
 | n + 1 => by
  obtain ⟨h1, h2⟩ := eW x n;refine ⟨?_, ?_⟩
  ·show (mst x (n + 1)).key ++ [bA (mst x (n + 1)).rest] = _;rw [h1];show _ = bA (x.fdiv 3) :: (dc x n ++ [(mst x (n + 1)).rest]).map bA;rw [yC]; rfl
  show ((if n + 1 = 0 then _ else (mst x (n + 1)).w ++ d6 (mst x (n + 1)).rest) ++ aP (mst x (n + 1)).rest).cps.toList = _;rw [if_neg (by lia)];show (((mst x (n + 1)).w.cps ++ (d6 (mst x (n + 1)).rest).cps) ++ (aP (mst x (n + 1)).rest).cps).toList = _;rw [xO, xO, h2];show _ = _ ++ bE (dc x n ++ [(mst x (n + 1)).rest]);unfold bE;rw [xN];simp
theorem gP (x : Int) : ∀ n, (dc x n).length = n
 | 0 => rfl
 | n + 1 => by
  show (dc x n ++ [_]).length = _;rw [xR, gP x n]; rfl
theorem kc : ∀ (xs : List Int) (P : List Nat), src.cps.toList = P ++ xs.flatMap (fun x => (mwr x).cps.toList ++ [61]) → RS src P.length (xs.map df)
 | [], P, h => by
  have : src.length = P.length := by show src.cps.size = _; rw [iZ h]; rfl
  rw [← this];exact .done
 | x :: xs, P, h => by
  rw [List.flatMap_cons] at h;have hm : md x 3 < 3 := dN _ (by decide);have e1 : df x = bA (x.fdiv 3) :: (dc x (md x 3)).map bA := by unfold df; rw [yX]; exact (eW x _).1
  have e2 : (mwr x).cps.toList = (aP (x.fdiv 3)).cps.toList ++ bE (dc x (md x 3)) := by unfold mwr; rw [yX]; exact (eW x _).2
  have ih := kc xs (P ++ ((mwr x).cps.toList ++ [61])) (by rw [h]; simp);generalize hR : xs.flatMap (fun x => (mwr x).cps.toList ++ [61]) = R at h;rw [e2] at h;have h1 : src.cps.toList = P ++ ((aP (x.fdiv 3)).cps.toList ++ (bE (dc x (md x 3)) ++ 61 :: R)) := by rw [h]; simp
  have h2 : src.cps.toList = (P ++ (aP (x.fdiv 3)).cps.toList) ++ (bE (dc x (md x 3)) ++ 61 :: R) := by rw [h1, yf]
  obtain ⟨c, l, hcl, hc⟩ := kg (dc x (md x 3)) R;obtain ⟨p, hw, hk⟩ := kf _ _ _ h2;rw [xR] at hw hk;have h3 : src.cps.toList = (P ++ (mwr x).cps.toList) ++ 61 :: R := by rw [h1, e2]; simp
  have he := dG h3 0;have hl : P.length + (aP (x.fdiv 3)).cps.toList.length + (bE (dc x (md x 3))).length = (P ++ (mwr x).cps.toList).length := by rw [xR, e2, xR, Nat.add_assoc]
  rw [hl] at hk;show RS src P.length (df x :: xs.map df);rw [e1];refine .key (kA (R := l) (by rw [← hcl]; exact h1) hc) hw hk (by rw [yA, gP]; exact xU ‹_› (yF _ _)) he ?_;rw [← yf, xR] at ih;exact ih
theorem rJ (x : Int) : 1 ≤ (df x).length ∧ (df x).length ≤ 3 := by
 have hm : md x 3 < 3 := dN _ (by decide);have e1 : df x = bA (x.fdiv 3) :: (dc x (md x 3)).map bA := by unfold df; rw [yX]; exact (eW x _).1
 rw [e1, ym, yA, gP];exact ⟨Nat.succ_pos _, hm⟩
end
theorem qX {α : Type} (f : α → Nat) (b : Nat) : ∀ l : List α, (∀ x ∈ l, f x ≤ b) → (l.map f).sum ≤ l.length * b
 | [], _ => by simp
 | a :: l, h => by
  have h1 := h a (.head _);have h2 := qX f b l fun x hx => h x (.tail _ hx)
  rw [yR, List.sum_cons, ym, Nat.succ_mul]; exact yT (yN h1 h2) (yV (yX ..))
theorem kK : ∀ l : List Str, (Str.join ⟨#[]⟩ l).cps.toList = l.flatMap fun x => x.cps.toList
 | [] => rfl
 | [a] => by show a.cps.toList = _; simp
 | a :: b :: l => by
  have := kK (b :: l);show (a.cps ++ (⟨#[]⟩ : Str).cps ++ (Str.join ⟨#[]⟩ (b :: l)).cps).toList = _;rw [xO, xO, this];simp
theorem rX (l : List Str) : (Txt.join ⟨#[]⟩ l).cps.toList = l.flatMap fun x => x.cps.toList := by
 rw [show Txt.join ⟨#[]⟩ l = Str.join ⟨#[]⟩ l from eq_of_beq (join_plain_closes _ _)];exact kK l
noncomputable def mp (x : Int) : Val := .tup [kv (df x), .str (mwr x)]
noncomputable def se : Val → Int
 | .int i => i
 | _ => 0
noncomputable def two : Val → List Val
 | .tup l => l
 | _ => []
noncomputable def eqS : Str := "="
noncomputable def wrOf (v : Val) : Val := match two v with
 | [_, .str w] => .str (w ++ eqS)
 | _ => .none
theorem hY (n : Nat) (l : List Int) : bx n (l.map Val.int) = true := by
 rw [bu];intro v hv;obtain ⟨x, _, rfl⟩ := yK hv;rfl
theorem nf (n : Nat) (l : List Int) : bx n (l.map mp) = true := by
 rw [bu];intro v hv;obtain ⟨x, _, rfl⟩ := yK hv;unfold mp bel;rw [bu];intro w hw;rcases yy hw with rfl | hw
 ·exact m0 ..
 rw [List.mem_singleton.mp hw]; rfl
theorem bY {α : Type} (l : List α) : (l.filter fun _ => true) = l := List.filter_eq_self.mpr fun _ _ => rfl
theorem rL (ns : List Int) (i : Nat) : (((ns.map Val.int).take i).filter fun _ => true).map (fun v => mp (se v)) = (ns.take i).map mp := by
 rw [bY, ← List.map_take, z4]; rfl
noncomputable abbrev lawN : List Str := ["script", "draw", "made", "due", "keys", "tree", "ways", "row", "shared", "told", "forks", "doubles"]
noncomputable abbrev cK (L : Addr) : Frm := frm oW L lawN
noncomputable abbrev gV : FR → ai → a8 → Prop := fnX fun v _ => v = .bool true
def du (K : KB) (a : Addr) (xs : List Int) : Prop := ∃ vs : Array Value, K.h0.IsList a vs ∧ ∀ φ h, RL φ h (xs.map Val.int) vs.toList
theorem du.now {xs : List Int} (h : du K.toKB a xs) {φ : List Addr} {s : Shared} (G : af K φ σ s) : ∃ vs : Array Value, s.heap.IsList a vs ∧ RL φ s.heap (xs.map Val.int) vs.toList := by
 obtain ⟨vs, ⟨o, ho, hc, hd⟩, hr⟩ := h;exact ⟨vs, ⟨o, G.base _ _ ho, hc, hd⟩, hr _ _⟩
theorem oB {xs : List Int} (h : du K.toKB a xs) : fZ K σ (.glob (.ref a)) := fun φ s V G r => by
 unfold RV at r;subst r;obtain ⟨vs, x, _⟩ := h.now G;exact ⟨"list", _, x.typeIs, list_getitem_lookup⟩
theorem pT {xs : List Int} (h : du K.toKB a xs) (hx : xs.length < 1000) : PSl K hn d σ (.glob (.ref a)) none (some (j : Int)) (.ref σ.length) (σ ++ [.list ((xs.map Val.int).take j)]) := fun A φ s V vl vu sl R G r b1 b2 hs Q E hQ => by
 unfold RV at r;subst r;obtain ⟨vs, x, q⟩ := h.now G;have hlen : vs.size = xs.length := by have := q.length; rw [xK, yA] at this; exact this
 refine wpAny_getItem_list_slice x hs (ed b1) (ed b2) .none (by simp) ?_ (by rw [hlen]; exact yT (yU hx) (by decide));have X := Ext.alloc φ s { cls := .type "list", data := .seq (slicePick vs none (some (j : Int)) none) };refine hQ _ _ _ X (G.alloc _ (.list _) ⟨_, slicePick vs none (some (j : Int)) none, 0, xL _ rfl, ⟨rfl, rfl, rfl⟩, rfl, RL.ext G X (by rw [slicePick_upto']; simpa using RL.take j q)⟩) ?_;unfold RV;exact ⟨s.heap.objs.size, by rw [← G.len]; simp, rfl⟩
theorem law_a (H : Wld K.toKB) {L : Addr} {k : Addr} {xs : List Int} (hk : du K.toKB k xs) (hx : xs.length < 1000) (hc : am σ)
  (kont : ∀ (s5 : a8) (jd im iu : Nat), am s5 → s5[im]? = some (.list (([262, 0, 2168] ++ xs.take 4).map mp)) → s5[iu]? = some (.list ((([262, 0, 2168] ++ xs.take 4).map df).map kv)) →
   TSt K true (d + 11) (cK L) [some (.glob (.ref k)), some (.ref jd), some (.ref im), some (.ref iu), none, none, none, none, none, none, none, none] s5 (execs ((ax (stm 56)).drop 3) (cK L).env) gV) :
  TSt K true (d + 11) (cK L) (some (.glob (.ref k)) :: List.replicate 11 none) σ (execs (ax (stm 56)) (cK L).env) gV := by
 have hsl : (2 : Nat) ^ 20 ≤ sizeLine := by decide
 refine a9 (ab 1 (b6 (a7 0 rfl rfl) bf (ap b7) (oB hk) (pT (j := 4) hk hx)) rfl (.inl rfl) ?_);rw [show (xs.map Val.int).take 4 = (xs.take 4).map Val.int from (List.map_take ..).symm];generalize hys : xs.take 4 = ys;have hyl : ys.length ≤ 4 := by rw [← hys, yn]; exact Nat.min_le_left ..
 have c1 : am (σ ++ [.list (ys.map Val.int)]) := hc.push (hY _ _);generalize hs1 : σ ++ [ag.list (ys.map Val.int)] = s1 at c1 ⊢;have hd1 : s1[σ.length]? = some (.list (ys.map Val.int)) := hs1 ▸ ae ..
 generalize hns : [262, 0, 2168] ++ ys = ns;have hnl : ns.length ≤ 7 := by rw [← hns, xR]; show 3 + _ ≤ 7; exact xM hyl 3
 have c2 : am (s1 ++ [.list (([262, 0, 2168] : List Int).map Val.int)]) := c1.push (hY _ _);have c3 : am (s1 ++ [.list (([262, 0, 2168] : List Int).map Val.int)] ++ [.list (ns.map Val.int)]) := c2.push (hY _ _);have hadd : (([262, 0, 2168] : List Int).map Val.int) ++ ys.map Val.int = ns.map Val.int := by rw [← hns, yC]
 have hm := fun (K' : KC) (H' : Wld K'.toKB) (acc : List Val) (hca : am (s1 ++ [.list (([262, 0, 2168] : List Int).map Val.int)] ++ [.list (ns.map Val.int)] ++ [.list acc])) (x : Int) => uq (K := K') (d := d + 10) H' hca x
 refine a9 (ll (ix := 2) (ns.map Val.int) (fun _ => true) (fun v => mp (se v)) (fun v => [v]) (T := aQ _ (s1 ++ [ag.list (([262, 0, 2168] : List Int).map Val.int)]).length (ns.map Val.int).length) (locs := ["x"]) (fr := [])
  (bB (aS (dk (aa b7 (aa b7 (aa b7 ac))) (by show 3 ≤ sizeLine; decide)) (a7 1 rfl rfl) (hadd ▸ fJ (ae ..) (ad _ hd1) (by rw [yA, yA]; show 3 + ys.length ≤ sizeLine; exact yT (show 3 + ys.length ≤ 2 ^ 20 by exact yT (xM hyl 3) (by decide)) hsl))) (bb (ae ..))) bp
  rfl trivial trivial rfl (by decide +kernel) (by decide +kernel) rfl trivial
  (fun acc => ⟨⟨_, ad _ (ae ..), rfl⟩, fun i => aG (ad _ (ae ..))⟩) br (by rw [yA]; exact xV ‹_› (by decide)) (fun C i v w acc hv hw => bP rfl (.inl rfl) hw) (fun C i v acc ha hv => ?_) rfl rfl ?_)
 ·subst ha;rw [ye] at hv;obtain ⟨x, hx, rfl⟩ := xf hv;rw [rL];exact ⟨cc, fun _ => aj (kl := []) (H.name (v := .glob (.ref 404)) rfl rfl) (H.callee (t := nD) (xB (i := 18) rfl)) (aa (a7 0 rfl rfl) ac) ao (hm _ H _ (c3.push (nf _ _)) x)⟩
 rw [bY, z4, show ns.map ((fun v => mp (se v)) ∘ Val.int) = ns.map mp from rfl];have c4 := c3.push (c := .list (ns.map mp)) (nf _ _);have hmd := ae (s1 ++ [ag.list (([262, 0, 2168] : List Int).map Val.int)] ++ [ag.list (ns.map Val.int)]) (.list (ns.map mp));generalize (s1 ++ [ag.list (([262, 0, 2168] : List Int).map Val.int)] ++ [ag.list (ns.map Val.int)]).length = im at hmd ⊢;generalize s1 ++ [ag.list (([262, 0, 2168] : List Int).map Val.int)] ++ [ag.list (ns.map Val.int)] ++ [ag.list (ns.map mp)] = s4 at c4 hmd ⊢;refine a9 (ab 3 (fg (ns.map mp) (fun _ => true) (fun v => (two v)[0]?.getD .none) two (T := aQ _ im (ns.map mp).length) (locs := ["key", "written"]) (fr := [])
  (bB (a7 2 rfl rfl) (bb hmd)) bp
  rfl trivial trivial rfl (by decide +kernel) (by decide +kernel) rfl trivial
  (fun acc => ⟨⟨_, ad _ hmd, rfl⟩, fun i => aG (ad _ hmd)⟩) lK (by rw [yA]; exact xV hnl (by decide)) (fun C i v w acc hv hw => ?_) (fun C i v acc hv => ?_)) rfl (.inr ⟨rfl, _, .tail _ (.head _), rfl⟩) ?_)
 ·rw [ye] at hv;obtain ⟨x, hx, rfl⟩ := xf hv;obtain ⟨a, b, rfl⟩ := oj hw;exact iQ (i := 0) (j := 1) rfl rfl (.inl rfl) (.inl rfl) ⟨rfl, rfl, rfl⟩
 ·rw [ye] at hv;obtain ⟨x, hx, rfl⟩ := xf hv;exact ⟨cc, fun _ => a7 0 rfl rfl⟩
 rw [bY, z4, show ns.map ((fun v => (two v)[0]?.getD .none) ∘ mp) = (ns.map df).map kv by rw [z4]; rfl];subst hys;subst hns;exact kont _ _ _ _ (c4.push (aI _ _)) (ad _ hmd) (ae ..)
theorem qa {l : List Key} (h : σ[i]? = some (.list (l.map kv))) (h' : σ[i']? = some (.list (l.map kv))) : P2 K hn d σ (compareOp .NotEq) (.ref i) (.ref i') (.bool false) σ := by
 have := kB (K := K) (hn := hn) (d := d) (n := 1) (e := fun _ => true) h h' rfl (fun j x y hx hy => by
  rw [hx] at hy;cases hy;rw [ye] at hx;obtain ⟨k, _, rfl⟩ := xf hx;have := lS (σ := σ) k k;rwa [decide_eq_true rfl] at this) (by decide)
 rwa [show (!(List.range (l.map kv).length).all fun _ => true) = false by simp] at this
theorem law_b (H : Wld K.toKB) {L : Addr} {y0 : Option Val} {jd im iu : Nat} {ns : List Int} (hn : ns.length ≤ 7) (hc : am σ) (hm : σ[im]? = some (.list (ns.map mp))) (hu : σ[iu]? = some (.list ((ns.map df).map kv)))
  (kont : ∀ (s5 : a8) (ik : Nat), am s5 → s5[iu]? = some (.list ((ns.map df).map kv)) → s5[ik]? = some (.list ((ns.map df).map kv)) → iu ≠ ik →
   TSt K true (d + 11) (cK L) [y0, some (.ref jd), some (.ref im), some (.ref iu), some (.ref ik), none, none, none, none, none, none, none] s5 (execs ((ax (stm 56)).drop 5) (cK L).env) gV) :
  TSt K true (d + 11) (cK L) [y0, some (.ref jd), some (.ref im), some (.ref iu), none, none, none, none, none, none, none, none] σ (execs ((ax (stm 56)).drop 3) (cK L).env) gV := by
 have hsl : (2 : Nat) ^ 20 ≤ sizeLine := by decide
 have hws : ∀ x : Int, (mwr x ++ eqS).length ≤ 40 := fun x => by
  have h1 : md x 3 < 3 := dN _ (by decide);have h2 := ly x (1 + md x 3);have h3 : (mwr x).length ≤ 39 := by unfold mwr; exact yT h2 (Nat.mul_le_mul_left 13 (yT (yV (yX 1 _)) h1))
  rw [Str.length_append]; show _ + 1 ≤ 40; exact yj ‹_›
 have hsum : ((ns.map fun x => mwr x ++ eqS).map (·.length)).sum ≤ 280 := by
  rw [z4];exact yT (qX _ 40 ns fun x _ => hws x) (xH 40 hn)
 have htx : (Txt.join ⟨#[]⟩ (ns.map fun x => mwr x ++ eqS)).cps.toList = ns.flatMap fun x => (mwr x).cps.toList ++ [61] := by
  rw [rX, List.flatMap_map];rw [show (fun x => (mwr x ++ eqS).cps.toList) = fun x => (mwr x).cps.toList ++ [61] from funext fun x => by
   show ((mwr x).cps ++ eqS.cps).toList = _;rw [xO]; rfl]
 have htl : (Txt.join ⟨#[]⟩ (ns.map fun x => mwr x ++ eqS)).length < 2 ^ 20 := by
  rw [show Txt.join ⟨#[]⟩ (ns.map fun x => mwr x ++ eqS) = Str.join ⟨#[]⟩ (ns.map fun x => mwr x ++ eqS) from eq_of_beq (join_plain_closes _ _)];refine xV (StrLaws.join_length_le _ _) ?_;show _ + _ * 0 < _;exact xV ‹_› (by decide)
 have hrs : RS (Txt.join ⟨#[]⟩ (ns.map fun x => mwr x ++ eqS)) 0 (ns.map df) := kc ns [] htx;have c1 := hc.push (c := .list ((ns.map fun x => mwr x ++ eqS).map Val.str)) (by
  rw [jJ, bu];intro v hv;obtain ⟨x, _, rfl⟩ := yK hv;rfl)
 have efl : ((ns.map mp).filter fun _ => true).map wrOf = (ns.map fun x => mwr x ++ eqS).map Val.str := by
  rw [bY, z4, z4]; rfl
 have hrd := fun (K' : KC) (H' : Wld K'.toKB) (s' : a8) => ue (K := K') (d := d + 3) (σ := s') H' htl hrs
 refine a9 (ab 4 (aj (kl := []) (H.name (v := .glob (.ref 411)) rfl rfl) (H.callee (t := nC) (xB (i := 19) rfl)) (aa (bZ bi (uT PySem.F.slot_str_join PySem.F.type_str_join) (.blt _) (aa (fg (ns.map mp) (fun _ => true) wrOf two (T := aQ _ im (ns.map mp).length) (locs := ["key", "written"]) (fr := [])
   (bB (a7 2 rfl rfl) (bb hm)) bp
   rfl trivial trivial rfl (by decide +kernel) (by decide +kernel) rfl trivial
   (fun acc => ⟨⟨_, ad _ hm, rfl⟩, fun i => aG (ad _ hm)⟩) lK (by rw [yA]; exact xV ‹_› (by decide)) (fun C i v w acc hv hw => ?_) (fun C i v acc hv => ?_)) ac) (efl ▸ vQ (x := ⟨#[]⟩) (ys := ns.map fun x => mwr x ++ eqS) (ae ..) (by show _ + _ * 0 ≤ _; exact yT ‹_› (yF _ _)))) ac) ao (hrd _ H _)) rfl (.inl rfl) ?_)
 ·rw [ye] at hv;obtain ⟨x, hx, rfl⟩ := xf hv;obtain ⟨a, b, rfl⟩ := oj hw;exact iQ (i := 0) (j := 1) rfl rfl (.inl rfl) (.inl rfl) ⟨rfl, rfl, rfl⟩
 ·rw [ye] at hv;obtain ⟨x, hx, rfl⟩ := xf hv;exact ⟨cc, fun _ => aS (a7 1 rfl rfl) bi (eV (yT (hws x) (yT (by decide : 40 ≤ 2 ^ 20) hsl)))⟩
 have c2 := c1.push (c := .list ((ns.map df).map kv)) (aI _ _);have hu2 := ad [ag.list ((ns.map df).map kv)] (ad [ag.list ((ns.map fun x => mwr x ++ eqS).map Val.str)] hu);have hk2 := ae (σ ++ [ag.list ((ns.map fun x => mwr x ++ eqS).map Val.str)]) (.list ((ns.map df).map kv));have hne : iu ≠ (σ ++ [ag.list ((ns.map fun x => mwr x ++ eqS).map Val.str)]).length := by
  have h1 : iu < σ.length := (x7 hu).1;rw [xR]; exact yZ (xU h1 (yp _ _))
 rw [efl];exact a9 (be (b := false) (av (a7 4 rfl rfl) (a7 3 rfl rfl) (qa hk2 hu2)) nft fun _ => ak (kont _ _ c2 hu2 hk2 hne))
theorem ua {n : Str} {pos2 pos3 : Pos} {body : List Stmt} {R : a8 → Prop} (hf : EvE K hn d F vals σ (.Name n p) (.glob f) σ) (hc : cS K.toKB f)
  (ha : EvL K hn d F vals σ pos (e :: args) l σ1) (hp : PCX K hn d σ1 f l [] (fun v s' => v = .bool true ∧ R s')) (k : ∀ σ', R σ' → TSt K hn d F vals σ' (execs orelse F.env) P)
  (he : starEach (e :: args) F.env = (false, eval e F.env) :: starEach args F.env := by rfl)
  (hs : ((backTo pos (starEach args F.env)).any (·.1) || (backToKw pos (keywordEach [] F.env)).any (·.1.isNone)) = false := by rfl)
  (hka : (backToKw pos (keywordEach [] F.env)).all (·.1.isSome) = true := by rfl) :
  TSt K hn d F vals σ (exec (.If (.UnaryOp .Not (.Call (.Name n p) (e :: args) [] pos) pos2) body orelse pos3) F.env) P := fun A φ s R0 G I Q E hQ => by
 refine wpAny_If (wpAny_isTrue_Not (wpAny_isTrue_value (wpAny_Call_Name_kw (hf A φ s R0 G I _ _ fun φ0 s0 V0 X0 G0 r0 => ?_)) rfl));unfold RV at r0;subst r0;have I0 := I.ext G X0;refine aT hc ?_ ?_
 ·rw [he]; show (false || _ || _) = false; rw [Bool.false_or]; exact hs
 have ha' := ha A φ0 s0 R0 G0 I0;rw [he] at ha' ⊢;refine evalArgs_kw hka (ha' _ _ fun φ1 s1 Vs X1 G1 r1 => wpAny_evalAll_nil ?_);refine ⟨G1.base, ?_⟩;refine hp A φ1 s1 Vs [] R0 G1 r1 (by unfold RL; rfl) _ E fun φ3 s3 V v σ3 X3 G3 r3 ⟨hv, hR⟩ => ?_
 subst hv;have X := (X0.trans X1).trans X3;refine cu A φ3 s3 V R0 G3 r3 _ _ fun φ4 s4 X4 G4 => ?_
 exact k _ hR A φ4 s4 R0 G4 (I.ext G (X.trans X4)) Q E fun φ5 s5 f r v2 σ2 X5 G5 I5 rr p2 => hQ φ5 s5 f r v2 σ2 (((X.trans X4).toS _).trans X5) G5 I5 rr p2
theorem qN (H : Wld K.toKB) : nq K.toKB 142 := by
 obtain ⟨G, hG, c1, _⟩ := H.cls;obtain ⟨oc, od, cd, sl, ho, _⟩ := (makes_of (M := model pw K.w) hG c1).obj;refine ⟨G, _, cd, hG, ?_, ho, rfl⟩;unfold makesIn at c1;split at c1
 ·simp only [yu, zk] at c1; exact c1.1.2
 cases c1
theorem sn {ik : Nat} (hn : n = σ.length) (hc : am σ) (hk : σ[ik]? = some (.list (ks.map kv))) :
  Gr (n + 1) n (n + 2) ik ks 0 (σ ++ [.ns (n + 2), .inst n, .dict []]) [([], n + 2)] := by
 subst hn;have e0 : (σ ++ [ag.ns (σ.length + 2), .inst σ.length, .dict []])[σ.length]? = some (.ns (σ.length + 2)) := by rw [x9 (z6 _), z5]; rfl
 have e1 : (σ ++ [ag.ns (σ.length + 2), .inst σ.length, .dict []])[σ.length + 1]? = some (.inst σ.length) := by rw [x9 (yp _ _), xn]; rfl
 have e2 : (σ ++ [ag.ns (σ.length + 2), .inst σ.length, .dict []])[σ.length + 2]? = some (.dict []) := by rw [x9 (yp _ _), xn]; rfl
 refine ⟨⟨by simp, by simp, fun w n h => ?_, by simp, fun w i h => ?_⟩, by simp, ?_, e1, e0, ad _ hk, fun w => ?_, by simp⟩
 ·simp at h
 ·have h := List.mem_singleton.mp h;injection h with h1 h2
  subst h1 h2;exact e2
 ·intro c hc';rcases yd hc' with h | h
  ·exact jJ.mono (by simp) (hc c h)
  simp only [List.mem_cons, List.not_mem_nil, or_false] at h;rcases h with rfl | rfl | rfl <;> simp [jJ, bx]
 simp
theorem law_c (H : Wld K.toKB) {L : Addr} {y0 : Option Val} {jd im iu ik : Nat} {ks : List Key} (hn : ks.length ≤ 7) (h1 : 1 ≤ ks.length) (hl : ∀ x ∈ ks, 1 ≤ x.length ∧ x.length ≤ 3) (hc : am σ) (hu : σ[iu]? = some (.list (ks.map kv))) (hk : σ[ik]? = some (.list (ks.map kv)))
  (kont : ∀ (s5 : a8) (it iw : Nat), am s5 → s5[iu]? = some (.list (ks.map kv)) → s5[ik]? = some (.list (ks.map kv)) → s5[iw]? = some (.list ((au ks).map kv)) → (au ks).length < 64 →
   TSt K true (d + 11) (cK L) [y0, some (.ref jd), some (.ref im), some (.ref iu), some (.ref ik), some (.ref it), some (.ref iw), none, none, none, none, none] s5 (execs ((ax (stm 56)).drop 8) (cK L).env) gV) :
  TSt K true (d + 11) (cK L) [y0, some (.ref jd), some (.ref im), some (.ref iu), some (.ref ik), none, none, none, none, none, none, none] σ (execs ((ax (stm 56)).drop 5) (cK L).env) gV := by
 refine a9 (ab 5 (t7 (H.name (v := .glob (.ref 142)) rfl rfl) (qN H) (vN (d := d + 9) H)) rfl (.inl rfl) ?_);have g := sn rfl hc hk;have hu1 := ad [ag.ns (σ.length + 2), .inst σ.length, .dict []] hu;generalize σ ++ [ag.ns (σ.length + 2), .inst σ.length, .dict []] = s1 at g hu1 ⊢;generalize σ.length = n at g ⊢;refine a9 (ua (H.name (v := .glob (.ref 447)) rfl rfl) (H.callee (t := lg) (xB (i := 25) rfl)) (aa (a7 5 rfl rfl) (aa (a7 4 rfl rfl) ac)) (sk (d := d + 6) H g hn hl) (fun s2 ⟨⟨N, g2⟩, hold⟩ => ak ?_));have hu2 := hold _ _ hu1;obtain ⟨w1, w2, w3, w4⟩ := g2.ways (fun x hx => (hl x hx).2) ⟨ks[0], by rw [yv]; exact yw ‹_›, fun q => by have := (hl _ (yw (by assumption : 0 < ks.length))).1; rw [q] at this; simp at this⟩ hn;rw [yv] at w4;have hd3 : ∀ x ∈ N.map (·.1), x.length ≤ ([] : Key).length + 3 := fun x hx => by
  rcases (g2.keys x).mp hx with rfl | ⟨y, hy, q⟩
  ·exact z7 _
  have := q.length_le;have := (hl y (xG hy)).2;rw [List.length_nil]; exact yT ‹_› ‹_›
 refine a9 (kx (i := 6) (n3 (L := bl N 3 []) (S := au ks) (H.built rfl rfl) (aj (kl := []) (H.name (v := .glob (.ref 418)) rfl rfl) (H.callee (t := j8) (xB (i := 20) rfl)) (aa (dC H (a7 5 rfl rfl) g2.inst g2.ns) (aa (bD ac (by show 0 ≤ sizeLine; decide)) ac)) ao
  (oU (d := d + 7) 3 H (w := []) g2.T g2.closed g2.root hd3 (wB3 _ (by have := g2.num; exact xV (yT this (xM (Nat.mul_le_mul_left 3 hn) 1)) (by decide))) (by show 0 + 3 < 1000; decide))) (ae ..) w1 (j1 ..) w2 w3 (ay _).1 w4) rfl (.inl rfl) ?_)
 have c1 := g2.closed.push (c := .list ((bl N 3 []).map kv)) (aI _ _);have c2 := c1.push (c := .list ((au ks).map kv)) (aI _ _);have hW : (au ks).length < 64 := by
  rw [dI (ay ks).1.nodup w1 w4]; exact w3
 exact kont _ _ _ c2 (ad _ (ad _ hu2)) (ad _ (ad _ g2.list)) (ae ..) hW
theorem eO (n : Nat) (g : Val → Int) (l : List Val) : bx n (l.map fun v => .int (g v)) = true := by
 rw [bu];intro v hv;obtain ⟨x, _, rfl⟩ := yK hv;rfl
noncomputable def shv (row : List Key) (v : Val) : Int := shr (gk row (nOf v - 1)) (gk row (nOf v))
theorem rf (row : List Key) (n : Nat) : ((dv n).filter fun _ => true).map (fun v => Val.int (shv row v)) = ((List.range n).map fun k => (shr (gk row k) (gk row (k + 1)) : Int)).map Val.int := by
 rw [bY];unfold dv;rw [z4, z4];rfl
theorem rO (row : List Key) : ((row.map kv).filter fun _ => true).map (fun v => Val.int (b9 v).length) = (row.map fun k => (k.length : Int)).map Val.int := by
 rw [bY, z4, z4];refine xP fun k _ => ?_
 show Val.int (b9 (kv k)).length = _;rw [bI]; rfl
theorem law_d (H : Wld K.toKB) {L : Addr} {y0 : Option Val} {jd im iu ik it iw : Nat} {ks : List Key} (hn : ks.length ≤ 7) (h1 : 1 ≤ ks.length) (hl : ∀ x ∈ ks, 1 ≤ x.length ∧ x.length ≤ 3) (hc : am σ) (hu : σ[iu]? = some (.list (ks.map kv))) (hk : σ[ik]? = some (.list (ks.map kv)))
  (hw : σ[iw]? = some (.list ((au ks).map kv))) (hW : (au ks).length < 64)
  (kont : ∀ (s5 : a8) (y7 y8 : Option Val), am s5 → s5[iu]? = some (.list (ks.map kv)) → s5[ik]? = some (.list (ks.map kv)) → s5[iw]? = some (.list ((au ks).map kv)) →
   TSt K true (d + 11) (cK L) [y0, some (.ref jd), some (.ref im), some (.ref iu), some (.ref ik), some (.ref it), some (.ref iw), y7, y8, none, none, none] s5 (execs ((ax (stm 56)).drop 12) (cK L).env) gV) :
  TSt K true (d + 11) (cK L) [y0, some (.ref jd), some (.ref im), some (.ref iu), some (.ref ik), some (.ref it), some (.ref iw), none, none, none, none, none] σ (execs ((ax (stm 56)).drop 8) (cK L).env) gV := by
 refine a9 (ab 7 (aj (kl := []) (H.name (v := .glob (.ref 430)) rfl rfl) (H.callee (t := jb) (xB (i := 22) rfl)) (aa (a7 4 rfl rfl) ac) ao (q7 (d := d + 7) H hk (xV ‹_› (by decide)) hc)) rfl (.inr ⟨rfl, _, .tail _ (.tail _ (.head _)), rfl⟩) ?_);obtain ⟨hp, hpw⟩ := ub ks;have hrow := vj hp hpw;have hlen := hp.length_eq;have hmem := fun x => hp.mem_iff (a := x)
 have hu1 := ad [ag.list ((jj ks).map kv)] hu;have hk1 := ad [ag.list ((jj ks).map kv)] hk;have hw1 := ad [ag.list ((jj ks).map kv)] hw;have hr1 := ae σ (.list ((jj ks).map kv));have c1 := hc.push (c := .list ((jj ks).map kv)) (aI _ _);generalize jj ks = row at hp hpw hrow hlen hmem hu1 hk1 hw1 hr1 c1 ⊢;generalize σ ++ [ag.list (row.map kv)] = s1 at hu1 hk1 hw1 hr1 c1 ⊢;generalize σ.length = ir at hr1 ⊢;have hrl : (row.map kv).length = row.length := yA ..
 have hm0 : gk row 0 ∈ row := by rw [kM (by exact hlen ▸ h1 : 0 < row.length)]; exact yw _
 have hmin : ∀ x ∈ ks, kLe (gk row 0) x := fun x hx => by
  have hx := (hmem x).mpr hx;cases row with
  | nil => cases hx
  | cons a l =>
   rcases yy hx with rfl | hx
   ·exact dj _
   exact (List.pairwise_cons.mp hpw).1 x hx
 refine a9 (be (b := false) (EvB.eq (av (aV (a7 7 rfl rfl) b7 (ar hr1) (aq (i := 0) hr1 (bt (by lia)) (yF _ _))) (aj (kl := []) (H.built rfl rfl) (.blt "min") (aa (a7 3 rfl rfl) ac) ao (vO (d := d + 10) hu1 ((hmem _).mp hm0) hmin)) pj) (by simp)) nft fun _ => ak ?_);have hx := fun (K' : KC) (s : a8) (i : Nat) (h : i < row.length) (hs : s[ir]? = some (ag.list (row.map kv))) => aq (K := K') (hn := true) (d := d + 11) hs (bt h) (by exact xU h (yT (hlen ▸ hn) (by decide)))
 refine a9 (ab 8 (aj (kl := []) (H.built rfl rfl) (.blt "sum") (aa (pE (dv (row.length - 1)) (fun _ => true) (fun v => .int (shv row v)) (fun v => [v]) (T := bd _ 1 1 (row.length - 1)) (locs := ["k"]) (fr := [("row", 7, .ref ir)])
  (iT (cH (H.built rfl rfl) (.typ "range") (aa b7 (aa (aj (kl := []) (H.built rfl rfl) (.blt "len") (aa (a7 7 rfl rfl) ac) ao (bk hr1 (yT (yV (hrl.trans hlen)) (yT hn (by decide))))) ac)) dR) rfl (by exact congrArg (Nat.cast (R := Int)) (hrl.trans (Nat.sub_add_cancel (hlen ▸ h1)).symm)) (by exact xV (yT (Nat.sub_le ..) (hlen ▸ hn)) (by decide))) d7
  rfl ⟨⟨rfl, rfl⟩, trivial⟩ ⟨⟨rfl, rfl, rfl⟩, trivial⟩ rfl (by decide +kernel) (by decide +kernel) rfl ⟨rfl, trivial⟩
  (fun acc => l8) br (by rw [g7]; lia) (fun C i v w acc hv hw => bP rfl (.inl rfl) hw) (fun C i v acc ha hv => ?_)) ac) ao (uV (by rw [rf]; exact ae ..))) rfl (.inl rfl) ?_)
 ·subst ha;obtain ⟨hi, rfl⟩ := j2 hv;have e1 : Val.int ((i : Int) + 1 - 1) = .int i := by congr 1; exact Int.add_sub_cancel ..
  have e2 : Val.int ((i : Int) + 1) = .int ((i + 1 : Nat) : Int) := by congr 1
  have hs := fun K' : KC => fun H' : Wld K'.toKB => pU (K := K') (d := d + 10) (a := gk row i) (b := gk row (i + 1)) H'
   (by rw [kM (xU ‹_› (Nat.sub_le _ _) : i < row.length)]; have := (hl _ ((hmem _).mp (yw (xU hi (Nat.sub_le ..) : i < row.length)))).2; exact xV ‹_› (by decide)) (by rw [kM (Nat.add_lt_of_lt_sub ‹_› : i + 1 < row.length)]; have := (hl _ ((hmem _).mp (yw (Nat.add_lt_of_lt_sub hi : i + 1 < row.length)))).2; exact xV ‹_› (by decide))
   (c1.push (c := .list _) (eO _ (shv row) (((dv (row.length - 1)).take i).filter fun _ => true)))
  exact ⟨cc, fun _ => aj (kl := []) (H.name (v := .glob (.ref 435)) rfl rfl) (H.callee (t := j9) (xB (i := 23) rfl))
   (aa (aV (a7 1 rfl rfl) (EvE.eq (aS (a7 0 rfl rfl) b7 dK) e1) (ar (ad _ hr1)) (hx _ _ i (by lia) (ad _ hr1)))
    (aa (aV (a7 1 rfl rfl) (EvE.eq (a7 0 rfl rfl) e2) (ar (ad _ hr1)) (hx _ _ (i + 1) (by lia) (ad _ hr1))) ac)) ao (hs _ H)⟩
 have c2 := c1.push (c := .list (((dv (row.length - 1)).filter fun _ => true).map fun v => .int (shv row v))) (eO _ (shv row) _);have hu2 := ad [ag.list (((dv (row.length - 1)).filter fun _ => true).map fun v => .int (shv row v))] hu1;have hk2 := ad [ag.list (((dv (row.length - 1)).filter fun _ => true).map fun v => .int (shv row v))] hk1;have hw2 := ad [ag.list (((dv (row.length - 1)).filter fun _ => true).map fun v => .int (shv row v))] hw1;have hr2 := ad [ag.list (((dv (row.length - 1)).filter fun _ => true).map fun v => .int (shv row v))] hr1;generalize s1 ++ [ag.list (((dv (row.length - 1)).filter fun _ => true).map fun v => .int (shv row v))] = s2 at c2 hu2 hk2 hw2 hr2 ⊢;have c3 := c2.push (c := .list (((row.map kv).filter fun _ => true).map fun v => .int (b9 v).length)) (eO _ (fun v => ((b9 v).length : Int)) _);have hwl : ((au ks).map kv).length = (au ks).length := yA ..
 refine a9 (be (b := false) (EvB.eq (av (aS (aj (kl := []) (H.built rfl rfl) (.blt "sum") (aa (fg (row.map kv) (fun _ => true) (fun v => .int (b9 v).length) (fun v => [v]) (T := aQ _ ir (row.map kv).length) (locs := ["key"]) (fr := [])
  (bB (a7 7 rfl rfl) (bb hr2)) bp
  rfl trivial trivial rfl (by decide +kernel) (by decide +kernel) rfl trivial
  (fun acc => ⟨⟨_, ad _ hr2, rfl⟩, fun i => aG (ad _ hr2)⟩) br (xV (yT (yV (hrl.trans hlen)) hn) (by decide)) (fun C i v w acc hv hw => bP rfl (.inl rfl) hw) (fun C i v acc hv => ?_)) ac) ao (uV (by rw [rO]; exact ae ..))) (a7 8 rfl rfl) dK)
  (aS (aj (kl := []) (H.built rfl rfl) (.blt "len") (aa (a7 6 rfl rfl) ac) ao (bk (ad _ hw2) (yU (lE hwl hW rfl)))) b7 dK) jm) ?_) nft fun _ => ak (kont _ _ _ c3 (ad _ hu2) (ad _ hk2) (ad _ hw2)))
 ·rw [ye] at hv;obtain ⟨x, hx, rfl⟩ := xf hv;have hxl := (hl x ((hmem x).mp (xB hx))).2;rw [bI];exact ⟨cc, fun _ => EvE.eq (aj (kl := []) (H.built rfl rfl) (.blt "len") (aa (a7 0 rfl rfl) ac) ao (cf (by rw [yA]; exact yT ‹_› (by decide)))) (by rw [yA])⟩
 rw [hwl, hrow]; simp
theorem EvE.eqS {s s' : a8} (h : EvE K hn d F vals σ e v s) (q : s = s') : EvE K hn d F vals σ e v s' := q ▸ h
theorem t6 {a : Int} (h : EvE K hn d F vals σ e (.int a) σ1) : EvE K hn d F vals σ (.UnaryOp .USub e pos) (.int (-a)) σ1 := fun A φ s R G I Q E hQ => by
 refine wpAny_UnaryOp (h A φ s R G I _ _ fun φ1 s1 V1 X1 G1 r1 => ?_);unfold RV at r1;obtain ⟨t, rfl⟩ := r1;exact P.neg_int (hQ φ1 _ _ (X1.trans (Ext.toks ..)) (G1.toks _) (bq ..))
theorem nL {k : Key} {i : Int} (hi : i = -1) (hsz : k.length ≤ 2 ^ 20) : PSl K hn d σ (kv k) none (some i) (kv k.dropLast) σ := by
 subst hi;have hsl : (2 : Nat) ^ 20 ≤ sizeLine := by decide
 have := re (K := K) (hn := hn) (d := d) (σ := σ) (l := k.map Val.str) (k := -1) (by rw [yA]; exact yT ‹_› ‹_›);rw [show tkN (-1) (k.map Val.str).length = k.length - 1 by unfold tkN; rw [yA]; simp; exact sT, ← List.map_take, ← List.dropLast_eq_take] at this;exact this
noncomputable def tpV (c : Nat × Nat × Key) : Val := .tup [.int (c.1 : Int), .int (c.2.1 : Int), kv c.2.2]
noncomputable def ntl : Val → List Val
 | .nt l => l
 | _ => []
theorem vH (c : Nat × Nat × Key) : EqR σ 2 (tpV c) (tpV c) true := by
 have := EqR.tup (σ := σ) (n := 1) (l := [.int (c.1 : Int), .int (c.2.1 : Int), kv c.2.2]) (l' := [.int (c.1 : Int), .int (c.2.1 : Int), kv c.2.2]) (e := fun _ => true) fun j x y hx hy => by
  match j, hx, hy with
  | 0, hx, hy => cases hx; cases hy; have := EqR.int (σ := σ) 1 (c.1 : Int) (c.1 : Int); rwa [beq_self_eq_true] at this
  | 1, hx, hy => cases hx; cases hy; have := EqR.int (σ := σ) 1 (c.2.1 : Int) (c.2.1 : Int); rwa [beq_self_eq_true] at this
  | 2, hx, hy => cases hx; cases hy; have := lS (σ := σ) c.2.2 c.2.2; rwa [decide_eq_true rfl] at this
 exact this
theorem ry {l : List (Nat × Nat × Key)} (h : σ[i]? = some (.list (l.map tpV))) (h' : σ[i']? = some (.list (l.map tpV))) : P2 K hn d σ (compareOp .NotEq) (.ref i) (.ref i') (.bool false) σ := by
 have := kB (K := K) (hn := hn) (d := d) (n := 2) (e := fun _ => true) h h' rfl (fun j x y hx hy => by
  rw [hx] at hy;cases hy;rw [ye] at hx;obtain ⟨k, _, rfl⟩ := xf hx;exact vH k) (by decide)
 rwa [show (!(List.range (l.map tpV).length).all fun _ => true) = false by simp] at this
theorem eN (n : Nat) (l : List (Nat × Nat × Key)) : bx n (l.map tpV) = true := by
 rw [bu];intro v hv;obtain ⟨x, _, rfl⟩ := yK hv;unfold tpV bel;rw [bu];intro w hw;simp only [List.mem_cons, List.not_mem_nil, or_false] at hw;rcases hw with rfl | rfl | rfl <;> first | rfl | exact m0 ..
theorem ng (n : Nat) (l : List (Nat × Nat × Key)) : bx n (l.map mmV) = true := by
 rw [bu];intro v hv;obtain ⟨x, _, rfl⟩ := yK hv;unfold mmV bel;rw [bu];intro w hw;simp only [List.mem_cons, List.not_mem_nil, or_false] at hw;rcases hw with rfl | rfl | rfl <;> first | rfl | exact m0 ..
theorem rx (W : List Key) : ((W.map kv).filter fun v => !decide (b9 v = [])).map (fun v => kv (b9 v).dropLast) = (par W).map kv := by
 unfold par;rw [List.filter_map, z4, z4];have e : ((fun v => !decide (b9 v = [])) ∘ kv) = fun w : Key => decide (w ≠ []) := by funext w; simp [bI]
 rw [e];refine xP fun k _ => ?_
 show kv (b9 (kv k)).dropLast = _;rw [bI]; rfl
theorem tP (l : List (Nat × Nat × Key)) : ((l.map mmV).filter fun _ => true).map (fun v => Val.tup (ntl v)) = l.map tpV := by
 rw [bY, z4]; rfl
theorem pL (W ks : List Key) (f : Nat → Bool) (g : Nat → Nat) (b : Nat) : ((W.map kv).filter fun v => f (bhd ks (b9 v)).length).map (fun v => tpV (g (bhd ks (b9 v)).length, b, b9 v)) = ((W.filter fun w => f (bhd ks w).length).map fun w => (g (bhd ks w).length, b, w)).map tpV := by
 rw [List.filter_map, z4, z4];have e : ((fun v => f (bhd ks (b9 v)).length) ∘ kv) = fun w : Key => f (bhd ks w).length := by funext w; simp [bI]
 rw [e];refine xP fun k _ => ?_
 show tpV (g (bhd ks (b9 (kv k))).length, b, b9 (kv k)) = _;rw [bI]; rfl
theorem law_e (H : Wld K.toKB) {L : Addr} {y0 : Option Val} {jd im iu ik it iw : Nat} {y7 y8 : Option Val} {W : List Key} {ks : List Key} (hlW : ∀ x ∈ W, x.length ≤ 3) (hc : am σ) (hu : σ[iu]? = some (.list (ks.map kv))) (hk : σ[ik]? = some (.list (ks.map kv)))
  (hw : σ[iw]? = some (.list (W.map kv))) (hW : W.length < 64)
  (kont : ∀ (s5 : a8) (i9 : Nat), am s5 → s5[iu]? = some (.list (ks.map kv)) → s5[ik]? = some (.list (ks.map kv)) → s5[iw]? = some (.list (W.map kv)) → s5[i9]? = some (.list ((cd1 (par W) W (par W).length ++ cd2 (par W) W W.length).map tpV)) →
   TSt K true (d + 11) (cK L) [y0, some (.ref jd), some (.ref im), some (.ref iu), some (.ref ik), some (.ref it), some (.ref iw), y7, y8, some (.ref i9), none, none] s5 (execs ((ax (stm 56)).drop 13) (cK L).env) gV) :
  TSt K true (d + 11) (cK L) [y0, some (.ref jd), some (.ref im), some (.ref iu), some (.ref ik), some (.ref it), some (.ref iw), y7, y8, none, none, none] σ (execs ((ax (stm 56)).drop 12) (cK L).env) gV := by
 have hwl : (W.map kv).length = W.length := yA ..
 have hpl : (par W).length ≤ W.length := by unfold par; rw [yA]; exact xw _ _
 have c1 := hc.push (c := .list ((par W).map kv)) (aI _ _);have hl1 := iY (par W) W (par W).length;have hl2 := lV (par W) W W.length;have hcd : ∀ K' : KC, Wld K'.toKB → PC K' true (d + 11) (σ ++ [.list ((par W).map kv)]) (.ref 397) [.ref σ.length, .ref iw] [] (.ref (σ ++ [ag.list ((par W).map kv)]).length) (σ ++ [.list ((par W).map kv)] ++ [.list ((cd1 (par W) W (par W).length ++ cd2 (par W) W W.length).map mmV)]) := fun K' H' => by
  refine PCX.pick (PCX.mono (k4 (d := d + 8) H' (ae ..) (ad _ hw) (yW (xV ‹_› ‹_›) (by decide)) (xU ‹_› (yF _ _))) fun v s ⟨hv, l, t, hs⟩ => ⟨_, _, hv, hs, (bT ..).2.2.2, by exact yp _ _⟩) (z6 _) c1 (ng _ _)
 generalize hcs : cd1 (par W) W (par W).length ++ cd2 (par W) W W.length = cs at hcd kont;have hcl : (cs.map mmV).length = cs.length := yA ..
 have hcl2 : cs.length ≤ 200 := by rw [← hcs, xR]; exact yU (yW (Nat.add_lt_add (xV (yT hl1 hpl) hW) (xV hl2 hW)) (by decide))
 refine a9 (pa (ix := 9) (cs.map mmV) (fun _ => true) (fun v => .tup (ntl v)) ntl (T := aQ _ (σ ++ [ag.list ((par W).map kv)]).length (cs.map mmV).length) (locs := ["a", "b", "c"]) (fr := [])
  (bB (aj (kl := []) (H.name (v := .glob (.ref 397)) rfl rfl) (H.callee (t := dT) (xB (i := 17) rfl)) (aa (EvE.eqS (fg (W.map kv) (fun v => !decide (b9 v = [])) (fun v => kv (b9 v).dropLast) (fun v => [v]) (T := aQ _ iw (W.map kv).length) (locs := ["way"]) (fr := [])
   (bB (a7 6 rfl rfl) (bb hw)) bp
   rfl trivial trivial rfl (by decide +kernel) (by decide +kernel) rfl trivial
   (fun acc => ⟨⟨_, ad _ hw, rfl⟩, fun i => aG (ad _ hw)⟩) br (lE hwl hW rfl) (fun C i v w acc hv hw => bP rfl (.inl rfl) hw) (fun C i v acc hv => ?_)) (by rw [rx])) (aa (a7 6 rfl rfl) ac)) ao (hcd _ H)) (bb (ae ..))) bp
  rfl trivial trivial rfl (by decide +kernel) (by decide +kernel) rfl trivial
  (fun acc => ⟨⟨_, ad _ (ae ..), rfl⟩, fun i => aG (ad _ (ae ..))⟩) lK (xV (yT (yV hcl) hcl2) (by decide)) (fun C i v w acc hv hw => ?_) (fun C i v acc hv => ?_) rfl rfl ?_)
 ·rw [ye] at hv;obtain ⟨x, hx, rfl⟩ := xf hv;have hxl := hlW x (xB hx);rw [bI];exact ⟨cr (av (a7 0 rfl rfl) (bD ac (by show 0 ≤ sizeLine; decide)) (pj (k' := []))), fun _ => b6 (a7 0 rfl rfl) bf (ap (t6 b7)) cV (nL rfl (yT ‹_› (by decide)))⟩
 ·rw [ye] at hv;obtain ⟨x, hx, rfl⟩ := xf hv;obtain ⟨a, b, c, rfl⟩ := vq hw;exact v9 H (i := 0) (j := 1) (m := 2) rfl rfl rfl (.inl rfl) (.inl rfl) (.inl rfl) ⟨rfl, rfl, rfl⟩
 ·rw [ye] at hv;obtain ⟨x, hx, rfl⟩ := xf hv;exact ⟨cc, fun _ => bD (aa (a7 0 rfl rfl) (aa (a7 1 rfl rfl) (aa (a7 2 rfl rfl) ac))) (by show 3 ≤ sizeLine; decide)⟩
 rw [tP];have c2 := c1.push (c := .list (cs.map mmV)) (ng _ _);exact kont _ _ (c2.push (eN _ _)) (ad _ (ad _ (ad _ hu))) (ad _ (ad _ (ad _ hk))) (ad _ (ad _ (ad _ hw))) (ae ..)
theorem pM {acc : List Val} {p : Val → Bool} {g : Val → Nat × Nat × Key} (h : acc = (l.filter p).map fun v => tpV (g v)) : bx n acc = true := by
 subst h;have : (l.filter p).map (fun v => tpV (g v)) = ((l.filter p).map g).map tpV := by rw [z4]; rfl
 rw [this];exact eN ..
noncomputable def mZ (ks W : List Key) : List (Nat × Nat × Key) := (W.filter fun w => decide (1 < (bhd ks w).length)).map fun w => ((bhd ks w).length, 1, w)
noncomputable def ig (ks W : List Key) : List (Nat × Nat × Key) := (W.filter fun w => decide ((bhd ks w).length = 0)).map fun w => (0, 1, w)
theorem qt (ks W : List Key) : ((W.map kv).filter fun v => decide (1 < (bhd ks (b9 v)).length)).map (fun v => tpV ((bhd ks (b9 v)).length, 1, b9 v)) = (mZ ks W).map tpV := pL W ks (fun n => decide (1 < n)) (fun n => n) 1
theorem pP (ks W : List Key) : ((W.map kv).filter fun v => decide ((bhd ks (b9 v)).length = 0)).map (fun v => tpV (0, 1, b9 v)) = (ig ks W).map tpV := pL W ks (fun n => decide (n = 0)) (fun _ => 0) 1
theorem sv (ks W : List Key) : (mZ ks W).length ≤ W.length ∧ (ig ks W).length ≤ W.length := ⟨by unfold mZ; rw [yA]; exact xw .., by unfold ig; rw [yA]; exact xw ..⟩
theorem law_f (H : Wld K.toKB) {L : Addr} {y0 : Option Val} {jd im iu ik it iw i9 : Nat} {y7 y8 : Option Val} {W : List Key} {ks : List Key} (hn : ks.length ≤ 7) (hl : ∀ x ∈ ks, x.length ≤ 3) (hlW : ∀ x ∈ W, x.length ≤ 3) (hc : am σ) (hu : σ[iu]? = some (.list (ks.map kv))) (hk : σ[ik]? = some (.list (ks.map kv)))
  (hw : σ[iw]? = some (.list (W.map kv))) (hW : W.length < 64) (h9 : σ[i9]? = some (.list ((mZ ks W ++ ig ks W).map tpV)))
  (kont : ∀ (s5 : a8) (y9 y10 : Option Val), am s5 → s5[iu]? = some (.list (ks.map kv)) → s5[ik]? = some (.list (ks.map kv)) → s5[iw]? = some (.list (W.map kv)) →
   TSt K true (d + 11) (cK L) [y0, some (.ref jd), some (.ref im), some (.ref iu), some (.ref ik), some (.ref it), some (.ref iw), y7, y8, y9, y10, none] s5 (execs ((ax (stm 56)).drop 15) (cK L).env) gV) :
  TSt K true (d + 11) (cK L) [y0, some (.ref jd), some (.ref im), some (.ref iu), some (.ref ik), some (.ref it), some (.ref iw), y7, y8, some (.ref i9), none, none] σ (execs ((ax (stm 56)).drop 13) (cK L).env) gV := by
 have hwl : (W.map kv).length = W.length := yA ..
 have hbe := fun (K' : KC) (H' : Wld K'.toKB) (s : a8) (x : Key) (hx : x ∈ W) (hs : s[iu]? = some (ag.list (ks.map kv))) (hcs : am s) => qD (K := K') (d := d + 10) H' (way := x) hs (xV ‹_› (by decide)) (fun y hy => by have := hl y hy; exact xV ‹_› (by decide)) (by have := hlW x hx; exact xV this (by decide)) hcs
 refine a9 (ll (ix := 10) (W.map kv) (fun v => decide (1 < (bhd ks (b9 v)).length)) (fun v => tpV ((bhd ks (b9 v)).length, 1, b9 v)) (fun v => [v]) (T := aQ _ iw (W.map kv).length) (locs := ["way"]) (fr := [("due", 3, .ref iu)])
  (bB (a7 6 rfl rfl) (bb hw)) bp
  rfl ⟨⟨rfl, rfl⟩, trivial⟩ ⟨⟨rfl, rfl, rfl⟩, trivial⟩ rfl (by decide +kernel) (by decide +kernel) rfl ⟨rfl, trivial⟩
  (fun acc => ⟨⟨_, ad _ hw, rfl⟩, fun i => aG (ad _ hw)⟩) br (lE hwl hW rfl) (fun C i v w acc hv hw => bP rfl (.inl rfl) hw) (fun C i v acc ha hv => ?_) rfl rfl ?_)
 ·rw [ye] at hv;obtain ⟨x, hx, rfl⟩ := xf hv;have hcs := hc.push (c := .list acc) (pM ha);have hb := fun (K' : KC) (H' : Wld K'.toKB) => hbe K' H' _ x (xB hx) (ad _ hu) hcs
  rw [bI];exact ⟨cr (EvB.eq (av (aj (kl := []) (H.name (v := .glob (.ref 442)) rfl rfl) (H.callee (t := ew) (xB (i := 24) rfl)) (aa (a7 1 rfl rfl) (aa (a7 0 rfl rfl) ac)) ao (hb _ H)) b7 eE) (by rw [decide_eq_decide]; exact (Int.ofNat_lt (n := 1)))),
   fun _ => bD (aa (aj (kl := []) (H.name (v := .glob (.ref 442)) rfl rfl) (H.callee (t := ew) (xB (i := 24) rfl)) (aa (a7 1 rfl rfl) (aa (a7 0 rfl rfl) ac)) ao (hb _ H)) (aa b7 (aa (a7 0 rfl rfl) ac))) (by show 3 ≤ sizeLine; decide)⟩
 rw [qt];obtain ⟨hf1, hf2⟩ := sv ks W;generalize mZ ks W = fl at h9 hf1 ⊢;have c1 := hc.push (c := .list (fl.map tpV)) (eN _ _);have hf := ae σ (.list (fl.map tpV));have hu1 := ad [.list (fl.map tpV)] hu;have hk1 := ad [.list (fl.map tpV)] hk;have hw1 := ad [.list (fl.map tpV)] hw;have h91 := ad [.list (fl.map tpV)] h9;generalize σ ++ [ag.list (fl.map tpV)] = s1 at c1 hf hu1 hk1 hw1 h91 ⊢;generalize σ.length = i10 at hf ⊢;have c2 := c1.push (c := .list ((ig ks W).map tpV)) (eN _ _);have c3 := c2.push (c := .list ((fl ++ ig ks W).map tpV)) (eN _ _);have hadd := fJ (K := K) (hn := true) (d := d + 11) (ad [.list ((ig ks W).map tpV)] hf) (ae s1 (.list ((ig ks W).map tpV))) (by
  rw [yA, yA];exact yT (show _ ≤ 128 by exact yU (Nat.add_lt_add (xV hf1 hW) (xV hf2 hW))) (by decide))
 rw [← yC] at hadd;refine a9 (be (b := false) (av (a7 9 rfl rfl) (aS (a7 10 rfl rfl) (EvE.eqS (pE (W.map kv) (fun v => decide ((bhd ks (b9 v)).length = 0)) (fun v => tpV (0, 1, b9 v)) (fun v => [v]) (T := aQ _ iw (W.map kv).length) (locs := ["way"]) (fr := [("due", 3, .ref iu)])
  (bB (a7 6 rfl rfl) (bb hw1)) bp
  rfl ⟨⟨rfl, rfl⟩, trivial⟩ ⟨⟨rfl, rfl, rfl⟩, trivial⟩ rfl (by decide +kernel) (by decide +kernel) rfl ⟨rfl, trivial⟩
  (fun acc => ⟨⟨_, ad _ hw1, rfl⟩, fun i => aG (ad _ hw1)⟩) br (by lia) (fun C i v w acc hv hw => bP rfl (.inl rfl) hw) (fun C i v acc ha hv => ?_)) (by rw [pP])) hadd) (ry (ad _ (ad _ h91)) (ae ..))) nft fun _ => ak (kont _ _ _ c3 (ad _ (ad _ hu1)) (ad _ (ad _ hk1)) (ad _ (ad _ hw1))))
 rw [ye] at hv;obtain ⟨x, hx, rfl⟩ := xf hv;have hcs := c1.push (c := .list acc) (pM ha);have hb := fun (K' : KC) (H' : Wld K'.toKB) => hbe K' H' _ x (xB hx) (ad _ hu1) hcs
 rw [bI];exact ⟨cr (EvB.eq (av (aj (kl := []) (H.name (v := .glob (.ref 442)) rfl rfl) (H.callee (t := ew) (xB (i := 24) rfl)) (aa (a7 1 rfl rfl) (aa (a7 0 rfl rfl) ac)) ao (hb _ H)) b7 rC) (by rw [yH, zk, yh]; exact Int.natCast_eq_zero)),
  fun _ => bD (aa b7 (aa b7 (aa (a7 0 rfl rfl) ac))) (by show 3 ≤ sizeLine; decide)⟩
noncomputable def dwn (n : Nat) : List Val := (List.range n).map fun (i : Nat) => Val.int ((n - 1 - i : Nat) : Int)
theorem uD (h : (dwn n)[i]? = some v) : i < n ∧ v = .int ((n - 1 - i : Nat) : Int) := by
 unfold dwn at h;rw [ye] at h;obtain ⟨j, hj, rfl⟩ := xf h;obtain ⟨h1, h2⟩ := x7 hj;rw [List.length_range] at h1;rw [List.getElem_range] at h2;subst h2;exact ⟨h1, rfl⟩
theorem vL {acc : List Val} : (bd K ((n : Int) - 1) (-1) n).ok (σ ++ [.list acc]) ∧ ∀ i : Nat, (bd K ((n : Int) - 1) (-1) n).item i (σ ++ [.list acc]) = (dwn n)[i]? := by
 refine ⟨trivial, fun i => ?_⟩;show (if i < n then some (Val.int ((n : Int) - 1 + (i : Int) * (-1))) else none) = _;unfold dwn;rw [ye];by_cases hi : i < n
 ·rw [if_pos hi, List.getElem?_range hi, Option.map_some];congr 2;exact sY hi
 rw [if_neg hi, xx (by rw [List.length_range]; exact Nat.le_of_not_lt ‹_›)]; rfl
theorem uv {iter : Expr} {a c : Int} (h : TV K true d F vals σ (eval iter F.env) (ei a b c) σ1) (ha : a = (n : Int) - 1) (hb : b = -1) (hc : c = -1) (hn : n < 2 ^ 20) : eR K d F vals σ iter (bd K ((n : Int) - 1) (-1) n) σ1 := by
 subst ha hb hc;have hr : Builtin.Range.rangeSize ((n : Int) - 1) (-1) (-1) = (n : Int) := by
  unfold Builtin.Range.rangeSize;rw [if_neg (by decide), show (-(-1) : Int) = 1 by decide];split <;> lia
 refine eG h ?_ hr;unfold Builtin.Range.small;rw [hr];simp only [Builtin.Range.rangeFitsLong, yu, Bool.or_eq_true, yh, zk];exact ⟨⟨⟨⟨⟨Int.le_trans (by decide) (Int.sub_le_sub_right (xX n) 1), Int.lt_of_le_of_lt (Int.sub_le_self _ (by decide)) (lI hn (by decide))⟩, by decide⟩, by decide⟩, Int.le_trans (by decide) (xX n), lI hn (by decide)⟩, .inr (by decide)⟩
theorem t8 (ks : List Key) : ((dwn ks.length).filter fun v => decide (gk ks (nOf v) ∈ ks.drop (nOf v + 1))).map (fun v => kv (gk ks (nOf v))) = (dbl ks ks.length).map kv := by
 rw [← n7];unfold dwn;rw [List.filter_map, z4, z4];rfl
theorem uL {acc : List Val} {p : Val → Bool} {g : Val → Key} (h : acc = (l.filter p).map fun v => kv (g v)) : bx n acc = true := by
 subst h;have : (l.filter p).map (fun v => kv (g v)) = ((l.filter p).map g).map kv := by rw [z4]; rfl
 rw [this];exact aI ..
theorem rS (W ks : List Key) : ((W.map kv).filter fun v => !decide (b9 v ∈ ks)).map (fun v => v) = (W.filter fun k => decide (k ∉ ks)).map kv := by
 rw [List.filter_map, z4];have e : ((fun v => !decide (b9 v ∈ ks)) ∘ kv) = fun w : Key => decide (w ∉ ks) := by funext w; simp [bI]
 rw [e];rfl
theorem law_g (H : Wld K.toKB) {L : Addr} {y0 : Option Val} {jd im iu ik it iw : Nat} {y7 y8 y9 y10 : Option Val} {W : List Key} {ks : List Key} (hn : ks.length ≤ 7) (hc : am σ) (hu : σ[iu]? = some (.list (ks.map kv))) (hk : σ[ik]? = some (.list (ks.map kv)))
  (hw : σ[iw]? = some (.list (W.map kv))) (hW : W.length < 64) (hnd : W.Nodup) (hs : ∀ x ∈ ks, x ∈ W) :
  TSt K true (d + 11) (cK L) [y0, some (.ref jd), some (.ref im), some (.ref iu), some (.ref ik), some (.ref it), some (.ref iw), y7, y8, y9, y10, none] σ (execs ((ax (stm 56)).drop 15) (cK L).env) gV := by
 have hwl : (W.map kv).length = W.length := yA ..
 have hkl : (ks.map kv).length = ks.length := yA ..
 refine a9 (ll (ix := 11) (dwn ks.length) (fun v => decide (gk ks (nOf v) ∈ ks.drop (nOf v + 1))) (fun v => kv (gk ks (nOf v))) (fun v => [v]) (T := bd _ ((ks.length : Int) - 1) (-1) ks.length) (locs := ["k"]) (fr := [("due", 3, .ref iu)])
  (uv (cH (H.built rfl rfl) (.typ "range") (aa (aS (aj (kl := []) (H.built rfl rfl) (.blt "len") (aa (a7 3 rfl rfl) ac) ao (bk hu (yT (yV hkl) (yT hn (by decide))))) b7 dK) (aa (t6 b7) (aa (t6 b7) ac))) (tj (by decide) (PyProof.noPylong_small (by decide)))) (by rw [hkl]) rfl rfl (xV ‹_› (by decide))) d7
  rfl ⟨⟨rfl, rfl⟩, trivial⟩ ⟨⟨rfl, rfl, rfl⟩, trivial⟩ rfl (by decide +kernel) (by decide +kernel) rfl ⟨rfl, trivial⟩
  (fun acc => vL) br (by unfold dwn; rw [yA, List.length_range]; exact xV hn (by decide)) (fun C i v w acc hv hw => bP rfl (.inl rfl) hw) (fun C i v acc ha hv => ?_) rfl rfl ?_)
 ·obtain ⟨hi, rfl⟩ := uD hv;have hcs := hc.push (c := .list acc) (uL ha);have hua := ad [.list acc] hu;generalize hm : ks.length - 1 - i = m;have hm' : m < ks.length := by exact hm ▸ sI hi
  generalize σ ++ [ag.list acc] = s at hcs hua ⊢;have hx := fun (K' : KC) => aq (K := K') (hn := true) (d := d + 11) hua (bt hm') (yW (xU ‹_› ‹_›) (by decide))
  have hsl := fun (K' : KC) => dU (K := K') (hn := true) (d := d + 11) (j := m + 1) hua (by rw [hkl]; exact yT hn (by decide))
  rw [← List.map_drop] at hsl;have hg := ae s (.list ((ks.drop (m + 1)).map kv));exact ⟨cr (EvB.cut (g := [.list ((ks.drop (m + 1)).map kv)]) (av (aV (a7 1 rfl rfl) (a7 0 rfl rfl) (ar hua) (hx _)) (b6 (a7 1 rfl rfl) (ap (EvE.eq (aS (a7 0 rfl rfl) b7 dM) (by congr 1))) bf (ar hua) (hsl _)) (qe hg)) (z6 _) hcs),
   fun _ => aV (a7 1 rfl rfl) (a7 0 rfl rfl) (ar hua) (hx _)⟩
 rw [t8];have hd1 := ae σ (.list ((dbl ks ks.length).map kv));have hu1 := ad [.list ((dbl ks ks.length).map kv)] hu;have hk1 := ad [.list ((dbl ks ks.length).map kv)] hk;have hw1 := ad [.list ((dbl ks ks.length).map kv)] hw;generalize σ ++ [ag.list ((dbl ks ks.length).map kv)] = s1 at hd1 hu1 hk1 hw1 ⊢;generalize σ.length = i11 at hd1 ⊢;have hul := tN hnd hs;generalize dbl ks ks.length = D at hd1 hul;generalize hX : (W.filter fun k => decide (k ∉ ks)) = X at hul;have e1 : s1 ++ [ag.list (ks.map kv)] ++ [ag.list (W.map kv)] = s1 ++ ag.list (ks.map kv) :: [ag.list (W.map kv)] := yf ..
 have e0 : (s1 ++ [ag.list (ks.map kv)]).length = s1.length + 1 := by rw [xR]; rfl
 have hud := qL (K := K) (d := d + 10) (σ := s1 ++ [ag.list (ks.map kv)] ++ [ag.list (W.map kv)]) (ke := s1.length) (ka := (s1 ++ [ag.list (ks.map kv)]).length) (E := ks) (A := W) H (ad _ (ae ..)) (ae ..) (by rw [e0]; exact yZ (yq _)) (xV ‹_› (by decide)) (xU ‹_› (yF _ _));have hud2 : PC K true (d + 11) (s1 ++ [ag.list (ks.map kv)] ++ [ag.list (W.map kv)]) (.ref 316) [.ref s1.length, .ref (s1 ++ [ag.list (ks.map kv)]).length] [] (.tup [.ref (s1.length + 2), .ref (s1.length + 1)]) (s1 ++ [.list [], .list (X.map kv), .list (D.map kv)]) := by
  rw [hul] at hud;rw [e0, e1, mr, u5, yf] at hud;rw [e0, e1];have e2 : (s1 ++ ag.list (ks.map kv) :: [ag.list (W.map kv)]).length = s1.length + 2 := by rw [xR]; rfl
  rw [e2] at hud;exact hud
 have g1 : ∀ l : a8, (s1 ++ [.list [], .list (X.map kv), .list (D.map kv)] ++ l)[s1.length + 1]? = some (.list (X.map kv)) := fun l => ad l (at1 s1 [.list (D.map kv)] (.list []) (.list (X.map kv)))
 have g2 : ∀ l : a8, (s1 ++ [.list [], .list (X.map kv), .list (D.map kv)] ++ l)[s1.length + 2]? = some (.list (D.map kv)) := fun l => ad l (by rw [x9 (yp _ _), xn]; rfl)
 have hd2 := ad [.list [], .list (X.map kv), .list (D.map kv)] hd1;have hu2 := ad [.list [], .list (X.map kv), .list (D.map kv)] hu1;have hw2 := ad [.list [], .list (X.map kv), .list (D.map kv)] hw1;generalize s1 ++ [ag.list [], .list (X.map kv), .list (D.map kv)] = s2 at hud2 g1 g2 hd2 hu2 hw2;refine a9 (bm (e_cmp (aj (kl := []) (H.name (v := .glob (.ref 316)) rfl rfl) (H.callee (t := cZ) (xB (i := 16) rfl)) (aa (aj (kl := []) (H.built rfl rfl) (.typ "list") (aa (a7 4 rfl rfl) ac) ao (jF hk1 (yT (yV hkl) (yT hn (by decide)))))
   (aa (aj (kl := []) (H.built rfl rfl) (.typ "list") (aa (a7 6 rfl rfl) ac) ao (jF (ad _ hw1) (yU (lE hwl hW rfl)))) ac)) ao hud2)
  (bD (aa (a7 11 rfl rfl) (aa (EvE.eqS (fg (W.map kv) (fun v => !decide (b9 v ∈ ks)) (fun v => v) (fun v => [v]) (T := aQ _ iw (W.map kv).length) (locs := ["way"]) (fr := [("due", 3, .ref iu)])
   (bB (a7 6 rfl rfl) (bb hw2)) bp
   rfl ⟨⟨rfl, rfl⟩, trivial⟩ ⟨⟨rfl, rfl, rfl⟩, trivial⟩ rfl (by decide +kernel) (by decide +kernel) rfl ⟨rfl, trivial⟩
   (fun acc => ⟨⟨_, ad _ hw2, rfl⟩, fun i => aG (ad _ hw2)⟩) br (lE hwl hW rfl) (fun C i v w acc hv hw => bP rfl (.inl rfl) hw) (fun C i v acc hv => ?_)) (by rw [rS, hX])) ac)) (by show 2 ≤ sizeLine; decide))
  (mD (n := 2) (e := fun _ => true) (fun j x y hx hy => ?_) (by decide))) rfl)
 ·rw [ye] at hv;obtain ⟨x, hx, rfl⟩ := xf hv;rw [bI];exact ⟨cr (av (a7 0 rfl rfl) (a7 1 rfl rfl) (gj (ad _ hu2))), fun _ => a7 0 rfl rfl⟩
 match j, hx, hy with
 | 0, hx, hy => cases hx; cases hy; exact gB (g2 _) (ad _ hd2)
 | 1, hx, hy => cases hx; cases hy; exact gB (g1 _) (ae ..)
theorem vt (H : Wld K.toKB) {k : Addr} {xs : List Int} (hk : du K.toKB k xs) (hx : xs.length < 1000) (hc : am σ) :
  PCX K true (d + 12) σ (.ref 452) [.glob (.ref k)] [] (fun v _ => v = .bool true) := by
 refine H.defX (t := oW) (params := ["script"]) (rest := ["draw", "made", "due", "keys", "tree", "ways", "row", "shared", "told", "forks", "doubles"]) (dflt := []) (xB (i := 26) rfl) (eM fun _ _ _ _ _ => rfl) rfl (by decide +kernel) (jw rfl) rfl rfl rfl fun L H => ?_
 refine law_a H hk hx hc fun s1 jd im iu c1 hm hu => ?_
 have hn : ([262, 0, 2168] ++ xs.take 4).length ≤ 7 := by rw [xR, yn]; show 3 + _ ≤ 7; exact xM (Nat.min_le_left ..) 3
 have h1 : 1 ≤ ([262, 0, 2168] ++ xs.take 4).length := by rw [xR]; show 1 ≤ 3 + _; exact yT (by decide) (yp 3 _)
 generalize [262, 0, 2168] ++ xs.take 4 = ns at hm hu hn h1;have hl : ∀ x ∈ ns.map df, 1 ≤ x.length ∧ x.length ≤ 3 := fun x hx => by
  obtain ⟨n, _, rfl⟩ := yK hx;exact rJ n
 refine law_b H hn c1 hm hu fun s2 ik c2 hu hk _ => ?_
 rw [← yA (f := df)] at hn h1;generalize ns.map df = ks at hu hk hn h1 hl;refine law_c H hn h1 hl c2 hu hk fun s3 it iw c3 hu hk hw hW => ?_
 refine law_d H hn h1 hl c3 hu hk hw hW fun s4 y7 y8 c4 hu hk hw => ?_
 have hlW : ∀ x ∈ au ks, x.length ≤ 3 := fun x hx => by
  rcases ((ay ks).2 x).mp hx with rfl | ⟨k, hk, hp⟩
  ·exact z7 _
  exact yT hp.length_le (hl k hk).2
 have hcd := tf ks;have hnd := (ay ks).1.nodup;have hs : ∀ x ∈ ks, x ∈ au ks := fun x hx => ((ay ks).2 x).mpr (.inr ⟨x, hx, yx _⟩)
 generalize au ks = W at hw hW hlW hcd hnd hs;refine law_e H hlW c4 hu hk hw hW fun s5 i9 c5 hu hk hw h9 => ?_
 rw [hcd] at h9;refine law_f H hn (fun x hx => (hl x hx).2) hlW c5 hu hk hw hW h9 fun s6 y9 y10 c6 hu hk hw => ?_
 exact law_g H hn c6 hu hk hw hW hnd hs
section
noncomputable def eJ (T : BT) : List Nat → Frag
 | [] => []
 | a :: l => match T.get a with
  | some o => (a, o) :: eJ T l
  | none => eJ T l
noncomputable def sz (T : BT) (a : Nat) : Option (Array DictEntry) := match T.get a with
 | some o => match o.data with
  | .dict es _ => some es
  | _ => none
 | none => none
noncomputable def oo (es : Array DictEntry) : Bool := es.all fun e => match e.key with | .str _ _ => true | _ => false
noncomputable def isV : Val → Option Value → Bool
 | .glob v, x => x == some v
 | .int i, x => match x with
  | some (.int j _) => i == j
  | _ => false
 | _, _ => false
noncomputable def so (T : BT) : Bool := match sz T 3 with
 | some es => vD.all (fun p => isV p.2 (nsFind es p.1)) && tu.all fun p => (nsFind es p.1).isNone
 | none => false
noncomputable def tw (T : BT) : Bool := match sz T 0 with
 | some es => tu.all fun p => nsFind es p.1 == some p.2
 | none => false
noncomputable def kD (T : BT) (a : Nat) (x : Str) (v : Value) : Bool := match sz T a with
 | some es => oo es && nsFind es x == some v
 | none => false
noncomputable def lT (T : BT) (a : Nat) (q : Str) : Bool := match T.get a with
 | some o => match o.data with
  | .fields vs => match vs[1]? with
   | some (Value.str y _) => y == q
   | _ => false
  | _ => false
 | none => false
noncomputable def gm (f : FuncData) : FuncData := { f with doc := .none, pyModule := .none, closureTuple := .none, annotations := none }
noncomputable def uz : Option Obj → Option FuncData
 | some o => match o.data with
  | .func f => some (gm f)
  | _ => none
 | none => none
noncomputable def mX : List Nat := [2, 124, 132, 141, 142, 334, 386, 387, 388]
noncomputable def chkT (T : BT) : List Bool := [so T, tw T, kD T 125 "access_lists" (.bool true), kD T 182 "multiline" (.bool false), iO.all (fun t => lT T (t.a - 1) t.q), lU (eJ T mX), mG (eJ T mX)]
noncomputable def setL : List Nat := [72, 78, 87, 91]
noncomputable def lookX (σ : TS) : List Bool × List (Option FuncData) × List (Option Obj) := (chkT σ.T, iO.map (fun t => uz (σ.T.get t.a)), setL.map (σ.T.get ·))
noncomputable def goodX (f : Nat → Fl) : List Bool × List (Option FuncData) × List (Option Obj) := (List.replicate 7 true, iO.map (fun t => some (gm (iM t))), [some (fz (f 4).d), some (fz (f 7).d), some (fz (f 10).d), some (fz (f 11).d)])
theorem vC (w : World) (os : OsState) (f : Nat → Fl) : dQ (wb w false false) (fun r σ => (base (wb w false false) os r σ, lookX σ)) (fls f) (r0' (wb w false false)) = cn (!(w.params.followText "set-order")) f (bK w, goodX f) := by kernel_rfl
theorem vB (w : World) (os : OsState) (f : Nat → Fl) : dQ (wb w false true) (fun r σ => (base (wb w false true) os r σ, lookX σ)) (fls f) (r0' (wb w false true)) = cn (!(w.params.followText "set-order")) f (bK w, goodX f) := by kernel_rfl
theorem vA (w : World) (os : OsState) (f : Nat → Fl) : dQ (wb w true false) (fun r σ => (base (wb w true false) os r σ, lookX σ)) (fls f) (r0' (wb w true false)) = cn (!(w.params.followText "set-order")) f (bK w, goodX f) := by kernel_rfl
theorem vz (w : World) (os : OsState) (f : Nat → Fl) : dQ (wb w true true) (fun r σ => (base (wb w true true) os r σ, lookX σ)) (fls f) (r0' (wb w true true)) = cn (!(w.params.followText "set-order")) f (bK w, goodX f) := by kernel_rfl
theorem hch_all (w : World) (os : OsState) (f : Nat → Fl) : dQ w (fun r σ => (base w os r σ, lookX σ)) (fls f) (r0' w) = cn (!(w.params.followText "set-order")) f (bK w, goodX f) := by
 have h : ∀ a b, dQ (wb w a b) (fun r σ => (base (wb w a b) os r σ, lookX σ)) (fls f) (r0' (wb w a b)) = cn (!(w.params.followText "set-order")) f (bK w, goodX f) := fun a b => by
  cases a <;> cases b
  ·exact vC w os f
  ·exact vB w os f
  ·exact vA w os f
  exact vz w os f
 have := h (w.params.followText "comprehension-iter-twice") ((w.withFollow "comprehension-iter-twice" (w.params.followText "comprehension-iter-twice")).params.followText "special-get-raises");rwa [tM] at this
end
section
set_option tactic.hygienic true
theorem lP {T : BT} {h : Heap} (hown : ∀ i o, T.get i = some o → h.get? i = some o) : ∀ l : List Nat, (eJ T l).In h
 | [], a, o, e => by cases e
 | b :: l, a, o, e => by
  unfold eJ at e;split at e
  ·rename_i x hx;rw [List.lookup_cons] at e;split at e
   ·rename_i q;cases e;rw [beq_iff_eq.mp q];exact hown _ _ hx
   exact lP hown l a o e
  exact lP hown l a o e
theorem sy {T : BT} (hown : ∀ i o, T.get i = some o → h.get? i = some o) {a : Nat} {es : Array DictEntry} (e : sz T a = some es) : ∃ o n, h.get? a = some o ∧ o.data = .dict es n := by
 unfold sz at e;split at e
 ·rename_i o ho;split at e
  ·rename_i es' n hd;cases e;exact ⟨o, n, hown _ _ ho, hd⟩
  cases e
 cases e
theorem lx {m : Str → Option Value} (hn : h.Ns a m) {o : Obj} {es : Array DictEntry} {n : Nat} (ho : h.get? a = some o) (hd : o.data = .dict es n) (x : Str) : nsFind es x = m x := by
 obtain ⟨o', es', ep, ho', hd', _, hm⟩ := hn;rw [ho] at ho';cases ho';rw [hd] at hd';cases hd';exact hm x
theorem vw {x : Option Value} (h : isV v x = true) : ∃ V, x = some V ∧ ∀ φ h, RV φ h v V := by
 cases v with
 | glob v =>
  have h : (x == some v) = true := h;exact ⟨v, beq_iff_eq.mp h, fun φ h => by unfold RV; rfl⟩
 | int i =>
  cases x with
  | none => cases h
  | some v =>
   cases v with
   | int j t =>
    have h : (i == j) = true := h;rw [zk] at h;subst h;exact ⟨_, rfl, fun φ h => bq ..⟩
   | _ => cases h
 | _ => cases h
theorem uu {es : Array DictEntry} (h : oo es = true) : StrKeys es := fun e he => by
 unfold oo at h;rw [Array.all_eq_true_iff_forall_mem] at h;have := h e he;split at this
 ·rename_i n t q; exact ⟨n, t, q⟩
 cases this
theorem rD {T : BT} (hown : ∀ i o, T.get i = some o → h.get? i = some o) {a : Nat} {x : Str} {v : Value} (e : kD T a x v = true) : ∃ m, h.Ns a m ∧ m x = some v := by
 unfold kD at e;split at e
 ·rename_i es q;obtain ⟨e1, e2⟩ := Bool.and_eq_true_iff.mp e;obtain ⟨o, n, ho, hd⟩ := sy hown q;exact ⟨nsFind es, ⟨o, es, n, ho, hd, uu e1, fun _ => rfl⟩, beq_iff_eq.mp e2⟩
 cases e
theorem uF {T : BT} (hown : ∀ i o, T.get i = some o → h.get? i = some o) {a : Nat} {q : Str} (e : lT T a q = true) : h.CodeRec (.ref a) q := by
 unfold lT at e;split at e
 ·rename_i o ho;split at e
  ·rename_i vs hd;split at e
   ·rename_i y t hv;rw [zk] at e;subst e;exact ⟨a, o, vs, t, rfl, hown _ _ ho, hd, hv⟩
   cases e
  cases e
 cases e
theorem ul : ∀ {f g : FuncData}, gm f = gm g → f = { g with doc := f.doc, pyModule := f.pyModule, closureTuple := f.closureTuple, annotations := f.annotations } := by
 intro f g h;cases f; cases g;unfold gm at h;simp only [FuncData.mk.injEq] at h ⊢;simp only [true_and] at h ⊢;exact h
theorem fn_of {o : Option Obj} {g : FuncData} (h : uz o = some (gm g)) : ∃ ob f, o = some ob ∧ ob.data = .func f ∧ gm f = gm g := by
 unfold uz at h;split at h
 ·split at h
  ·rename_i ob f hd;injection h with h
   exact ⟨_, f, rfl, hd, h⟩
  cases h
 cases h
theorem iW {K : KB} {d : Data} (F : bv K.w d S n) (hn : n < 4096) (ho : K.h0.get? a = some (fz d)) : cQ K a S := by
 obtain ⟨es, ep, t, rfl, h1, h2, h3, h4, h5⟩ := F;exact ⟨n, ⟨es, ep, t, ho, h1, h2, h5, h4⟩, hn⟩
theorem vx {T : Str → Bool} (h : ∀ y, T y = true → (dm 32 y || decide (y = ⟨#[127]⟩)) = true) : illS T := fun y hy => by
 have := h y hy;rw [Bool.or_eq_true] at this;rcases this with h | h
 ·unfold dm at h;obtain ⟨c, hc, e⟩ := List.any_eq_true.mp h;exact ⟨c, yg e, .inl (List.mem_range.mp hc)⟩
 exact ⟨127, yg h, .inr rfl⟩
theorem uY {s₀ : Shared} (G : Ground q0 dY [] (fun _ _ => True) w s₀ mg mb h) (F : tH lookX goodX w h) : Wld ⟨w, h, os⟩ := by
 obtain ⟨f, σ, facts, hX, hown⟩ := F;have h1 : [so σ.T, tw σ.T, kD σ.T 125 "access_lists" (.bool true), kD σ.T 182 "multiline" (.bool false), iO.all (fun t => lT σ.T (t.a - 1) t.q), lU (eJ σ.T mX), mG (eJ σ.T mX)] = [true, true, true, true, true, true, true] := congrArg Prod.fst hX;have h2 : iO.map (fun t => uz (σ.T.get t.a)) = iO.map fun t => some (gm (iM t)) := congrArg (fun x => x.2.1) hX
 have h3 : [σ.T.get 72, σ.T.get 78, σ.T.get 87, σ.T.get 91] = [some (fz (f 4).d), some (fz (f 7).d), some (fz (f 10).d), some (fz (f 11).d)] := congrArg (fun x => x.2.2) hX;injection h1 with a0 h1; injection h1 with a1 h1; injection h1 with a2 h1; injection h1 with a3 h1; injection h1 with a4 h1; injection h1 with a5 h1; injection h1 with a6 _
 injection h3 with b0 h3; injection h3 with b1 h3; injection h3 with b2 h3; injection h3 with b3 _
 refine ⟨⟨_, lP hown mX, a5, a6⟩, G.T.nolimit, ⟨mg, G.T.g, ?_⟩, ⟨mb, G.T.b, ?_⟩, fun t ht => ?_, ?_, iW facts.ws (by decide) (hown _ _ b1), iW facts.bare (by decide) (hown _ _ b2), iW facts.hex (by decide) (hown _ _ b3), rD hown a2, rD hown a3⟩
 ·unfold so at a0;split at a0
  ·rename_i es q;obtain ⟨o, n, ho, hd⟩ := sy hown q;have hm := lx G.T.g ho hd;obtain ⟨c1, c2⟩ := Bool.and_eq_true_iff.mp a0;refine ⟨fun x v hx => ?_, fun p hp => ?_⟩
   ·have := List.all_eq_true.mp c1 _ (fM hx);rw [← hm];exact vw this
   have := List.all_eq_true.mp c2 p hp;rw [← hm];exact Option.isNone_iff_eq_none.mp this
  cases a0
 ·unfold tw at a1;split at a1
  ·rename_i es q;obtain ⟨o, n, ho, hd⟩ := sy hown q;have hm := lx G.T.b ho hd;intro x V hx;have := List.all_eq_true.mp a1 _ (fM hx);rw [← hm];exact beq_iff_eq.mp this
  cases a1
 ·obtain ⟨ob, fd, e1, e2, e3⟩ := fn_of (List.map_inj_left.mp h2 t ht);refine ⟨ob, fd.doc, fd.pyModule, fd.closureTuple, fd.annotations, hown _ _ e1, e2.trans (congrArg Data.func (ul e3)), uF hown (List.all_eq_true.mp a4 t ht)⟩
 obtain ⟨T, k, F, hk, hT⟩ := facts.ill;exact ⟨T, iW F (xV hk (by decide)) (hown _ _ b0), vx hT⟩
end
section
set_option tactic.hygienic true
theorem jz {R : WRecords} : ∀ {xs : List WData}, WShape.hasItems R xs .int = true → ∃ ns : List Int, xs = ns.map WData.int
 | [], _ => ⟨[], rfl⟩
 | d :: r, h => by
  unfold WShape.hasItems at h;obtain ⟨h1, h2⟩ := Bool.and_eq_true_iff.mp h;obtain ⟨i, rfl⟩ := hasW_int h1;obtain ⟨ns, rfl⟩ := jz h2;exact ⟨i :: ns, rfl⟩
theorem uK {args : List WData} (h : cv.toRowW.claim.pre args = true) : ∃ xs : List Int, args = [.list (xs.map WData.int)] ∧ xs.length ≤ 63 := by
 obtain ⟨h1, h2⟩ := pre_splitW h;have h1 : WShape.hasAll [] args [.list .int] = true := h1;obtain ⟨d, r, rfl, h3, h4⟩ := hasAllW_cons h1;obtain rfl := hasAllW_nil h4;obtain ⟨xs, rfl, h5⟩ := hasW_list h3;obtain ⟨ns, rfl⟩ := jz h5;refine ⟨ns, rfl, ?_⟩;have h2 : WTm.holds [] (.and (.not (.lt (.lit (.int (63 : Nat))) (.len (.arg 0)))) (.lit (.bool true))) { args := [.list (ns.map WData.int)] } = true := h2;have e : less? (.int (63 : Nat)) (.int ns.length) = some (decide (((63 : Nat) : Int) < ns.length)) := rfl;simp [WTm.holds, WTm.value] at h2;rw [show less? (.int 63) (.int (ns.length : Int)) = some (decide ((63 : Int) < ns.length)) from e] at h2;rcases z0 63 ns.length with q | q
 ·rw [decide_eq_true (by exact yz q : (63 : Int) < ns.length)] at h2;cases h2
 exact q
theorem qp {R : WRecords} {cl : Str → Option Addr} {ns : List Int} : ∀ {vs : List Value} {as : List Addr}, ReadsAllW R cl h vs (ns.map WData.int) as → ∀ φ h', RL φ h' (ns.map Val.int) vs := by
 induction ns with
 | nil =>
  intro vs as r φ h';obtain ⟨rfl, _⟩ := readsAllW_nil_inv r;unfold RL; rfl
 | cons n ns ih =>
  intro vs as r φ h';obtain ⟨v, vs', a1, a2, rfl, _, r1, r2⟩ := readsAllW_cons_inv r;obtain ⟨t, rfl, _⟩ := readsW_int_inv r1;rw [yR];unfold RL;exact ⟨_, _, rfl, bq .., ih r2 φ h'⟩
theorem pZ (args ds : List WData) : cv.toRowW.claim.post args (.bool true) ds = true := by
 show (WShape.has [] (.bool true) .bool && WTm.holds [] (.eq .res (.lit (.bool true))) { args := args, res := some (.bool true), after := ds }) = true;rw [yu];exact ⟨by decide +kernel, by rw [WTm.holds, show WTm.value [] (.eq .res (.lit (.bool true))) { args := args, res := some (.bool true), after := ds } = some (.bool true) by simp [WTm.value, show same (.bool true) (.bool true) = true by decide +kernel]]⟩
theorem rQ {cl : Str → Option Addr} {vs : List Value} {as : List Addr} {xs : List Int} (hrd : ReadsAllW [] cl h vs [.list (xs.map WData.int)] as) : ∃ a, vs = [.ref a] ∧ du ⟨w, h, os⟩ a xs := by
 obtain ⟨v, vs', a1, a2, rfl, _, r1, r2⟩ := readsAllW_cons_inv hrd;obtain ⟨rfl, _⟩ := readsAllW_nil_inv r2;obtain ⟨a, ws, as', rfl, hl, r, _⟩ := readsW_list_inv r1;exact ⟨a, rfl, ws, hl, qp r⟩
theorem rP {s₀ : Shared} (H : Wld ⟨w, h, os⟩) (G : Ground q0 dY [] (fun _ _ => True) w s₀ mg mb h) : mg "law" = some (.ref 452) := by
 obtain ⟨mg', hg', h1, _⟩ := H.glb;obtain ⟨V, hV, hr⟩ := h1 "law" (.glob (.ref 452)) rfl;have hr := hr [] h;unfold RV at hr;subst hr;obtain ⟨o, es, ep, ho, hd, _, hm⟩ := hg';rw [← lx G.T.g ho hd];exact (hm "law").trans hV
theorem ginv0 {s : Shared} (hgens : s.gens = #[]) : af ⟨⟨w, s.heap, s.os⟩, []⟩ [] [] s :=
 ⟨fun _ _ e => e, z6 _, rfl, List.nodup_nil, fun a ha => (by cases ha), fun k a c h => (by cases h), rfl, hgens, fun e he => (by cases he)⟩
theorem qq {s : Shared} {σ : a8} {cl : Str → Option Addr} {ex : ExcName → Option Value} {args : List WData} (G : af ⟨⟨w, s.heap, s.os⟩, []⟩ φ σ s') (hg : s.gens = #[]) (r : RV φ s'.heap v V) (hv : v = .bool true) : GoodW cv.toRowW.claim cl ex args s (.ok (.ret V)) s' := by
 subst hv;unfold RV at r;subst r;exact ⟨.inl ⟨_, .bool true, [], rfl, fun _ => rfl, .bool _, pZ _ _, fun _ => ⟨List.nodup_nil, fun a ha => by cases ha⟩⟩, G.base, G.os, G.gens⟩
theorem call_law (w : World) (s₀ s₁ : Shared) (mg mb : Str → Option Value) (G : Ground q0 dY [] (fun _ _ => True) w s₀ mg mb s₁.heap) (F : tH lookX goodX w s₁.heap) (args : List WData) (vs : List Value) (as : List Addr)
  (hpre : cv.toRowW.claim.pre args = true) (hgens : s₁.gens = #[]) (hrd : ReadsAllW [] (classAt s₀.heap) s₁.heap vs args as) : ∃ f, mg cv.name = some f ∧
   wpAny (model pw w) callerA (PySem.call f vs) (fun v s' => GoodW cv.toRowW.claim (classAt s₀.heap) (ExcName.means s₀.heap) args s₁ (.ok (.ret v)) s')
    (fun e s' => GoodW cv.toRowW.claim (classAt s₀.heap) (ExcName.means s₀.heap) args s₁ (.error e) s') s₁ := by
 obtain ⟨xs, rfl, hx⟩ := uK hpre;have H : Wld ⟨w, s₁.heap, s₁.os⟩ := uY G F;refine ⟨.ref 452, rP H G, ?_⟩;obtain ⟨a, rfl, hk⟩ := rQ (w := w) (os := s₁.os) hrd;exact vt (K := ⟨⟨w, s₁.heap, s₁.os⟩, []⟩) (d := 0) (σ := []) H hk (xV hx (by decide)) (fun c hc => by cases hc) callerA [] s₁ [.ref a] [] ⟨fun _ => rfl, rfl, by decide, by decide⟩ (ginv0 hgens) (by unfold RL; exact ⟨_, [], rfl, by unfold RV; rfl, by unfold RL; rfl⟩) (by show RL _ _ [] _; unfold RL; rfl) _ _ fun φ' s' V v σ' X G' r hv =>
  qq G' hgens r hv
end
end
end Mine
section
namespace Mine
open PySem PySem.W PySem.Calls PyProof.Rows
theorem said1 : namesResolve pw = true := by kernel_rfl
theorem said2 : noRoadLSs { strict := !(importedModules pw.main.body).all cThrough.contains, foot := none, bare := (["vars", "dir", "locals"] : List Str).filter (readsOut pw pw.main.body) } pw.main.body = true := by kernel_rfl
theorem said3 : (namesMeet pw pw.main.body fun _ n => attrL n) = true := by kernel_rfl
theorem said4 : looksOpen pw = true := by
 delta looksOpen
 exact look_both (look_both (look_both (look_both (by kernel_rfl) said1) (by kernel_rfl)) said2) said3
theorem said5 : cv.wellSaid = true := by
 delta OpenRow.wellSaid OpenRow.partSaid
 iterate 15 (refine look_both ?_ (by kernel_rfl))
 exact said4
theorem said6 : PySem.Challenge.rw_ik0129_01.wellSaid = true := by
 delta OpenLaw.wellSaid
 iterate 18 (refine look_both ?_ (by kernel_rfl))
 exact said5
theorem row_promised : cv.toRowW.promised := ⟨[.list []], by decide +kernel, by decide +kernel⟩
end Mine
open PySem PySem.W PyProof.Rows in
theorem PySem.Challenge.cw_ik0129_01_holds : PySem.Challenge.rw_ik0129_01.Holds :=
 ⟨Mine.said6, Mine.holds_mine (X := Mine.lookX) (b := Mine.goodX) Mine.hch_all (by rfl) (by rfl) (by rfl) Mine.said5 Mine.row_promised fun w s₀ s₁ mg mb G F args vs as hpre _ hgens hrd => Mine.call_law w s₀ s₁ mg mb G F args vs as hpre hgens hrd⟩
end
